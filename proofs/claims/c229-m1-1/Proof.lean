import JvmDerived
import JvmDerived.Pilot.@@N@@Statement
import JvmDerived.Pilot.@@N@@Code
set_option linter.unusedVariables false
set_option linter.unusedSimpArgs false
namespace Jvm.RoadKit
open Sem ClassFile Op Lib Jvm.Stand Jvm.Free Jvm.LawKit
section New
variable {p : Program} {l : Launch} {e : Env} {R : Room} {s : State} {m : MethodId} {args : Array Value} {below : List Frame} {meth : Method} {c : Code} {T : State} {locs : List Loc} {cells slots : Nat}
theorem own_retI (X : Stand p l e R s m args below meth c T locs cells slots) (hx : p.tables.exec = Jvm.exec) {pc : Nat} {Ls : Array Slot} {z : Int32} {rest : List Value} (hret : meth.sig.returnType = some .int) (hd : decode c.code pc = .ok (.ireturn, 1)) {fs : List Frame}
    (hl : ∀ (f : JFrame) (acts : List Action), f.method = m → f.locked = none → f.entered = [] → (doReturn e (T.setTop f) acts (some (.int z))).1 = T.setFrames fs) : Steps p.tables e below (T.setTop (mkF m pc Ls (.int z :: rest))) (T.setFrames fs) :=
  retOut X hx hret rfl (Or.inl ⟨rfl, Or.inl rfl, z, rfl⟩) hd hl
theorem own_retL (X : Stand p l e R s m args below meth c T locs cells slots) (hx : p.tables.exec = Jvm.exec) {pc : Nat} {Ls : Array Slot} {z : Int64} {rest : List Value} (hret : meth.sig.returnType = some .long) (hd : decode c.code pc = .ok (.lreturn, 1)) {fs : List Frame}
    (hl : ∀ (f : JFrame) (acts : List Action), f.method = m → f.locked = none → f.entered = [] → (doReturn e (T.setTop f) acts (some (.long z))).1 = T.setFrames fs) : Steps p.tables e below (T.setTop (mkF m pc Ls (.long z :: rest))) (T.setFrames fs) :=
  retOut X hx hret rfl (Or.inr (Or.inl ⟨rfl, rfl, z, rfl⟩)) hd hl
theorem own_retA (X : Stand p l e R s m args below meth c T locs cells slots) (hx : p.tables.exec = Jvm.exec) {pc : Nat} {Ls : Array Slot} {w : Value} {t : FieldType} {rest : List Value} (hret : meth.sig.returnType = some t) (ht : t.isReference = true) (hw : w.isRef = true) (hd : decode c.code pc = .ok (.areturn, 1)) {fs : List Frame}
    (hl : ∀ (f : JFrame) (acts : List Action), f.method = m → f.locked = none → f.entered = [] → (doReturn e (T.setTop f) acts (some w)).1 = T.setFrames fs) : Steps p.tables e below (T.setTop (mkF m pc Ls (w :: rest))) (T.setFrames fs) :=
  retOut X hx hret (by cases t <;> cases w <;> simp_all [narrow, Value.isRef, FieldType.isReference]) (Or.inr (Or.inr (Or.inr (Or.inr ⟨rfl, ht, hw⟩)))) hd hl
end New
end Jvm.RoadKit
namespace Jvm.Pilot.@@N@@
open Jvm Jvm.ClassFile Sem Op Lib Jvm.Free Jvm.Stand Jvm.LawKit Jvm.RoadKit Bundle Jvm.Pilot.@@N@@.Jvm.D
theorem own_lcEt {x y : Int64} (h : x = y) : lcmpW x y = (0 : Int32) := by rw [lcW]; exact (lc_eq x y).mpr h
theorem own_lcEf {x y : Int64} (h : ¬ (x = y)) : ¬ (lcmpW x y = (0 : Int32)) := by rw [lcW]; exact fun q => h ((lc_eq x y).mp q)
theorem own_lcLt {x y : Int64} (h : x < y) : lcmpW x y < (0 : Int32) := by rw [lcW]; exact (lc_lt x y).mpr h
theorem own_lcLf {x y : Int64} (h : ¬ (x < y)) : ¬ (lcmpW x y < (0 : Int32)) := by rw [lcW]; exact fun q => h ((lc_lt x y).mp q)
theorem own_lcGt {x y : Int64} (h : y < x) : (0 : Int32) < lcmpW x y := by rw [lcW]; exact (lc_gt x y).mpr h
theorem own_lcGf {x y : Int64} (h : ¬ (y < x)) : ¬ ((0 : Int32) < lcmpW x y) := by rw [lcW]; exact fun q => h ((lc_gt x y).mp q)
theorem own_ext_refl (h : Heap) : Ext h h := ⟨Nat.le_refl _, fun _ _ q => q⟩
theorem own_ext_trans {h h' h'' : Heap} (E : Ext h h') (F : Ext h' h'') : Ext h h'' := ⟨Nat.le_trans E.1 F.1, fun a c q => F.2 a c (E.2 a c q)⟩
theorem own_ext_wr {h h' h'' : Heap} {a : Addr} {sl : Nat} {v : Value} (E : Ext h h') (W : Wr h' h'' a sl v) (q : h.size ≤ a) : Ext h h'' := by
  obtain ⟨cell, -, -, -, rfl⟩ := W
  refine ⟨by simpa using E.1, fun b c r => ?_⟩
  have hb : b < h.size := (Array.getElem?_eq_some_iff.mp r).1
  rw [Array.getElem?_setIfInBounds_ne (Nat.ne_of_gt (Nat.lt_of_lt_of_le hb q))]
  exact E.2 b c r
theorem own_fldI {args : Array Value} {s : State} {t : Term} {a : Addr} {C n d : String} {k : Int32} (ev : t.eval args s none [] s = some (.ref a)) (h : (Cond.eq (.field t C n d) (.int k)).value args s none s [] = some true) : Fld s s.heap a C n d (.int k) := by
  obtain ⟨u, v, h1, h2, -, k2⟩ := cmp_v (Or.inl h)
  have e2 : (Term.int k).eval args s none [] s = some (.int k) := rfl
  cases e2.symm.trans h2
  obtain ⟨z, rfl⟩ := k2
  have q : z = k := by simpa [Cond.value, h1, e2] using h
  subst q
  exact Fld.start ((fld_at ev).symm.trans h1)
theorem own_fldJ {args : Array Value} {s : State} {t : Term} {a : Addr} {C n d : String} {k : Int64} (ev : t.eval args s none [] s = some (.ref a)) (h : (Cond.eq (.field t C n d) (.long k)).value args s none s [] = some true) : Fld s s.heap a C n d (.long k) := by
  obtain ⟨u, v, h1, h2, -, k2⟩ := cmp_v (Or.inl h)
  have e2 : (Term.long k).eval args s none [] s = some (.long k) := rfl
  cases e2.symm.trans h2
  obtain ⟨z, rfl⟩ := k2
  have q : z = k := by simpa [Cond.value, h1, e2] using h
  subst q
  exact Fld.start ((fld_at ev).symm.trans h1)
theorem own_fldN {args : Array Value} {s : State} {t : Term} {a : Addr} {C n d : String} (ev : t.eval args s none [] s = some (.ref a)) (h : (Cond.eq (.field t C n d) .null).value args s none s [] = some true) : Fld s s.heap a C n d .null :=
  Fld.start ((fld_at ev).symm.trans (null_v h))
theorem own_eqR {args : Array Value} {s : State} {t u : Term} {b : Addr} (eu : u.eval args s none [] s = some (.ref b)) (h : (Cond.eq t u).value args s none s [] = some true) : t.eval args s none [] s = some (.ref b) := by
  obtain ⟨x, y, h1, h2, k1, k2⟩ := cmp_v (Or.inl h)
  cases eu.symm.trans h2
  have hx : x.isRef = true := k2.2
  have q := gotT (eq_R h1 h2 hx rfl) h
  rw [h1, q]
theorem own_fldR {args : Array Value} {s : State} {t u : Term} {a b : Addr} {C n d : String} (ev : t.eval args s none [] s = some (.ref a)) (eu : u.eval args s none [] s = some (.ref b)) (h : (Cond.eq (.field t C n d) u).value args s none s [] = some true) : Fld s s.heap a C n d (.ref b) :=
  Fld.start ((fld_at ev).symm.trans (own_eqR eu h))
theorem own_elI {args : Array Value} {s : State} {t : Term} {a : Addr} {cl : Cell} {j k : Int32} {i : Nat} (ev : t.eval args s none [] s = some (.ref a)) (hc : s.heap[a]? = some cl) (h : (Cond.eq (.elem t (.int j)) (.int k)).value args s none s [] = some true) (hj : j.toNatClampNeg = i) : cl.slots[i]? = some (.int k) := by
  obtain ⟨u, v, h1, h2, -, k2⟩ := cmp_v (Or.inl h)
  have e2 : (Term.int k).eval args s none [] s = some (.int k) := rfl
  cases e2.symm.trans h2
  obtain ⟨z, rfl⟩ := k2
  have q : z = k := by simpa [Cond.value, h1, e2] using h
  subst q hj
  exact (elem_in h1 ev (rfl : (Term.int j).eval args s none [] s = some (.int j)) hc).2
theorem own_elR {args : Array Value} {s : State} {t u : Term} {a b : Addr} {cl : Cell} {j : Int32} {i : Nat} (ev : t.eval args s none [] s = some (.ref a)) (eu : u.eval args s none [] s = some (.ref b)) (hc : s.heap[a]? = some cl) (h : (Cond.eq (.elem t (.int j)) u).value args s none s [] = some true) (hj : j.toNatClampNeg = i) : cl.slots[i]? = some (.ref b) := by
  subst hj
  exact (elem_in (own_eqR eu h) ev (rfl : (Term.int j).eval args s none [] s = some (.int j)) hc).2
theorem own_len {args : Array Value} {s : State} {t : Term} {a : Addr} {cl : Cell} {ty : FieldType} {k : Int32} (ev : t.eval args s none [] s = some (.ref a)) (A : Arr s s.heap a cl ty) (h : (Cond.eq (.length t) (.int k)).value args s none s [] = some true) : cl.slots.size < 2 ^ 31 ∧ cl.slots.size.toInt32 = k := by
  obtain ⟨u, v, h1, h2, -, k2⟩ := cmp_v (Or.inl h)
  have e2 : (Term.int k).eval args s none [] s = some (.int k) := rfl
  cases e2.symm.trans h2
  obtain ⟨z, rfl⟩ := k2
  have q : z = k := by simpa [Cond.value, h1, e2] using h
  subst q
  have ha := A.fin (Vm.Alike.refl _)
  simp only [Term.eval, ev, ha, Option.bind_eq_bind, Option.bind_some] at h1
  split at h1
  · rename_i q
    exact ⟨q, by simpa using h1⟩
  · cases h1
theorem own_bmod {n : Int} (h1 : -2147483648 ≤ n) (h2 : n < 2147483648) : n.bmod (2 ^ 32) = n := Int.bmod_eq_of_le (by omega) (by omega)
theorem own_add {x y : Int32} (h1 : -2147483648 ≤ x.toInt + y.toInt) (h2 : x.toInt + y.toInt < 2147483648) : (x + y).toInt = x.toInt + y.toInt := by rw [Int32.toInt_add, own_bmod h1 h2]
theorem own_mask4 (p : Int32) : (p &&& (3 : Int32)).toInt = p.toInt % 4 := by
  have h1 : (p &&& (3 : Int32)).toInt = ((p &&& (3 : Int32)).toBitVec).toInt := rfl
  have h2 : (p &&& (3 : Int32)).toBitVec = p.toBitVec &&& 3#32 := by simp [Int32.toBitVec_and]
  have h3 : p.toInt = p.toBitVec.toInt := rfl
  rw [h1, h2, h3, BitVec.toInt_eq_toNat_bmod, BitVec.toInt_eq_toNat_bmod, BitVec.toNat_and]
  have h4 : p.toBitVec.toNat &&& (3#32).toNat = p.toBitVec.toNat % 2 ^ 2 := Nat.and_two_pow_sub_one_eq_mod _ 2
  rw [h4]
  have h5 := p.toBitVec.isLt
  generalize p.toBitVec.toNat = n at *
  simp only [Int.bmod_def]
  omega
theorem own_ushr {p k : Int32} {n : Nat} (hk : ((k &&& (31 : Int32)).toUInt32).toNat = n) (hn : 1 ≤ n) (hn2 : n < 32) : ((p.toUInt32 >>> (k &&& (31 : Int32)).toUInt32).toInt32).toInt = ((p.toUInt32.toNat / 2 ^ n : Nat) : Int) := by
  have h5 := p.toUInt32.toNat_lt
  have h1 : (p.toUInt32 >>> (k &&& (31 : Int32)).toUInt32).toNat = p.toUInt32.toNat / 2 ^ n := by
    rw [UInt32.toNat_shiftRight, hk, Nat.mod_eq_of_lt hn2, Nat.shiftRight_eq_div_pow]
  have h2 : p.toUInt32.toNat / 2 ^ n < 2 ^ 31 := by
    have h3 : p.toUInt32.toNat / 2 ^ n ≤ p.toUInt32.toNat / 2 ^ 1 := Nat.div_le_div_left (Nat.pow_le_pow_right (by decide) hn) (by decide)
    omega
  show ((p.toUInt32 >>> (k &&& (31 : Int32)).toUInt32).toInt32).toBitVec.toInt = _
  have h6 : ((p.toUInt32 >>> (k &&& (31 : Int32)).toUInt32).toInt32).toBitVec.toNat = p.toUInt32.toNat / 2 ^ n := h1
  rw [BitVec.toInt_eq_toNat_bmod, h6]
  generalize p.toUInt32.toNat / 2 ^ n = k at *
  exact own_bmod (by omega) (by omega)
theorem own_nn {p k : Int32} {n : Nat} (hk : ((k &&& (31 : Int32)).toUInt32).toNat = n) (hn : 1 ≤ n) (hn2 : n < 32) : ¬ ((p.toUInt32 >>> (k &&& (31 : Int32)).toUInt32).toInt32) < (0 : Int32) := by
  rw [Int32.lt_iff_toInt_lt, own_ushr hk hn hn2]
  have : (0 : Int32).toInt = 0 := by decide
  generalize p.toUInt32.toNat / 2 ^ n = k at *
  omega
theorem own_arith {v0 v1 v2 a0 a1 a2 : Int32} (h0 : a0 = ((v0.toUInt32 >>> ((3 : Int32) &&& 31).toUInt32).toInt32)) (h1 : a1 = ((a0 + (1 : Int32)) + ((v1.toUInt32 >>> ((3 : Int32) &&& 31).toUInt32).toInt32))) (h2 : a2 = ((a1 + (1 : Int32)) + ((v2.toUInt32 >>> ((2 : Int32) &&& 31).toUInt32).toInt32))) :
    ¬ a0 < (0 : Int32) ∧ a0 < a1 ∧ ¬ a1 < (0 : Int32) ∧ a1 < a2 ∧ ¬ a2 < (0 : Int32) := by
  have e0 : a0.toInt = ((v0.toUInt32.toNat / 2 ^ 3 : Nat) : Int) := by rw [h0]; exact own_ushr (by decide) (by decide) (by decide)
  have e1 := own_ushr (p := v1) (k := (3 : Int32)) (n := 3) (by decide) (by decide) (by decide)
  have e2 := own_ushr (p := v2) (k := (2 : Int32)) (n := 2) (by decide) (by decide) (by decide)
  have l0 := v0.toUInt32.toNat_lt
  have l1 := v1.toUInt32.toNat_lt
  have l2 := v2.toUInt32.toNat_lt
  have o1 : (1 : Int32).toInt = 1 := by decide
  have z0 : (0 : Int32).toInt = 0 := by decide
  have f1 : a1.toInt = a0.toInt + 1 + ((v1.toUInt32.toNat / 2 ^ 3 : Nat) : Int) := by
    have g1 : (a0 + (1 : Int32)).toInt = a0.toInt + 1 := by rw [own_add (by omega) (by omega), o1]
    rw [h1, own_add (by omega) (by omega), g1, e1]
  have f2 : a2.toInt = a1.toInt + 1 + ((v2.toUInt32.toNat / 2 ^ 2 : Nat) : Int) := by
    have g1 : (a1 + (1 : Int32)).toInt = a1.toInt + 1 := by rw [own_add (by omega) (by omega), o1]
    rw [h2, own_add (by omega) (by omega), g1, e2]
  simp only [Int32.lt_iff_toInt_lt, z0]
  refine ⟨?_, ?_, ?_, ?_, ?_⟩ <;> omega
theorem own_and3 {z q : Int32} (h : z = q &&& (3 : Int32)) : z = (0 : Int32) ∨ z = (1 : Int32) ∨ z = (2 : Int32) ∨ z = (3 : Int32) := by
  have e1 : z.toInt = q.toInt % 4 := by rw [h]; exact own_mask4 q
  have e2 : z.toInt = 0 ∨ z.toInt = 1 ∨ z.toInt = 2 ∨ z.toInt = 3 := by omega
  have k : ∀ {c : Int32} {k : Int}, c.toInt = k → z.toInt = k → z = c := fun h1 h2 => Int32.toInt_inj.mp (h2.trans h1.symm)
  rcases e2 with e | e | e | e
  · exact Or.inl (k (by decide) e)
  · exact Or.inr (Or.inl (k (by decide) e))
  · exact Or.inr (Or.inr (Or.inl (k (by decide) e)))
  · exact Or.inr (Or.inr (Or.inr (k (by decide) e)))
theorem own_lt3 {z q : Int32} (hq : q = (0 : Int32) ∨ q = (1 : Int32) ∨ q = (2 : Int32) ∨ q = (3 : Int32)) (h : z = q % (3 : Int32)) : z = (0 : Int32) ∨ z = (1 : Int32) ∨ z = (2 : Int32) := by
  rcases hq with e | e | e | e <;> subst e <;> subst h <;> decide
theorem own_cs3 {z q : Int32} (h : z = (q &&& (3 : Int32)) % (3 : Int32)) : z = (0 : Int32) ∨ z = (1 : Int32) ∨ z = (2 : Int32) := own_lt3 (own_and3 rfl) h
theorem own_byte {z q : Int32} (h : z = (q &&& (3 : Int32)) % (3 : Int32)) : z.toInt8.toInt32 = z := by
  rcases own_cs3 h with e | e | e <;> subst e <;> decide
def World (Z : State) (h : Heap) (wSUSCEPTIBLE : Addr) (wRECOVERED : Addr) (wINFECTED : Addr) : Prop := Sta Z h "com/example/rippletide/rippletide/model/State" "SUSCEPTIBLE" "Lcom/example/rippletide/rippletide/model/State;" (.ref wSUSCEPTIBLE) ∧ Exa Z h wSUSCEPTIBLE "com/example/rippletide/rippletide/model/State" ∧ Fld Z h wSUSCEPTIBLE "java/lang/Enum" "ordinal" "I" (.int (0 : Int32)) ∧ Sta Z h "com/example/rippletide/rippletide/model/State" "RECOVERED" "Lcom/example/rippletide/rippletide/model/State;" (.ref wRECOVERED) ∧ Exa Z h wRECOVERED "com/example/rippletide/rippletide/model/State" ∧ Fld Z h wRECOVERED "java/lang/Enum" "ordinal" "I" (.int (2 : Int32)) ∧ Sta Z h "com/example/rippletide/rippletide/model/State" "INFECTED" "Lcom/example/rippletide/rippletide/model/State;" (.ref wINFECTED) ∧ Exa Z h wINFECTED "com/example/rippletide/rippletide/model/State" ∧ Fld Z h wINFECTED "java/lang/Enum" "ordinal" "I" (.int (1 : Int32)) ∧ True
theorem World.ext {Z : State} {h h' : Heap} {wSUSCEPTIBLE : Addr} {wRECOVERED : Addr} {wINFECTED : Addr} (W : World Z h wSUSCEPTIBLE wRECOVERED wINFECTED) (E : Ext h h') : World Z h' wSUSCEPTIBLE wRECOVERED wINFECTED := by
  obtain ⟨SSUSCEPTIBLE, ESUSCEPTIBLE, FSUSCEPTIBLE_ordinal, SRECOVERED, ERECOVERED, FRECOVERED_ordinal, SINFECTED, EINFECTED, FINFECTED_ordinal, -⟩ := W
  exact ⟨SSUSCEPTIBLE.ext E, ESUSCEPTIBLE.ext E, FSUSCEPTIBLE_ordinal.ext E, SRECOVERED.ext E, ERECOVERED.ext E, FRECOVERED_ordinal.ext E, SINFECTED.ext E, EINFECTED.ext E, FINFECTED_ordinal.ext E, trivial⟩
def Obj (Z : State) (h : Heap) (n0 : Nat) (a : Addr) (b_vertices : Addr) (k_vertices : ClassId) (x_vertices_0 : Int32) (x_vertices_1 : Int32) (x_vertices_2 : Int32) (b_states : Addr) (k_states : ClassId) (x_states_0 : Int32) (x_states_1 : Int32) (x_states_2 : Int32) (v_count : Int32) : Prop := Exa Z h a "com/example/rippletide/rippletide/model/StateChanges" ∧ n0 ≤ a ∧ Fld Z h a "com/example/rippletide/rippletide/model/StateChanges" "vertices" "[I" (.ref b_vertices) ∧ Fld Z h a "com/example/rippletide/rippletide/model/StateChanges" "states" "[B" (.ref b_states) ∧ Fld Z h a "com/example/rippletide/rippletide/model/StateChanges" "count" "I" (.int v_count) ∧ n0 ≤ b_vertices ∧ a ≠ b_vertices ∧ Arv Z h b_vertices k_vertices .int (16 : Int32) [(.int x_vertices_0), (.int x_vertices_1), (.int x_vertices_2), (.int (0 : Int32)), (.int (0 : Int32)), (.int (0 : Int32)), (.int (0 : Int32)), (.int (0 : Int32)), (.int (0 : Int32)), (.int (0 : Int32)), (.int (0 : Int32)), (.int (0 : Int32)), (.int (0 : Int32)), (.int (0 : Int32)), (.int (0 : Int32)), (.int (0 : Int32))] (.int (0 : Int32)) ∧ n0 ≤ b_states ∧ a ≠ b_states ∧ Arv Z h b_states k_states .byte (16 : Int32) [(.int x_states_0), (.int x_states_1), (.int x_states_2), (.int (0 : Int32)), (.int (0 : Int32)), (.int (0 : Int32)), (.int (0 : Int32)), (.int (0 : Int32)), (.int (0 : Int32)), (.int (0 : Int32)), (.int (0 : Int32)), (.int (0 : Int32)), (.int (0 : Int32)), (.int (0 : Int32)), (.int (0 : Int32)), (.int (0 : Int32))] (.int (0 : Int32)) ∧ b_vertices ≠ b_states ∧ True
theorem d1_0 : decode method_2_code 0 = .ok (.iload_n 0, 1) := by decide +kernel
theorem d1_1 : decode method_2_code 1 = .ok (.ifCond .ne 7, 3) := by decide +kernel
theorem d1_4 : decode method_2_code 4 = .ok (.getstatic 7, 3) := by decide +kernel
theorem d1_7 : decode method_2_code 7 = .ok (.areturn, 1) := by decide +kernel
theorem d1_8 : decode method_2_code 8 = .ok (.iload_n 0, 1) := by decide +kernel
theorem d1_9 : decode method_2_code 9 = .ok (.iconst 1, 1) := by decide +kernel
theorem d1_10 : decode method_2_code 10 = .ok (.if_icmp .ne 7, 3) := by decide +kernel
theorem d1_13 : decode method_2_code 13 = .ok (.getstatic 13, 3) := by decide +kernel
theorem d1_16 : decode method_2_code 16 = .ok (.areturn, 1) := by decide +kernel
theorem d1_17 : decode method_2_code 17 = .ok (.getstatic 16, 3) := by decide +kernel
theorem d1_20 : decode method_2_code 20 = .ok (.areturn, 1) := by decide +kernel
theorem pn_0 : plainName "com/example/rippletide/rippletide/model/StateChangesHashCodePinLaw" = true := by first | (simp [plainName, overriddenIn]; done) | decide +kernel
def f1 (p0 : Int32) (wSUSCEPTIBLE : Addr) (wRECOVERED : Addr) (wINFECTED : Addr) : Addr := if p0 = (0 : Int32) then wSUSCEPTIBLE else if p0 = (1 : Int32) then wINFECTED else wRECOVERED
theorem ef_1 (m : MethodId) (p0 : Int32) : entryFrame m #[(.int p0)] 1 = mkF m 0 #[.val (.int p0)] [] := by first | (simp [entryFrame, mkF, argsToLocals, Value.category]; done) | rfl
def Q1 (Z : State) (p0 : Int32) (wSUSCEPTIBLE : Addr) (wRECOVERED : Addr) (wINFECTED : Addr) (h0 : Heap) (n0 : Nat) (v : Option Value) (h : Heap) (L : List Loc) : Prop := v = some (.ref (f1 p0 wSUSCEPTIBLE wRECOVERED wINFECTED)) ∧ Fr n0 L ∧ h = h0
set_option maxRecDepth 65536 in
set_option maxHeartbeats 40000000 in
theorem rm1 (l : Launch) (Z : State) (a0 : Array Value) (hw : ∀ d ∈ tables_1, d.before a0 Z = true) (ws : List Jvm.Cond) (p0 : Int32) (wSUSCEPTIBLE : Addr) (wRECOVERED : Addr) (wINFECTED : Addr) (h0 : Heap) (n0 : Nat) (Z0 : n0 ≤ h0.size) (W0 : World Z h0 wSUSCEPTIBLE wRECOVERED wINFECTED) :
    MetFree l (⟨"com/example/rippletide/rippletide/model/StateChangesHashCodePinLaw", "state", "(I)Lcom/example/rippletide/rippletide/model/State;"⟩ : MethodName) (head1 (Jvm.Cond.code (⟨"com/example/rippletide/rippletide/model/StateChangesHashCodePinLaw", "state", "(I)Lcom/example/rippletide/rippletide/model/State;"⟩ : MethodName) method_2_code 1 (some (.object "com/example/rippletide/rippletide/model/State")) :: ws) ({ frames := 0, cells := 0, slots := 0, locals := 0 } : Room)) (fun a U => a = #[(.int p0)] ∧ Z.Warmed39 U.vm ∧ U.heap = h0) (fun _ _ _ _ _ => True) (fun _ U o U' => ∃ v L, o = .returned v ∧ Q1 Z p0 wSUSCEPTIBLE wRECOVERED wINFECTED h0 n0 v U'.heap L ∧ FrameEnd U o U' L ({ frames := 0, cells := 0, slots := 0, locals := 0 } : Room).cells ({ frames := 0, cells := 0, slots := 0, locals := 0 } : Room).slots) := by
  refine MetFree.of_bodySF (plainFor_of_name pn_0) hisR ?_
  intro p e s m args below meth c s₁ Bd hml0 hP hK
  obtain ⟨rfl, hZ, hh⟩ := hP
  have hx := Bd.exec
  have hby := Bd.bytes
  have hml : c.maxLocals = 1 := hml0
  have hown : s.vm.findClass "com/example/rippletide/rippletide/model/StateChangesHashCodePinLaw" = some m.cls := findClass_of_methodNamed Bd.named
  have X0 : Stand p l e ({ frames := 0, cells := 0, slots := 0, locals := 0 } : Room) s m #[(.int p0)] below meth c s₁ [] 0 0 := Stand.of_body Bd
  have e0 : s₁.heap = h0 := by rw [← hh, Bd.state]; rfl
  have N0 := Fr.nil n0
  have W1 := W0
  obtain ⟨SSUSCEPTIBLE, ESUSCEPTIBLE, FSUSCEPTIBLE_ordinal, SRECOVERED, ERECOVERED, FRECOVERED_ordinal, SINFECTED, EINFECTED, FINFECTED_ordinal, -⟩ := W1
  have pre0 : ∀ t, Steps p.tables e below (s₁.setTop (mkF m 0 #[.val (.int p0)] [])) t → Steps p.tables e below (s₁.setTop (entryFrame m #[(.int p0)] 1)) t := fun t k => castTop (ef_1 m p0) k
  have k1 : ∀ t, Steps p.tables e below (s₁.setTop (mkF m 1 #[.val (.int p0)] [(.int p0)])) t → Steps p.tables e below (s₁.setTop (entryFrame m #[(.int p0)] 1)) t := fun t kt => pre0 t (by
    show Steps p.tables e below (s₁.setTop (mkF m 0 #[.val (.int p0)] [])) _
    refine XS.iloadN X0.here hx rfl (hb hby d1_0) rfl ?_
    exact kt)
  by_cases hc2 : p0 = (0 : Int32)
  · obtain ⟨T3, X3, e3, st3⟩ := getS2 X0 hx hZ hown (host := "") (Or.inl (hw _ (List.mem_of_getElem? (i := 19) rfl))) Via.refl e0 SSUSCEPTIBLE (g := (mkF m 4 #[.val (.int p0)] [])) rfl (hb hby d1_4)
    obtain ⟨fs, hr, hrun, hended, hW, hsame⟩ := X3.leave (v := some (.ref wSUSCEPTIBLE)) (fun h => by rw [Bd.returns] at h; cases h)
    refine ⟨_, _, k1 _ ?_, hrun, hended, _, _, rfl, ?_, ⟨_, rfl⟩, hW, hsame.mono (by decide) (by decide)⟩
    · show Steps p.tables e below (s₁.setTop (mkF m 1 #[.val (.int p0)] [(.int p0)])) _
      refine XS.ifNo X0.here hx rfl (hb hby d1_1) rfl ((if0 _ _).trans (teq (hc2 : p0 = (0 : Int32))).2) ?_
      show Steps p.tables e below (s₁.setTop (mkF m 4 #[.val (.int p0)] [])) _
      refine st3 _ ?_
      show Steps p.tables e below (T3.setTop (mkF m 7 #[.val (.int p0)] [(.ref wSUSCEPTIBLE)])) _
      exact own_retA X3 hx Bd.returns rfl rfl (hb hby d1_7) hr
    · show Q1 Z p0 wSUSCEPTIBLE wRECOVERED wINFECTED h0 n0 _ T3.heap _
      rw [e3]
      exact ⟨by rw [f1, if_pos hc2], N0, rfl⟩
  · have k4 : ∀ t, Steps p.tables e below (s₁.setTop (mkF m 10 #[.val (.int p0)] [(.int (1 : Int32)), (.int p0)])) t → Steps p.tables e below (s₁.setTop (entryFrame m #[(.int p0)] 1)) t := fun t kt => k1 t (by
      show Steps p.tables e below (s₁.setTop (mkF m 1 #[.val (.int p0)] [(.int p0)])) _
      refine XS.ifYes X0.here hx rfl (pc0 := 1) (pc' := 8) rfl (hb hby d1_1) rfl ((if0 _ _).trans (feq (hc2 : ¬ (p0 = (0 : Int32)))).2) (by decide) (by decide) ?_
      show Steps p.tables e below (s₁.setTop (mkF m 8 #[.val (.int p0)] [])) _
      refine XS.iloadN X0.here hx rfl (hb hby d1_8) rfl ?_
      show Steps p.tables e below (s₁.setTop (mkF m 9 #[.val (.int p0)] [(.int p0)])) _
      refine XS.iconst X0.here hx rfl (hb hby d1_9) ?_
      exact kt)
    by_cases hc5 : p0 = (1 : Int32)
    · obtain ⟨T6, X6, e6, st6⟩ := getS2 X0 hx hZ hown (host := "") (Or.inl (hw _ (List.mem_of_getElem? (i := 57) rfl))) Via.refl e0 SINFECTED (g := (mkF m 13 #[.val (.int p0)] [])) rfl (hb hby d1_13)
      obtain ⟨fs, hr, hrun, hended, hW, hsame⟩ := X6.leave (v := some (.ref wINFECTED)) (fun h => by rw [Bd.returns] at h; cases h)
      refine ⟨_, _, k4 _ ?_, hrun, hended, _, _, rfl, ?_, ⟨_, rfl⟩, hW, hsame.mono (by decide) (by decide)⟩
      · show Steps p.tables e below (s₁.setTop (mkF m 10 #[.val (.int p0)] [(.int (1 : Int32)), (.int p0)])) _
        refine XS.icmpNo X0.here hx rfl (hb hby d1_10) rfl (teq (hc5 : p0 = (1 : Int32))).2 ?_
        show Steps p.tables e below (s₁.setTop (mkF m 13 #[.val (.int p0)] [])) _
        refine st6 _ ?_
        show Steps p.tables e below (T6.setTop (mkF m 16 #[.val (.int p0)] [(.ref wINFECTED)])) _
        exact own_retA X6 hx Bd.returns rfl rfl (hb hby d1_16) hr
      · show Q1 Z p0 wSUSCEPTIBLE wRECOVERED wINFECTED h0 n0 _ T6.heap _
        rw [e6]
        exact ⟨by rw [f1, if_neg hc2, if_pos hc5], N0, rfl⟩
    · obtain ⟨T7, X7, e7, st7⟩ := getS2 X0 hx hZ hown (host := "") (Or.inl (hw _ (List.mem_of_getElem? (i := 55) rfl))) Via.refl e0 SRECOVERED (g := (mkF m 17 #[.val (.int p0)] [])) rfl (hb hby d1_17)
      obtain ⟨fs, hr, hrun, hended, hW, hsame⟩ := X7.leave (v := some (.ref wRECOVERED)) (fun h => by rw [Bd.returns] at h; cases h)
      refine ⟨_, _, k4 _ ?_, hrun, hended, _, _, rfl, ?_, ⟨_, rfl⟩, hW, hsame.mono (by decide) (by decide)⟩
      · show Steps p.tables e below (s₁.setTop (mkF m 10 #[.val (.int p0)] [(.int (1 : Int32)), (.int p0)])) _
        refine XS.icmpYes X0.here hx rfl (pc0 := 10) (pc' := 17) rfl (hb hby d1_10) rfl (feq (hc5 : ¬ (p0 = (1 : Int32)))).2 (by decide) (by decide) ?_
        show Steps p.tables e below (s₁.setTop (mkF m 17 #[.val (.int p0)] [])) _
        refine st7 _ ?_
        show Steps p.tables e below (T7.setTop (mkF m 20 #[.val (.int p0)] [(.ref wRECOVERED)])) _
        exact own_retA X7 hx Bd.returns rfl rfl (hb hby d1_20) hr
      · show Q1 Z p0 wSUSCEPTIBLE wRECOVERED wINFECTED h0 n0 _ T7.heap _
        rw [e7]
        exact ⟨by rw [f1, if_neg hc2, if_neg hc5], N0, rfl⟩
theorem d2_0 : decode jdk_37_method_2_code 0 = .ok (.aload_n 0, 1) := by decide +kernel
theorem d2_1 : decode jdk_37_method_2_code 1 = .ok (.getfield 7, 3) := by decide +kernel
theorem d2_4 : decode jdk_37_method_2_code 4 = .ok (.ireturn, 1) := by decide +kernel
theorem pn_1 : plainName "java/lang/Enum" = true := by first | (simp [plainName, overriddenIn]; done) | decide +kernel
def f2 (p0 : Addr) (u_p0_ordinal : Int32) : Int32 := u_p0_ordinal
theorem ef_2 (m : MethodId) (p0 : Addr) : entryFrame m #[(.ref p0)] 1 = mkF m 0 #[.val (.ref p0)] [] := by first | (simp [entryFrame, mkF, argsToLocals, Value.category]; done) | rfl
def Q2 (Z : State) (p0 : Addr) (u_p0_ordinal : Int32) (h0 : Heap) (n0 : Nat) (v : Option Value) (h : Heap) (L : List Loc) : Prop := v = some (.int (f2 p0 u_p0_ordinal)) ∧ Fr n0 L ∧ h = h0
set_option maxRecDepth 65536 in
set_option maxHeartbeats 40000000 in
theorem rm2 (l : Launch) (Z : State) (a0 : Array Value) (hw : ∀ d ∈ tables_1, d.before a0 Z = true) (ws : List Jvm.Cond) (p0 : Addr) (u_p0_ordinal : Int32) (h0 : Heap) (n0 : Nat) (Z0 : n0 ≤ h0.size) (G_p0_ordinal : Fld Z h0 p0 "java/lang/Enum" "ordinal" "I" (.int u_p0_ordinal)) :
    MetFree l (⟨"java/lang/Enum", "ordinal", "()I"⟩ : MethodName) (head1 (Jvm.Cond.code (⟨"java/lang/Enum", "ordinal", "()I"⟩ : MethodName) jdk_37_method_2_code 1 (some .int) :: ws) ({ frames := 0, cells := 0, slots := 0, locals := 0 } : Room)) (fun a U => a = #[(.ref p0)] ∧ Z.Warmed39 U.vm ∧ U.heap = h0) (fun _ _ _ _ _ => True) (fun _ U o U' => ∃ v L, o = .returned v ∧ Q2 Z p0 u_p0_ordinal h0 n0 v U'.heap L ∧ FrameEnd U o U' L ({ frames := 0, cells := 0, slots := 0, locals := 0 } : Room).cells ({ frames := 0, cells := 0, slots := 0, locals := 0 } : Room).slots) := by
  refine MetFree.of_bodySF (plainFor_of_name pn_1) hisR ?_
  intro p e s m args below meth c s₁ Bd hml0 hP hK
  obtain ⟨rfl, hZ, hh⟩ := hP
  have hx := Bd.exec
  have hby := Bd.bytes
  have hml : c.maxLocals = 1 := hml0
  have hown : s.vm.findClass "java/lang/Enum" = some m.cls := findClass_of_methodNamed Bd.named
  have X0 : Stand p l e ({ frames := 0, cells := 0, slots := 0, locals := 0 } : Room) s m #[(.ref p0)] below meth c s₁ [] 0 0 := Stand.of_body Bd
  have e0 : s₁.heap = h0 := by rw [← hh, Bd.state]; rfl
  have N0 := Fr.nil n0
  have pre0 : ∀ t, Steps p.tables e below (s₁.setTop (mkF m 0 #[.val (.ref p0)] [])) t → Steps p.tables e below (s₁.setTop (entryFrame m #[(.ref p0)] 1)) t := fun t k => castTop (ef_2 m p0) k
  obtain ⟨T8, X8, e8, st8⟩ := getF X0 hx hZ hown (host := "") (Or.inl (hw _ (List.mem_of_getElem? (i := 36) rfl))) Via.refl e0 G_p0_ordinal (g := (mkF m 1 #[.val (.ref p0)] [(.ref p0)])) rfl rfl (hb hby d2_1)
  obtain ⟨fs, hr, hrun, hended, hW, hsame⟩ := X8.leave (v := some (.int u_p0_ordinal)) (fun h => by rw [Bd.returns] at h; cases h)
  refine ⟨_, _, pre0 _ ?_, hrun, hended, _, _, rfl, ?_, ⟨_, rfl⟩, hW, hsame.mono (by decide) (by decide)⟩
  · show Steps p.tables e below (s₁.setTop (mkF m 0 #[.val (.ref p0)] [])) _
    refine XS.aloadN X0.here hx rfl (hb hby d2_0) rfl rfl ?_
    show Steps p.tables e below (s₁.setTop (mkF m 1 #[.val (.ref p0)] [(.ref p0)])) _
    refine st8 _ ?_
    show Steps p.tables e below (T8.setTop (mkF m 4 #[.val (.ref p0)] [(.int u_p0_ordinal)])) _
    exact own_retI X8 hx Bd.returns (hb hby d2_4) hr
  · show Q2 Z p0 u_p0_ordinal h0 n0 _ T8.heap _
    rw [e8]
    exact ⟨by rw [f2], N0, rfl⟩
theorem own_state {Z : State} {h : Heap} {wSUSCEPTIBLE : Addr} {wRECOVERED : Addr} {wINFECTED : Addr} (W : World Z h wSUSCEPTIBLE wRECOVERED wINFECTED) {s : Int32} (hs : s = (0 : Int32) ∨ s = (1 : Int32) ∨ s = (2 : Int32)) : Exa Z h (f1 s wSUSCEPTIBLE wRECOVERED wINFECTED) "com/example/rippletide/rippletide/model/State" ∧ Fld Z h (f1 s wSUSCEPTIBLE wRECOVERED wINFECTED) "java/lang/Enum" "ordinal" "I" (.int s) := by
  obtain ⟨SSUSCEPTIBLE, ESUSCEPTIBLE, FSUSCEPTIBLE_ordinal, SRECOVERED, ERECOVERED, FRECOVERED_ordinal, SINFECTED, EINFECTED, FINFECTED_ordinal, -⟩ := W
  rcases hs with e | e | e <;> subst e
  · exact ⟨ESUSCEPTIBLE, FSUSCEPTIBLE_ordinal⟩
  · exact ⟨EINFECTED, FINFECTED_ordinal⟩
  · exact ⟨ERECOVERED, FRECOVERED_ordinal⟩
theorem own_nar (u : Int32) : nar .byte (u.toInt8.toInt32) = (u.toInt8.toInt32) := by
  show (u.toInt8.toInt32).toInt8.toInt32 = _
  simp
theorem d3_0 : decode prog_38_method_1_code 0 = .ok (.aload_n 0, 1) := by decide +kernel
theorem d3_1 : decode prog_38_method_1_code 1 = .ok (.invokespecial 1, 3) := by decide +kernel
theorem d3_4 : decode prog_38_method_1_code 4 = .ok (.aload_n 0, 1) := by decide +kernel
theorem d3_5 : decode prog_38_method_1_code 5 = .ok (.bipush 16, 2) := by decide +kernel
theorem d3_7 : decode prog_38_method_1_code 7 = .ok (.newarray .int, 2) := by decide +kernel
theorem d3_9 : decode prog_38_method_1_code 9 = .ok (.putfield 7, 3) := by decide +kernel
theorem d3_12 : decode prog_38_method_1_code 12 = .ok (.aload_n 0, 1) := by decide +kernel
theorem d3_13 : decode prog_38_method_1_code 13 = .ok (.bipush 16, 2) := by decide +kernel
theorem d3_15 : decode prog_38_method_1_code 15 = .ok (.newarray .byte, 2) := by decide +kernel
theorem d3_17 : decode prog_38_method_1_code 17 = .ok (.putfield 13, 3) := by decide +kernel
theorem d3_20 : decode prog_38_method_1_code 20 = .ok (.return_, 1) := by decide +kernel
theorem pn_2 : plainName "com/example/rippletide/rippletide/model/StateChanges" = true := by first | (simp [plainName, overriddenIn]; done) | decide +kernel
theorem ef_3 (m : MethodId) (p0 : Addr) : entryFrame m #[(.ref p0)] 1 = mkF m 0 #[.val (.ref p0)] [] := by first | (simp [entryFrame, mkF, argsToLocals, Value.category]; done) | rfl
def Q3 (Z : State) (p0 : Addr) (wSUSCEPTIBLE : Addr) (wRECOVERED : Addr) (wINFECTED : Addr) (hs : Heap) (h0 : Heap) (n0 : Nat) (v : Option Value) (h : Heap) (L : List Loc) : Prop := ∃ (b_vertices : Addr), ∃ (k_vertices : ClassId), ∃ (b_states : Addr), ∃ (k_states : ClassId), v = none ∧ Fr n0 L ∧ Ext hs h ∧ Keep h0 h [p0] ∧ Obj Z h n0 p0 b_vertices k_vertices (0 : Int32) (0 : Int32) (0 : Int32) b_states k_states (0 : Int32) (0 : Int32) (0 : Int32) (0 : Int32)
set_option maxRecDepth 65536 in
set_option maxHeartbeats 40000000 in
theorem rm3 (l : Launch) (Z : State) (a0 : Array Value) (hw : ∀ d ∈ tables_1, d.before a0 Z = true) (ws : List Jvm.Cond) (p0 : Addr) (wSUSCEPTIBLE : Addr) (wRECOVERED : Addr) (wINFECTED : Addr) (hs : Heap) (h0 : Heap) (n0 : Nat) (Z0 : n0 ≤ h0.size) (WS : World Z hs wSUSCEPTIBLE wRECOVERED wINFECTED) (O0 : Ext hs h0) (Zs : hs.size ≤ n0) (E_p0 : Exa Z h0 p0 "com/example/rippletide/rippletide/model/StateChanges") (g_p0 : n0 ≤ p0) (G_p0_vertices : Fld Z h0 p0 "com/example/rippletide/rippletide/model/StateChanges" "vertices" "[I" .null) (G_p0_states : Fld Z h0 p0 "com/example/rippletide/rippletide/model/StateChanges" "states" "[B" .null) (G_p0_count : Fld Z h0 p0 "com/example/rippletide/rippletide/model/StateChanges" "count" "I" (.int (0 : Int32))) :
    MetFree l (⟨"com/example/rippletide/rippletide/model/StateChanges", "<init>", "()V"⟩ : MethodName) (head1 (Jvm.Cond.code (⟨"com/example/rippletide/rippletide/model/StateChanges", "<init>", "()V"⟩ : MethodName) prog_38_method_1_code 1 none :: ws) ({ frames := 1, cells := 2, slots := 32, locals := 12 } : Room)) (fun a U => a = #[(.ref p0)] ∧ Z.Warmed39 U.vm ∧ U.heap = h0) (fun _ _ _ _ _ => True) (fun _ U o U' => ∃ v L, o = .returned v ∧ Q3 Z p0 wSUSCEPTIBLE wRECOVERED wINFECTED hs h0 n0 v U'.heap L ∧ FrameEnd U o U' L ({ frames := 1, cells := 2, slots := 32, locals := 12 } : Room).cells ({ frames := 1, cells := 2, slots := 32, locals := 12 } : Room).slots) := by
  refine MetFree.of_bodySF (plainFor_of_name pn_2) hisR ?_
  intro p e s m args below meth c s₁ Bd hml0 hP hK
  obtain ⟨rfl, hZ, hh⟩ := hP
  have hx := Bd.exec
  have hby := Bd.bytes
  have hml : c.maxLocals = 1 := hml0
  have hown : s.vm.findClass "com/example/rippletide/rippletide/model/StateChanges" = some m.cls := findClass_of_methodNamed Bd.named
  have hnm := (name_of_methodNamed Bd.named Bd.method).1
  have X0 : Stand p l e ({ frames := 1, cells := 2, slots := 32, locals := 12 } : Room) s m #[(.ref p0)] below meth c s₁ [] 0 0 := Stand.of_body Bd
  have e0 : s₁.heap = h0 := by rw [← hh, Bd.state]; rfl
  have N0 := Fr.nil n0
  have W1 := WS
  obtain ⟨SSUSCEPTIBLE, ESUSCEPTIBLE, FSUSCEPTIBLE_ordinal, SRECOVERED, ERECOVERED, FRECOVERED_ordinal, SINFECTED, EINFECTED, FINFECTED_ordinal, -⟩ := W1
  have pre0 : ∀ t, Steps p.tables e below (s₁.setTop (mkF m 0 #[.val (.ref p0)] [])) t → Steps p.tables e below (s₁.setTop (entryFrame m #[(.ref p0)] 1)) t := fun t k => castTop (ef_3 m p0) k
  obtain ⟨T9, X9, e9, st9⟩ := initO X0 hx hZ hown (hw _ (List.mem_of_getElem? (i := 6) rfl)) (hw _ (List.mem_of_getElem? (i := 7) rfl)) (hw _ (List.mem_of_getElem? (i := 8) rfl)) e0 (g := (mkF m 1 #[.val (.ref p0)] [(.ref p0)])) rfl (by rw [hml]; rfl) rfl (hb hby d3_1) (by decide) (W := 0) (by show 2 * 0 + _ ≤ _; exact Nat.le_of_eq rfl) (by decide)
  obtain ⟨T10, h10, k10, X10, e10, E10, A10, st10⟩ := newP X9 hx hZ (hw _ (List.mem_of_getElem? (i := 9) rfl)) e9 (g := (mkF m 7 #[.val (.ref p0)] [(.int (16 : Int32)), (.ref p0)])) rfl (hb hby d3_7) rfl (by decide) (cap := 16) (by decide) (by decide) (by decide) (by decide)
  obtain ⟨b10, g10⟩ : ∃ z, z = h0.size := ⟨_, rfl⟩
  have g_b10 : n0 ≤ b10 := Nat.le_trans Z0 (Nat.le_of_eq g10.symm)
  have sz_b10 : h0.size ≤ b10 := Nat.le_of_eq g10.symm
  have ne11 : p0 ≠ b10 := Nat.ne_of_lt (Nat.lt_of_lt_of_le E_p0.lt (Nat.le_of_eq g10.symm))
  rw [← g10] at A10 st10
  have V10 : Arv Z h10 b10 k10 .int (16 : Int32) [(.int (0 : Int32)), (.int (0 : Int32)), (.int (0 : Int32)), (.int (0 : Int32)), (.int (0 : Int32)), (.int (0 : Int32)), (.int (0 : Int32)), (.int (0 : Int32)), (.int (0 : Int32)), (.int (0 : Int32)), (.int (0 : Int32)), (.int (0 : Int32)), (.int (0 : Int32)), (.int (0 : Int32)), (.int (0 : Int32)), (.int (0 : Int32))] (.int (0 : Int32)) := (Arv.new A10 (by decide)).pad (pad_rep [] (.int (0 : Int32)) 16)
  have E12 := E_p0.ext E10
  have F13 := G_p0_vertices.ext E10
  have F14 := G_p0_states.ext E10
  have F15 := G_p0_count.ext E10
  have EX10 : Ext hs h10 := own_ext_trans O0 E10
  have KK10 : Keep h0 h10 [p0] := Keep.ext (Keep.refl h0 [p0]) E10
  obtain ⟨T16, h16, X16, e16, W16, st16⟩ := putF X10 hx hZ hown (host := "") (Or.inl (hw _ (List.mem_of_getElem? (i := 10) rfl))) Via.refl e10 F13 E12 (Or.inl (hw _ (List.mem_of_getElem? (i := 11) rfl))) (hw _ (List.mem_of_getElem? (i := 1) rfl)) (ty := (.array .int)) (by decide) rfl rfl (g := (mkF m 9 #[.val (.ref p0)] [(.ref b10), (.ref p0)])) rfl rfl (hb hby d3_9)
  have E17 := E12.wr W16
  have F18 := F14.other W16 (Or.inr (slot_ne (Or.inl (hw _ (List.mem_of_getElem? (i := 14) rfl))) (Or.inl (hw _ (List.mem_of_getElem? (i := 11) rfl))) (by decide) (t := (.array .byte)) (t' := (.array .int)) (by decide) (by decide)))
  have F19 := F15.other W16 (Or.inr (slot_ne (Or.inl (hw _ (List.mem_of_getElem? (i := 28) rfl))) (Or.inl (hw _ (List.mem_of_getElem? (i := 11) rfl))) (by decide) (t := .int) (t' := (.array .int)) (by decide) (by decide)))
  have V20 := V10.other W16 (Ne.symm ne11)
  have G16 : Fld Z h16 p0 "com/example/rippletide/rippletide/model/StateChanges" "vertices" "[I" (.ref b10) := F13.same W16
  have N16' := Fr.snoc X16 N0 g_p0
  have EX16 : Ext hs h16 := own_ext_wr EX10 W16 (Nat.le_trans Zs g_p0)
  have KK16 : Keep h0 h16 [p0] := Keep.wr KK10 W16 (Or.inl (List.mem_of_getElem? (i := 0) rfl))
  obtain ⟨T21, h21, k21, X21, e21, E21, A21, st21⟩ := newP X16 hx hZ (hw _ (List.mem_of_getElem? (i := 12) rfl)) e16 (g := (mkF m 15 #[.val (.ref p0)] [(.int (16 : Int32)), (.ref p0)])) rfl (hb hby d3_15) rfl (by decide) (cap := 16) (by decide) (by decide) (by decide) (by decide)
  obtain ⟨b21, g21⟩ : ∃ z, z = h16.size := ⟨_, rfl⟩
  have g_b21 : n0 ≤ b21 := Nat.le_trans (Nat.le_trans Z0 KK16.1) (Nat.le_of_eq g21.symm)
  have sz_b21 : h0.size ≤ b21 := Nat.le_trans KK16.1 <| Nat.le_of_eq g21.symm
  have ne22 : p0 ≠ b21 := Nat.ne_of_lt (Nat.lt_of_lt_of_le E17.lt (Nat.le_of_eq g21.symm))
  have ne23 : b10 ≠ b21 := Nat.ne_of_lt (Nat.lt_of_lt_of_le V20.lt (Nat.le_of_eq g21.symm))
  rw [← g21] at A21 st21
  have V21 : Arv Z h21 b21 k21 .byte (16 : Int32) [(.int (0 : Int32)), (.int (0 : Int32)), (.int (0 : Int32)), (.int (0 : Int32)), (.int (0 : Int32)), (.int (0 : Int32)), (.int (0 : Int32)), (.int (0 : Int32)), (.int (0 : Int32)), (.int (0 : Int32)), (.int (0 : Int32)), (.int (0 : Int32)), (.int (0 : Int32)), (.int (0 : Int32)), (.int (0 : Int32)), (.int (0 : Int32))] (.int (0 : Int32)) := (Arv.new A21 (by decide)).pad (pad_rep [] (.int (0 : Int32)) 16)
  have E24 := E17.ext E21
  have F25 := G16.ext E21
  have F26 := F18.ext E21
  have F27 := F19.ext E21
  have V28 := V20.ext E21
  have EX21 : Ext hs h21 := own_ext_trans EX16 E21
  have KK21 : Keep h0 h21 [p0] := Keep.ext KK16 E21
  obtain ⟨T29, h29, X29, e29, W29, st29⟩ := putF X21 hx hZ hown (host := "") (Or.inl (hw _ (List.mem_of_getElem? (i := 13) rfl))) Via.refl e21 F26 E24 (Or.inl (hw _ (List.mem_of_getElem? (i := 14) rfl))) (hw _ (List.mem_of_getElem? (i := 1) rfl)) (ty := (.array .byte)) (by decide) rfl rfl (g := (mkF m 17 #[.val (.ref p0)] [(.ref b21), (.ref p0)])) rfl rfl (hb hby d3_17)
  have E30 := E24.wr W29
  have F31 := F25.other W29 (Or.inr (slot_ne (Or.inl (hw _ (List.mem_of_getElem? (i := 11) rfl))) (Or.inl (hw _ (List.mem_of_getElem? (i := 14) rfl))) (by decide) (t := (.array .int)) (t' := (.array .byte)) (by decide) (by decide)))
  have F32 := F27.other W29 (Or.inr (slot_ne (Or.inl (hw _ (List.mem_of_getElem? (i := 28) rfl))) (Or.inl (hw _ (List.mem_of_getElem? (i := 14) rfl))) (by decide) (t := .int) (t' := (.array .byte)) (by decide) (by decide)))
  have V33 := V28.other W29 (Ne.symm ne11)
  have V34 := V21.other W29 (Ne.symm ne22)
  have G29 : Fld Z h29 p0 "com/example/rippletide/rippletide/model/StateChanges" "states" "[B" (.ref b21) := F26.same W29
  have N29' := Fr.snoc X29 N16' g_p0
  have EX29 : Ext hs h29 := own_ext_wr EX21 W29 (Nat.le_trans Zs g_p0)
  have KK29 : Keep h0 h29 [p0] := Keep.wr KK21 W29 (Or.inl (List.mem_of_getElem? (i := 0) rfl))
  obtain ⟨fs, hr, hrun, hended, hW, hsame⟩ := X29.leave (v := none) (fun _ => rfl)
  refine ⟨_, _, pre0 _ ?_, hrun, hended, _, _, rfl, ?_, ⟨_, rfl⟩, hW, hsame.mono (by decide) (by decide)⟩
  · show Steps p.tables e below (s₁.setTop (mkF m 0 #[.val (.ref p0)] [])) _
    refine XS.aloadN X0.here hx rfl (hb hby d3_0) rfl rfl ?_
    show Steps p.tables e below (s₁.setTop (mkF m 1 #[.val (.ref p0)] [(.ref p0)])) _
    refine st9 _ ?_
    show Steps p.tables e below (T9.setTop (mkF m 4 #[.val (.ref p0)] [])) _
    refine XS.aloadN X9.here hx rfl (hb hby d3_4) rfl rfl ?_
    show Steps p.tables e below (T9.setTop (mkF m 5 #[.val (.ref p0)] [(.ref p0)])) _
    refine XS.bipush X9.here hx rfl (hb hby d3_5) ?_
    show Steps p.tables e below (T9.setTop (mkF m 7 #[.val (.ref p0)] [(.int (16 : Int32)), (.ref p0)])) _
    refine st10 _ ?_
    show Steps p.tables e below (T10.setTop (mkF m 9 #[.val (.ref p0)] [(.ref b10), (.ref p0)])) _
    refine st16 _ ?_
    show Steps p.tables e below (T16.setTop (mkF m 12 #[.val (.ref p0)] [])) _
    refine XS.aloadN X16.here hx rfl (hb hby d3_12) rfl rfl ?_
    show Steps p.tables e below (T16.setTop (mkF m 13 #[.val (.ref p0)] [(.ref p0)])) _
    refine XS.bipush X16.here hx rfl (hb hby d3_13) ?_
    show Steps p.tables e below (T16.setTop (mkF m 15 #[.val (.ref p0)] [(.int (16 : Int32)), (.ref p0)])) _
    refine st21 _ ?_
    show Steps p.tables e below (T21.setTop (mkF m 17 #[.val (.ref p0)] [(.ref b21), (.ref p0)])) _
    refine st29 _ ?_
    show Steps p.tables e below (T29.setTop (mkF m 20 #[.val (.ref p0)] [])) _
    exact X29.returnOut hx Bd.returns (hb hby d3_20) hr
  · show Q3 Z p0 wSUSCEPTIBLE wRECOVERED wINFECTED hs h0 n0 _ T29.heap _
    rw [e29]
    exact ⟨b10, k10, b21, k21, rfl, N29', EX29, KK29, ⟨E30, g_p0, F31, G29, F32, g_b10, ne11, V33, g_b21, ne22, V34, ne23, trivial⟩⟩
theorem d4_0 : decode prog_38_method_3_code 0 = .ok (.iload_n 1, 1) := by decide +kernel
theorem d4_1 : decode prog_38_method_3_code 1 = .ok (.ifCond .lt 25, 3) := by decide +kernel
theorem d4_4 : decode prog_38_method_3_code 4 = .ok (.aload_n 0, 1) := by decide +kernel
theorem d4_5 : decode prog_38_method_3_code 5 = .ok (.getfield 17, 3) := by decide +kernel
theorem d4_8 : decode prog_38_method_3_code 8 = .ok (.ifCond .le 62, 3) := by decide +kernel
theorem d4_70 : decode prog_38_method_3_code 70 = .ok (.aload_n 0, 1) := by decide +kernel
theorem d4_71 : decode prog_38_method_3_code 71 = .ok (.getfield 17, 3) := by decide +kernel
theorem d4_74 : decode prog_38_method_3_code 74 = .ok (.aload_n 0, 1) := by decide +kernel
theorem d4_75 : decode prog_38_method_3_code 75 = .ok (.getfield 7, 3) := by decide +kernel
theorem d4_78 : decode prog_38_method_3_code 78 = .ok (.arraylength, 1) := by decide +kernel
theorem d4_79 : decode prog_38_method_3_code 79 = .ok (.if_icmp .ne 44, 3) := by decide +kernel
theorem d4_123 : decode prog_38_method_3_code 123 = .ok (.aload_n 0, 1) := by decide +kernel
theorem d4_124 : decode prog_38_method_3_code 124 = .ok (.getfield 7, 3) := by decide +kernel
theorem d4_127 : decode prog_38_method_3_code 127 = .ok (.aload_n 0, 1) := by decide +kernel
theorem d4_128 : decode prog_38_method_3_code 128 = .ok (.getfield 17, 3) := by decide +kernel
theorem d4_131 : decode prog_38_method_3_code 131 = .ok (.iload_n 1, 1) := by decide +kernel
theorem d4_132 : decode prog_38_method_3_code 132 = .ok (.iastore, 1) := by decide +kernel
theorem d4_133 : decode prog_38_method_3_code 133 = .ok (.aload_n 0, 1) := by decide +kernel
theorem d4_134 : decode prog_38_method_3_code 134 = .ok (.getfield 13, 3) := by decide +kernel
theorem d4_137 : decode prog_38_method_3_code 137 = .ok (.aload_n 0, 1) := by decide +kernel
theorem d4_138 : decode prog_38_method_3_code 138 = .ok (.getfield 17, 3) := by decide +kernel
theorem d4_141 : decode prog_38_method_3_code 141 = .ok (.aload_n 2, 1) := by decide +kernel
theorem d4_142 : decode prog_38_method_3_code 142 = .ok (.invokevirtual 56, 3) := by decide +kernel
theorem pd_0 : parseMethodDescriptor "()I" = some ⟨[], some .int⟩ := by decide +kernel
theorem d4_145 : decode prog_38_method_3_code 145 = .ok (.i2b, 1) := by decide +kernel
theorem d4_146 : decode prog_38_method_3_code 146 = .ok (.bastore, 1) := by decide +kernel
theorem d4_147 : decode prog_38_method_3_code 147 = .ok (.aload_n 0, 1) := by decide +kernel
theorem d4_148 : decode prog_38_method_3_code 148 = .ok (.dup, 1) := by decide +kernel
theorem d4_149 : decode prog_38_method_3_code 149 = .ok (.getfield 17, 3) := by decide +kernel
theorem d4_152 : decode prog_38_method_3_code 152 = .ok (.iconst 1, 1) := by decide +kernel
theorem d4_153 : decode prog_38_method_3_code 153 = .ok (.iadd, 1) := by decide +kernel
theorem d4_154 : decode prog_38_method_3_code 154 = .ok (.putfield 17, 3) := by decide +kernel
theorem d4_157 : decode prog_38_method_3_code 157 = .ok (.return_, 1) := by decide +kernel
theorem ef_4 (m : MethodId) (p0 : Addr) (p1 : Int32) (p2 : Addr) : entryFrame m #[(.ref p0), (.int p1), (.ref p2)] 4 = mkF m 0 #[.val (.ref p0), .val (.int p1), .val (.ref p2), .unset] [] := by first | (simp [entryFrame, mkF, argsToLocals, Value.category]; done) | rfl
def Q4 (Z : State) (p0 : Addr) (p1 : Int32) (p2 : Addr) (p0_b_vertices : Addr) (p0_k_vertices : ClassId) (p0_x_vertices_0 : Int32) (p0_x_vertices_1 : Int32) (p0_x_vertices_2 : Int32) (p0_b_states : Addr) (p0_k_states : ClassId) (p0_x_states_0 : Int32) (p0_x_states_1 : Int32) (p0_x_states_2 : Int32) (u_p2_ordinal : Int32) (wSUSCEPTIBLE : Addr) (wRECOVERED : Addr) (wINFECTED : Addr) (hs : Heap) (h0 : Heap) (n0 : Nat) (v : Option Value) (h : Heap) (L : List Loc) : Prop := v = none ∧ Fr n0 L ∧ Ext hs h ∧ Keep h0 h [p0_b_vertices, p0_b_states, p0] ∧ Obj Z h n0 p0 p0_b_vertices p0_k_vertices p1 p0_x_vertices_1 p0_x_vertices_2 p0_b_states p0_k_states (u_p2_ordinal.toInt8.toInt32) p0_x_states_1 p0_x_states_2 (1 : Int32)
set_option maxRecDepth 65536 in
set_option maxHeartbeats 40000000 in
theorem rm4 (l : Launch) (Z : State) (a0 : Array Value) (hw : ∀ d ∈ tables_1, d.before a0 Z = true) (ws : List Jvm.Cond) (p0 : Addr) (p1 : Int32) (p2 : Addr) (p0_b_vertices : Addr) (p0_k_vertices : ClassId) (p0_x_vertices_0 : Int32) (p0_x_vertices_1 : Int32) (p0_x_vertices_2 : Int32) (p0_b_states : Addr) (p0_k_states : ClassId) (p0_x_states_0 : Int32) (p0_x_states_1 : Int32) (p0_x_states_2 : Int32) (u_p2_ordinal : Int32) (wSUSCEPTIBLE : Addr) (wRECOVERED : Addr) (wINFECTED : Addr) (hs : Heap) (h0 : Heap) (n0 : Nat) (Z0 : n0 ≤ h0.size) (WS : World Z hs wSUSCEPTIBLE wRECOVERED wINFECTED) (O0 : Ext hs h0) (Zs : hs.size ≤ n0) (OB_p0 : Obj Z h0 n0 p0 p0_b_vertices p0_k_vertices p0_x_vertices_0 p0_x_vertices_1 p0_x_vertices_2 p0_b_states p0_k_states p0_x_states_0 p0_x_states_1 p0_x_states_2 (0 : Int32)) (G_p2_ordinal : Fld Z hs p2 "java/lang/Enum" "ordinal" "I" (.int u_p2_ordinal)) (E_p2 : Exa Z hs p2 "com/example/rippletide/rippletide/model/State") (hv : ¬ p1 < (0 : Int32)) :
    MetFree l (⟨"com/example/rippletide/rippletide/model/StateChanges", "add", "(ILcom/example/rippletide/rippletide/model/State;)V"⟩ : MethodName) (head1 (Jvm.Cond.code (⟨"com/example/rippletide/rippletide/model/StateChanges", "add", "(ILcom/example/rippletide/rippletide/model/State;)V"⟩ : MethodName) prog_38_method_3_code 4 none :: ws) ({ frames := 1, cells := 0, slots := 0, locals := 14 } : Room)) (fun a U => a = #[(.ref p0), (.int p1), (.ref p2)] ∧ Z.Warmed39 U.vm ∧ U.heap = h0) (fun _ _ _ _ _ => True) (fun _ U o U' => ∃ v L, o = .returned v ∧ Q4 Z p0 p1 p2 p0_b_vertices p0_k_vertices p0_x_vertices_0 p0_x_vertices_1 p0_x_vertices_2 p0_b_states p0_k_states p0_x_states_0 p0_x_states_1 p0_x_states_2 u_p2_ordinal wSUSCEPTIBLE wRECOVERED wINFECTED hs h0 n0 v U'.heap L ∧ FrameEnd U o U' L ({ frames := 1, cells := 0, slots := 0, locals := 14 } : Room).cells ({ frames := 1, cells := 0, slots := 0, locals := 14 } : Room).slots) := by
  refine MetFree.of_bodySF (plainFor_of_name pn_2) hisR ?_
  intro p e s m args below meth c s₁ Bd hml0 hP hK
  obtain ⟨rfl, hZ, hh⟩ := hP
  have hx := Bd.exec
  have hby := Bd.bytes
  have hml : c.maxLocals = 4 := hml0
  have hown : s.vm.findClass "com/example/rippletide/rippletide/model/StateChanges" = some m.cls := findClass_of_methodNamed Bd.named
  have hnm := (name_of_methodNamed Bd.named Bd.method).1
  have X0 : Stand p l e ({ frames := 1, cells := 0, slots := 0, locals := 14 } : Room) s m #[(.ref p0), (.int p1), (.ref p2)] below meth c s₁ [] 0 0 := Stand.of_body Bd
  have e0 : s₁.heap = h0 := by rw [← hh, Bd.state]; rfl
  have N0 := Fr.nil n0
  have W1 := WS
  obtain ⟨SSUSCEPTIBLE, ESUSCEPTIBLE, FSUSCEPTIBLE_ordinal, SRECOVERED, ERECOVERED, FRECOVERED_ordinal, SINFECTED, EINFECTED, FINFECTED_ordinal, -⟩ := W1
  obtain ⟨E_p0, g_p0, G_p0_vertices, G_p0_states, G_p0_count, g_p0_vertices, ne_p0_vertices, V_p0_vertices, g_p0_states, ne_p0_states, V_p0_states, nn_p0_vertices_states, -⟩ := OB_p0
  have pre0 : ∀ t, Steps p.tables e below (s₁.setTop (mkF m 0 #[.val (.ref p0), .val (.int p1), .val (.ref p2), .unset] [])) t → Steps p.tables e below (s₁.setTop (entryFrame m #[(.ref p0), (.int p1), (.ref p2)] 4)) t := fun t k => castTop (ef_4 m p0 p1 p2) k
  obtain ⟨T35, X35, e35, st35⟩ := getF X0 hx hZ hown (host := "") (Or.inl (hw _ (List.mem_of_getElem? (i := 27) rfl))) Via.refl e0 G_p0_count (g := (mkF m 5 #[.val (.ref p0), .val (.int p1), .val (.ref p2), .unset] [(.ref p0)])) rfl rfl (hb hby d4_5)
  obtain ⟨T36, X36, e36, st36⟩ := getF X35 hx hZ hown (host := "") (Or.inl (hw _ (List.mem_of_getElem? (i := 27) rfl))) Via.refl e35 G_p0_count (g := (mkF m 71 #[.val (.ref p0), .val (.int p1), .val (.ref p2), .unset] [(.ref p0)])) rfl rfl (hb hby d4_71)
  obtain ⟨T37, X37, e37, st37⟩ := getF X36 hx hZ hown (host := "") (Or.inl (hw _ (List.mem_of_getElem? (i := 10) rfl))) Via.refl e36 G_p0_vertices (g := (mkF m 75 #[.val (.ref p0), .val (.int p1), .val (.ref p2), .unset] [(.ref p0), (.int (0 : Int32))])) rfl rfl (hb hby d4_75)
  obtain ⟨cla38, Ara38, qa38, Sa38, Na38, -, -⟩ := And.left ⟨V_p0_vertices, trivial⟩
  obtain ⟨T39, X39, e39, st39⟩ := getF X37 hx hZ hown (host := "") (Or.inl (hw _ (List.mem_of_getElem? (i := 10) rfl))) Via.refl e37 G_p0_vertices (g := (mkF m 124 #[.val (.ref p0), .val (.int p1), .val (.ref p2), .unset] [(.ref p0)])) rfl rfl (hb hby d4_124)
  obtain ⟨T40, X40, e40, st40⟩ := getF X39 hx hZ hown (host := "") (Or.inl (hw _ (List.mem_of_getElem? (i := 27) rfl))) Via.refl e39 G_p0_count (g := (mkF m 128 #[.val (.ref p0), .val (.int p1), .val (.ref p2), .unset] [(.ref p0), (.ref p0_b_vertices)])) rfl rfl (hb hby d4_128)
  obtain ⟨cl41, Ar41, q41, S41, N41, H41, G41⟩ := And.left ⟨V_p0_vertices, trivial⟩
  have hin41 : ¬ ((0 : Int32) < 0 ∨ cl41.slots.size ≤ ((0 : Int32)).toNatClampNeg) := inb_of S41 ⟨by decide, by decide⟩
  obtain ⟨T41, h41, X41, e41, W41, st41⟩ := stI X40 hx hZ e40 Ar41 (j := (0 : Int32)) hin41 (g := (mkF m 132 #[.val (.ref p0), .val (.int p1), .val (.ref p2), .unset] [(.int p1), (.int (0 : Int32)), (.ref p0_b_vertices)])) rfl rfl (hb hby d4_132)
  have V41 : Arv Z h41 p0_b_vertices p0_k_vertices .int (16 : Int32) [(.int p1), (.int p0_x_vertices_1), (.int p0_x_vertices_2), (.int (0 : Int32)), (.int (0 : Int32)), (.int (0 : Int32)), (.int (0 : Int32)), (.int (0 : Int32)), (.int (0 : Int32)), (.int (0 : Int32)), (.int (0 : Int32)), (.int (0 : Int32)), (.int (0 : Int32)), (.int (0 : Int32)), (.int (0 : Int32)), (.int (0 : Int32))] (.int (0 : Int32)) := Arv.set Ar41 q41 S41 N41 H41 G41 rfl W41 0 rfl (Nat.le_of_ble_eq_true rfl)
  have E42 := E_p0.wr W41
  have F43 := G_p0_vertices.other W41 (Or.inl ne_p0_vertices)
  have F44 := G_p0_states.other W41 (Or.inl ne_p0_vertices)
  have F45 := G_p0_count.other W41 (Or.inl ne_p0_vertices)
  have V46 := V_p0_states.other W41 (Ne.symm nn_p0_vertices_states)
  have N41' := Fr.snoc X41 N0 g_p0_vertices
  have EX41 : Ext hs h41 := own_ext_wr O0 W41 (Nat.le_trans Zs g_p0_vertices)
  have KK41 : Keep h0 h41 [p0_b_vertices, p0_b_states, p0] := Keep.wr (Keep.refl h0 [p0_b_vertices, p0_b_states, p0]) W41 (Or.inl (List.mem_of_getElem? (i := 0) rfl))
  obtain ⟨T47, X47, e47, st47⟩ := getF X41 hx hZ hown (host := "") (Or.inl (hw _ (List.mem_of_getElem? (i := 13) rfl))) Via.refl e41 F44 (g := (mkF m 134 #[.val (.ref p0), .val (.int p1), .val (.ref p2), .unset] [(.ref p0)])) rfl rfl (hb hby d4_134)
  obtain ⟨T48, X48, e48, st48⟩ := getF X47 hx hZ hown (host := "") (Or.inl (hw _ (List.mem_of_getElem? (i := 27) rfl))) Via.refl e47 F45 (g := (mkF m 138 #[.val (.ref p0), .val (.int p1), .val (.ref p2), .unset] [(.ref p0), (.ref p0_b_states)])) rfl rfl (hb hby d4_138)
  obtain ⟨cq49, kq49, q49a, q49b, q49c⟩ := isOf hZ e48 (E_p2.ext EX41)
  obtain ⟨_, _, ⟨T49, L49, k49, n49⟩, -, X49, ⟨Lc49, hQ49, l49, y49, z49⟩, st49⟩ := X48.virtualBackUp hx (owner := "java/lang/Enum") (x := (⟨"com/example/rippletide/rippletide/model/State", "ordinal", "()I"⟩ : MethodName)) (y := (⟨"java/lang/Enum", "ordinal", "()I"⟩ : MethodName)) hown (mvT hZ (hw _ (List.mem_of_getElem? (i := 29) rfl))) (mvT hZ (hw _ (List.mem_of_getElem? (i := 30) rfl))) (mvT hZ (hw _ (List.mem_of_getElem? (i := 31) rfl))) (by decide) (mvT hZ (hw _ (List.mem_of_getElem? (i := 33) rfl))) (mvT hZ (hw _ (List.mem_of_getElem? (i := 32) rfl))) (backOf (W := 2) (rm2 l Z a0 hw [] p2 u_p2_ordinal h41 n0 (Nat.le_trans Z0 KK41.1) (G_p2_ordinal.ext EX41)) hZ (hw _ (List.mem_of_getElem? (i := 35) rfl)) (hw _ (List.mem_of_getElem? (i := 34) rfl)) (by decide) (by decide)) q49a q49c (g := (mkF m 142 #[.val (.ref p0), .val (.int p1), .val (.ref p2), .unset] [(.ref p2), (.int (0 : Int32)), (.ref p0_b_states)])) rfl (by rw [hml]; rfl) (Steps.refl _) (argsL := []) (rest := [(.int (0 : Int32)), (.ref p0_b_states)]) (lenOf pd_0 rfl) rfl (by show 2 * 0 + _ ≤ _; exact Nat.le_of_eq rfl) (hb hby d4_142) (fun _ _ => ⟨rfl, e48, (by decide : 0 + 0 ≤ _), (by decide : 0 + 0 ≤ _)⟩)
  dsimp only [Pt.U, Pt.locs, Pt.cells, Pt.slots] at X49 l49 y49 z49 st49 hQ49
  subst l49 y49 z49
  unfold Q2 at hQ49
  have k50 : ∀ t, Steps p.tables e below (T48.setTop (mkF m 142 #[.val (.ref p0), .val (.int p1), .val (.ref p2), .unset] [(.ref p2), (.int (0 : Int32)), (.ref p0_b_states)])) t → Steps p.tables e below (s₁.setTop (entryFrame m #[(.ref p0), (.int p1), (.ref p2)] 4)) t := fun t kt => pre0 t (by
    show Steps p.tables e below (s₁.setTop (mkF m 0 #[.val (.ref p0), .val (.int p1), .val (.ref p2), .unset] [])) _
    refine XS.iloadN X0.here hx rfl (hb hby d4_0) rfl ?_
    show Steps p.tables e below (s₁.setTop (mkF m 1 #[.val (.ref p0), .val (.int p1), .val (.ref p2), .unset] [(.int p1)])) _
    refine XS.ifNo X0.here hx rfl (hb hby d4_1) rfl ((if0 _ _).trans (flt (hv : ¬ (p1 < (0 : Int32)))).1) ?_
    show Steps p.tables e below (s₁.setTop (mkF m 4 #[.val (.ref p0), .val (.int p1), .val (.ref p2), .unset] [])) _
    refine XS.aloadN X0.here hx rfl (hb hby d4_4) rfl rfl ?_
    show Steps p.tables e below (s₁.setTop (mkF m 5 #[.val (.ref p0), .val (.int p1), .val (.ref p2), .unset] [(.ref p0)])) _
    refine st35 _ ?_
    show Steps p.tables e below (T35.setTop (mkF m 8 #[.val (.ref p0), .val (.int p1), .val (.ref p2), .unset] [(.int (0 : Int32))])) _
    refine XS.ifYes X35.here hx rfl (pc0 := 8) (pc' := 70) rfl (hb hby d4_8) rfl ((if0 _ _).trans (flt ((by first | exact Int32.lt_irrefl _ | decide) : ¬ ((0 : Int32) < (0 : Int32)))).2.2.2) (by decide) (by decide) ?_
    show Steps p.tables e below (T35.setTop (mkF m 70 #[.val (.ref p0), .val (.int p1), .val (.ref p2), .unset] [])) _
    refine XS.aloadN X35.here hx rfl (hb hby d4_70) rfl rfl ?_
    show Steps p.tables e below (T35.setTop (mkF m 71 #[.val (.ref p0), .val (.int p1), .val (.ref p2), .unset] [(.ref p0)])) _
    refine st36 _ ?_
    show Steps p.tables e below (T36.setTop (mkF m 74 #[.val (.ref p0), .val (.int p1), .val (.ref p2), .unset] [(.int (0 : Int32))])) _
    refine XS.aloadN X36.here hx rfl (hb hby d4_74) rfl rfl ?_
    show Steps p.tables e below (T36.setTop (mkF m 75 #[.val (.ref p0), .val (.int p1), .val (.ref p2), .unset] [(.ref p0), (.int (0 : Int32))])) _
    refine st37 _ ?_
    show Steps p.tables e below (T37.setTop (mkF m 78 #[.val (.ref p0), .val (.int p1), .val (.ref p2), .unset] [(.ref p0_b_vertices), (.int (0 : Int32))])) _
    refine X37.arraylength hx (by rw [e37]; exact Ara38.1) (State.isArrayOf_alike hZ.alike Ara38.2.1) (g := (mkF m 78 #[.val (.ref p0), .val (.int p1), .val (.ref p2), .unset] [(.ref p0_b_vertices), (.int (0 : Int32))])) rfl rfl (hb hby d4_78) _ ?_
    rw [len_of Sa38 Na38]
    show Steps p.tables e below (T37.setTop (mkF m 79 #[.val (.ref p0), .val (.int p1), .val (.ref p2), .unset] [(.int (16 : Int32)), (.int (0 : Int32))])) _
    refine XS.icmpYes X37.here hx rfl (pc0 := 79) (pc' := 123) rfl (hb hby d4_79) rfl (feq ((by decide) : ¬ ((0 : Int32) = (16 : Int32)))).2 (by decide) (by decide) ?_
    show Steps p.tables e below (T37.setTop (mkF m 123 #[.val (.ref p0), .val (.int p1), .val (.ref p2), .unset] [])) _
    refine XS.aloadN X37.here hx rfl (hb hby d4_123) rfl rfl ?_
    show Steps p.tables e below (T37.setTop (mkF m 124 #[.val (.ref p0), .val (.int p1), .val (.ref p2), .unset] [(.ref p0)])) _
    refine st39 _ ?_
    show Steps p.tables e below (T39.setTop (mkF m 127 #[.val (.ref p0), .val (.int p1), .val (.ref p2), .unset] [(.ref p0_b_vertices)])) _
    refine XS.aloadN X39.here hx rfl (hb hby d4_127) rfl rfl ?_
    show Steps p.tables e below (T39.setTop (mkF m 128 #[.val (.ref p0), .val (.int p1), .val (.ref p2), .unset] [(.ref p0), (.ref p0_b_vertices)])) _
    refine st40 _ ?_
    show Steps p.tables e below (T40.setTop (mkF m 131 #[.val (.ref p0), .val (.int p1), .val (.ref p2), .unset] [(.int (0 : Int32)), (.ref p0_b_vertices)])) _
    refine XS.iloadN X40.here hx rfl (hb hby d4_131) rfl ?_
    show Steps p.tables e below (T40.setTop (mkF m 132 #[.val (.ref p0), .val (.int p1), .val (.ref p2), .unset] [(.int p1), (.int (0 : Int32)), (.ref p0_b_vertices)])) _
    refine st41 _ ?_
    show Steps p.tables e below (T41.setTop (mkF m 133 #[.val (.ref p0), .val (.int p1), .val (.ref p2), .unset] [])) _
    refine XS.aloadN X41.here hx rfl (hb hby d4_133) rfl rfl ?_
    show Steps p.tables e below (T41.setTop (mkF m 134 #[.val (.ref p0), .val (.int p1), .val (.ref p2), .unset] [(.ref p0)])) _
    refine st47 _ ?_
    show Steps p.tables e below (T47.setTop (mkF m 137 #[.val (.ref p0), .val (.int p1), .val (.ref p2), .unset] [(.ref p0_b_states)])) _
    refine XS.aloadN X47.here hx rfl (hb hby d4_137) rfl rfl ?_
    show Steps p.tables e below (T47.setTop (mkF m 138 #[.val (.ref p0), .val (.int p1), .val (.ref p2), .unset] [(.ref p0), (.ref p0_b_states)])) _
    refine st48 _ ?_
    show Steps p.tables e below (T48.setTop (mkF m 141 #[.val (.ref p0), .val (.int p1), .val (.ref p2), .unset] [(.int (0 : Int32)), (.ref p0_b_states)])) _
    refine XS.aloadN X48.here hx rfl (hb hby d4_141) rfl rfl ?_
    exact kt)
  rw [((by rw [f2]) : (f2 p2 u_p2_ordinal) = u_p2_ordinal)] at hQ49
  obtain ⟨rfl, N49q, e49⟩ := hQ49
  have N49 := Fr.app N41' N49q
  obtain ⟨cl51, Ar51, q51, S51, N51, H51, G51⟩ := And.left ⟨V46, trivial⟩
  have hin51 : ¬ ((0 : Int32) < 0 ∨ cl51.slots.size ≤ ((0 : Int32)).toNatClampNeg) := inb_of S51 ⟨by decide, by decide⟩
  obtain ⟨T51, h51, X51, e51, W51, st51⟩ := stB X49 hx hZ e49 Ar51 (j := (0 : Int32)) hin51 (g := (mkF m 146 #[.val (.ref p0), .val (.int p1), .val (.ref p2), .unset] [(.int (u_p2_ordinal.toInt8.toInt32)), (.int (0 : Int32)), (.ref p0_b_states)])) rfl rfl (hb hby d4_146)
  rw [own_nar u_p2_ordinal] at W51
  have V51 : Arv Z h51 p0_b_states p0_k_states .byte (16 : Int32) [(.int (u_p2_ordinal.toInt8.toInt32)), (.int p0_x_states_1), (.int p0_x_states_2), (.int (0 : Int32)), (.int (0 : Int32)), (.int (0 : Int32)), (.int (0 : Int32)), (.int (0 : Int32)), (.int (0 : Int32)), (.int (0 : Int32)), (.int (0 : Int32)), (.int (0 : Int32)), (.int (0 : Int32)), (.int (0 : Int32)), (.int (0 : Int32)), (.int (0 : Int32))] (.int (0 : Int32)) := Arv.set Ar51 q51 S51 N51 H51 G51 (fits_nar_byte _) W51 0 rfl (Nat.le_of_ble_eq_true rfl)
  have E52 := E42.wr W51
  have F53 := F43.other W51 (Or.inl ne_p0_states)
  have F54 := F44.other W51 (Or.inl ne_p0_states)
  have F55 := F45.other W51 (Or.inl ne_p0_states)
  have V56 := V41.other W51 nn_p0_vertices_states
  have N51' := Fr.snoc X51 N49 g_p0_states
  have EX51 : Ext hs h51 := own_ext_wr EX41 W51 (Nat.le_trans Zs g_p0_states)
  have KK51 : Keep h0 h51 [p0_b_vertices, p0_b_states, p0] := Keep.wr KK41 W51 (Or.inl (List.mem_of_getElem? (i := 1) rfl))
  obtain ⟨T57, X57, e57, st57⟩ := getF X51 hx hZ hown (host := "") (Or.inl (hw _ (List.mem_of_getElem? (i := 27) rfl))) Via.refl e51 F55 (g := (mkF m 149 #[.val (.ref p0), .val (.int p1), .val (.ref p2), .unset] [(.ref p0), (.ref p0)])) rfl rfl (hb hby d4_149)
  obtain ⟨T58, h58, X58, e58, W58, st58⟩ := putF X57 hx hZ hown (host := "") (Or.inl (hw _ (List.mem_of_getElem? (i := 27) rfl))) Via.refl e57 F55 E52 (Or.inl (hw _ (List.mem_of_getElem? (i := 28) rfl))) (hw _ (List.mem_of_getElem? (i := 1) rfl)) (ty := .int) (by decide) rfl rfl (g := (mkF m 154 #[.val (.ref p0), .val (.int p1), .val (.ref p2), .unset] [(.int ((0 : Int32) + (1 : Int32))), (.ref p0)])) rfl rfl (hb hby d4_154)
  have E59 := E52.wr W58
  have F60 := F53.other W58 (Or.inr (slot_ne (Or.inl (hw _ (List.mem_of_getElem? (i := 11) rfl))) (Or.inl (hw _ (List.mem_of_getElem? (i := 28) rfl))) (by decide) (t := (.array .int)) (t' := .int) (by decide) (by decide)))
  have F61 := F54.other W58 (Or.inr (slot_ne (Or.inl (hw _ (List.mem_of_getElem? (i := 14) rfl))) (Or.inl (hw _ (List.mem_of_getElem? (i := 28) rfl))) (by decide) (t := (.array .byte)) (t' := .int) (by decide) (by decide)))
  have V62 := V56.other W58 (Ne.symm ne_p0_vertices)
  have V63 := V51.other W58 (Ne.symm ne_p0_states)
  have G58 : Fld Z h58 p0 "com/example/rippletide/rippletide/model/StateChanges" "count" "I" (.int ((0 : Int32) + (1 : Int32))) := F55.same W58
  rw [(by decide : ((0 : Int32) + (1 : Int32)) = (1 : Int32))] at G58
  have N58' := Fr.snoc X58 N51' g_p0
  have EX58 : Ext hs h58 := own_ext_wr EX51 W58 (Nat.le_trans Zs g_p0)
  have KK58 : Keep h0 h58 [p0_b_vertices, p0_b_states, p0] := Keep.wr KK51 W58 (Or.inl (List.mem_of_getElem? (i := 2) rfl))
  obtain ⟨fs, hr, hrun, hended, hW, hsame⟩ := X58.leave (v := none) (fun _ => rfl)
  refine ⟨_, _, k50 _ ?_, hrun, hended, _, _, rfl, ?_, ⟨_, rfl⟩, hW, hsame.mono (by decide) (by decide)⟩
  · show Steps p.tables e below (T48.setTop (mkF m 142 #[.val (.ref p0), .val (.int p1), .val (.ref p2), .unset] [(.ref p2), (.int (0 : Int32)), (.ref p0_b_states)])) _
    refine st49.trans ?_
    show Steps p.tables e below (T49.setTop (mkF m 145 #[.val (.ref p0), .val (.int p1), .val (.ref p2), .unset] [(.int u_p2_ordinal), (.int (0 : Int32)), (.ref p0_b_states)])) _
    refine XS.i2b X49.here hx rfl (hb hby d4_145) rfl ?_
    show Steps p.tables e below (T49.setTop (mkF m 146 #[.val (.ref p0), .val (.int p1), .val (.ref p2), .unset] [(.int (u_p2_ordinal.toInt8.toInt32)), (.int (0 : Int32)), (.ref p0_b_states)])) _
    refine st51 _ ?_
    show Steps p.tables e below (T51.setTop (mkF m 147 #[.val (.ref p0), .val (.int p1), .val (.ref p2), .unset] [])) _
    refine XS.aloadN X51.here hx rfl (hb hby d4_147) rfl rfl ?_
    show Steps p.tables e below (T51.setTop (mkF m 148 #[.val (.ref p0), .val (.int p1), .val (.ref p2), .unset] [(.ref p0)])) _
    refine XS.dup X51.here hx rfl (hb hby d4_148) rfl rfl ?_
    show Steps p.tables e below (T51.setTop (mkF m 149 #[.val (.ref p0), .val (.int p1), .val (.ref p2), .unset] [(.ref p0), (.ref p0)])) _
    refine st57 _ ?_
    show Steps p.tables e below (T57.setTop (mkF m 152 #[.val (.ref p0), .val (.int p1), .val (.ref p2), .unset] [(.int (0 : Int32)), (.ref p0)])) _
    refine XS.iconst X57.here hx rfl (hb hby d4_152) ?_
    show Steps p.tables e below (T57.setTop (mkF m 153 #[.val (.ref p0), .val (.int p1), .val (.ref p2), .unset] [(.int (1 : Int32)), (.int (0 : Int32)), (.ref p0)])) _
    refine XS.iadd X57.here hx rfl (hb hby d4_153) rfl ?_
    show Steps p.tables e below (T57.setTop (mkF m 154 #[.val (.ref p0), .val (.int p1), .val (.ref p2), .unset] [(.int ((0 : Int32) + (1 : Int32))), (.ref p0)])) _
    refine st58 _ ?_
    show Steps p.tables e below (T58.setTop (mkF m 157 #[.val (.ref p0), .val (.int p1), .val (.ref p2), .unset] [])) _
    exact X58.returnOut hx Bd.returns (hb hby d4_157) hr
  · show Q4 Z p0 p1 p2 p0_b_vertices p0_k_vertices p0_x_vertices_0 p0_x_vertices_1 p0_x_vertices_2 p0_b_states p0_k_states p0_x_states_0 p0_x_states_1 p0_x_states_2 u_p2_ordinal wSUSCEPTIBLE wRECOVERED wINFECTED hs h0 n0 _ T58.heap _
    rw [e58]
    exact ⟨rfl, N58', EX58, KK58, ⟨E59, g_p0, F60, F61, G58, g_p0_vertices, ne_p0_vertices, V62, g_p0_states, ne_p0_states, V63, nn_p0_vertices_states, trivial⟩⟩
theorem d4_11 : decode prog_38_method_3_code 11 = .ok (.iload_n 1, 1) := by decide +kernel
theorem d4_12 : decode prog_38_method_3_code 12 = .ok (.aload_n 0, 1) := by decide +kernel
theorem d4_13 : decode prog_38_method_3_code 13 = .ok (.getfield 7, 3) := by decide +kernel
theorem d4_16 : decode prog_38_method_3_code 16 = .ok (.aload_n 0, 1) := by decide +kernel
theorem d4_17 : decode prog_38_method_3_code 17 = .ok (.getfield 17, 3) := by decide +kernel
theorem d4_20 : decode prog_38_method_3_code 20 = .ok (.iconst 1, 1) := by decide +kernel
theorem d4_21 : decode prog_38_method_3_code 21 = .ok (.isub, 1) := by decide +kernel
theorem d4_22 : decode prog_38_method_3_code 22 = .ok (.iaload, 1) := by decide +kernel
theorem d4_23 : decode prog_38_method_3_code 23 = .ok (.if_icmp .gt 47, 3) := by decide +kernel
theorem ef_5 (m : MethodId) (p0 : Addr) (p1 : Int32) (p2 : Addr) : entryFrame m #[(.ref p0), (.int p1), (.ref p2)] 4 = mkF m 0 #[.val (.ref p0), .val (.int p1), .val (.ref p2), .unset] [] := by first | (simp [entryFrame, mkF, argsToLocals, Value.category]; done) | rfl
def Q5 (Z : State) (p0 : Addr) (p1 : Int32) (p2 : Addr) (p0_b_vertices : Addr) (p0_k_vertices : ClassId) (p0_x_vertices_0 : Int32) (p0_x_vertices_1 : Int32) (p0_x_vertices_2 : Int32) (p0_b_states : Addr) (p0_k_states : ClassId) (p0_x_states_0 : Int32) (p0_x_states_1 : Int32) (p0_x_states_2 : Int32) (u_p2_ordinal : Int32) (wSUSCEPTIBLE : Addr) (wRECOVERED : Addr) (wINFECTED : Addr) (hs : Heap) (h0 : Heap) (n0 : Nat) (v : Option Value) (h : Heap) (L : List Loc) : Prop := v = none ∧ Fr n0 L ∧ Ext hs h ∧ Keep h0 h [p0_b_vertices, p0_b_states, p0] ∧ Obj Z h n0 p0 p0_b_vertices p0_k_vertices p0_x_vertices_0 p1 p0_x_vertices_2 p0_b_states p0_k_states p0_x_states_0 (u_p2_ordinal.toInt8.toInt32) p0_x_states_2 (2 : Int32)
set_option maxRecDepth 65536 in
set_option maxHeartbeats 40000000 in
theorem rm5 (l : Launch) (Z : State) (a0 : Array Value) (hw : ∀ d ∈ tables_1, d.before a0 Z = true) (ws : List Jvm.Cond) (p0 : Addr) (p1 : Int32) (p2 : Addr) (p0_b_vertices : Addr) (p0_k_vertices : ClassId) (p0_x_vertices_0 : Int32) (p0_x_vertices_1 : Int32) (p0_x_vertices_2 : Int32) (p0_b_states : Addr) (p0_k_states : ClassId) (p0_x_states_0 : Int32) (p0_x_states_1 : Int32) (p0_x_states_2 : Int32) (u_p2_ordinal : Int32) (wSUSCEPTIBLE : Addr) (wRECOVERED : Addr) (wINFECTED : Addr) (hs : Heap) (h0 : Heap) (n0 : Nat) (Z0 : n0 ≤ h0.size) (WS : World Z hs wSUSCEPTIBLE wRECOVERED wINFECTED) (O0 : Ext hs h0) (Zs : hs.size ≤ n0) (OB_p0 : Obj Z h0 n0 p0 p0_b_vertices p0_k_vertices p0_x_vertices_0 p0_x_vertices_1 p0_x_vertices_2 p0_b_states p0_k_states p0_x_states_0 p0_x_states_1 p0_x_states_2 (1 : Int32)) (G_p2_ordinal : Fld Z hs p2 "java/lang/Enum" "ordinal" "I" (.int u_p2_ordinal)) (E_p2 : Exa Z hs p2 "com/example/rippletide/rippletide/model/State") (hv : ¬ p1 < (0 : Int32)) (ha : p0_x_vertices_0 < p1) :
    MetFree l (⟨"com/example/rippletide/rippletide/model/StateChanges", "add", "(ILcom/example/rippletide/rippletide/model/State;)V"⟩ : MethodName) (head1 (Jvm.Cond.code (⟨"com/example/rippletide/rippletide/model/StateChanges", "add", "(ILcom/example/rippletide/rippletide/model/State;)V"⟩ : MethodName) prog_38_method_3_code 4 none :: ws) ({ frames := 1, cells := 0, slots := 0, locals := 14 } : Room)) (fun a U => a = #[(.ref p0), (.int p1), (.ref p2)] ∧ Z.Warmed39 U.vm ∧ U.heap = h0) (fun _ _ _ _ _ => True) (fun _ U o U' => ∃ v L, o = .returned v ∧ Q5 Z p0 p1 p2 p0_b_vertices p0_k_vertices p0_x_vertices_0 p0_x_vertices_1 p0_x_vertices_2 p0_b_states p0_k_states p0_x_states_0 p0_x_states_1 p0_x_states_2 u_p2_ordinal wSUSCEPTIBLE wRECOVERED wINFECTED hs h0 n0 v U'.heap L ∧ FrameEnd U o U' L ({ frames := 1, cells := 0, slots := 0, locals := 14 } : Room).cells ({ frames := 1, cells := 0, slots := 0, locals := 14 } : Room).slots) := by
  refine MetFree.of_bodySF (plainFor_of_name pn_2) hisR ?_
  intro p e s m args below meth c s₁ Bd hml0 hP hK
  obtain ⟨rfl, hZ, hh⟩ := hP
  have hx := Bd.exec
  have hby := Bd.bytes
  have hml : c.maxLocals = 4 := hml0
  have hown : s.vm.findClass "com/example/rippletide/rippletide/model/StateChanges" = some m.cls := findClass_of_methodNamed Bd.named
  have hnm := (name_of_methodNamed Bd.named Bd.method).1
  have X0 : Stand p l e ({ frames := 1, cells := 0, slots := 0, locals := 14 } : Room) s m #[(.ref p0), (.int p1), (.ref p2)] below meth c s₁ [] 0 0 := Stand.of_body Bd
  have e0 : s₁.heap = h0 := by rw [← hh, Bd.state]; rfl
  have N0 := Fr.nil n0
  have W1 := WS
  obtain ⟨SSUSCEPTIBLE, ESUSCEPTIBLE, FSUSCEPTIBLE_ordinal, SRECOVERED, ERECOVERED, FRECOVERED_ordinal, SINFECTED, EINFECTED, FINFECTED_ordinal, -⟩ := W1
  obtain ⟨E_p0, g_p0, G_p0_vertices, G_p0_states, G_p0_count, g_p0_vertices, ne_p0_vertices, V_p0_vertices, g_p0_states, ne_p0_states, V_p0_states, nn_p0_vertices_states, -⟩ := OB_p0
  have pre0 : ∀ t, Steps p.tables e below (s₁.setTop (mkF m 0 #[.val (.ref p0), .val (.int p1), .val (.ref p2), .unset] [])) t → Steps p.tables e below (s₁.setTop (entryFrame m #[(.ref p0), (.int p1), (.ref p2)] 4)) t := fun t k => castTop (ef_5 m p0 p1 p2) k
  obtain ⟨T64, X64, e64, st64⟩ := getF X0 hx hZ hown (host := "") (Or.inl (hw _ (List.mem_of_getElem? (i := 27) rfl))) Via.refl e0 G_p0_count (g := (mkF m 5 #[.val (.ref p0), .val (.int p1), .val (.ref p2), .unset] [(.ref p0)])) rfl rfl (hb hby d4_5)
  obtain ⟨T65, X65, e65, st65⟩ := getF X64 hx hZ hown (host := "") (Or.inl (hw _ (List.mem_of_getElem? (i := 10) rfl))) Via.refl e64 G_p0_vertices (g := (mkF m 13 #[.val (.ref p0), .val (.int p1), .val (.ref p2), .unset] [(.ref p0), (.int p1)])) rfl rfl (hb hby d4_13)
  obtain ⟨T66, X66, e66, st66⟩ := getF X65 hx hZ hown (host := "") (Or.inl (hw _ (List.mem_of_getElem? (i := 27) rfl))) Via.refl e65 G_p0_count (g := (mkF m 17 #[.val (.ref p0), .val (.int p1), .val (.ref p2), .unset] [(.ref p0), (.ref p0_b_vertices), (.int p1)])) rfl rfl (hb hby d4_17)
  obtain ⟨cla67, Ara67, qa67, Sa67, Na67, Ha67, Ga67⟩ := And.left ⟨V_p0_vertices, trivial⟩
  have hina67 : ¬ (((1 : Int32) - (1 : Int32)) < 0 ∨ cla67.slots.size ≤ (((1 : Int32) - (1 : Int32))).toNatClampNeg) := inb_of Sa67 ⟨by decide, by decide⟩
  obtain ⟨T68, X68, e68, st68⟩ := getF X66 hx hZ hown (host := "") (Or.inl (hw _ (List.mem_of_getElem? (i := 27) rfl))) Via.refl e66 G_p0_count (g := (mkF m 71 #[.val (.ref p0), .val (.int p1), .val (.ref p2), .unset] [(.ref p0)])) rfl rfl (hb hby d4_71)
  obtain ⟨T69, X69, e69, st69⟩ := getF X68 hx hZ hown (host := "") (Or.inl (hw _ (List.mem_of_getElem? (i := 10) rfl))) Via.refl e68 G_p0_vertices (g := (mkF m 75 #[.val (.ref p0), .val (.int p1), .val (.ref p2), .unset] [(.ref p0), (.int (1 : Int32))])) rfl rfl (hb hby d4_75)
  obtain ⟨cla70, Ara70, qa70, Sa70, Na70, -, -⟩ := And.left ⟨V_p0_vertices, trivial⟩
  obtain ⟨T71, X71, e71, st71⟩ := getF X69 hx hZ hown (host := "") (Or.inl (hw _ (List.mem_of_getElem? (i := 10) rfl))) Via.refl e69 G_p0_vertices (g := (mkF m 124 #[.val (.ref p0), .val (.int p1), .val (.ref p2), .unset] [(.ref p0)])) rfl rfl (hb hby d4_124)
  obtain ⟨T72, X72, e72, st72⟩ := getF X71 hx hZ hown (host := "") (Or.inl (hw _ (List.mem_of_getElem? (i := 27) rfl))) Via.refl e71 G_p0_count (g := (mkF m 128 #[.val (.ref p0), .val (.int p1), .val (.ref p2), .unset] [(.ref p0), (.ref p0_b_vertices)])) rfl rfl (hb hby d4_128)
  obtain ⟨cl73, Ar73, q73, S73, N73, H73, G73⟩ := And.left ⟨V_p0_vertices, trivial⟩
  have hin73 : ¬ ((1 : Int32) < 0 ∨ cl73.slots.size ≤ ((1 : Int32)).toNatClampNeg) := inb_of S73 ⟨by decide, by decide⟩
  obtain ⟨T73, h73, X73, e73, W73, st73⟩ := stI X72 hx hZ e72 Ar73 (j := (1 : Int32)) hin73 (g := (mkF m 132 #[.val (.ref p0), .val (.int p1), .val (.ref p2), .unset] [(.int p1), (.int (1 : Int32)), (.ref p0_b_vertices)])) rfl rfl (hb hby d4_132)
  have V73 : Arv Z h73 p0_b_vertices p0_k_vertices .int (16 : Int32) [(.int p0_x_vertices_0), (.int p1), (.int p0_x_vertices_2), (.int (0 : Int32)), (.int (0 : Int32)), (.int (0 : Int32)), (.int (0 : Int32)), (.int (0 : Int32)), (.int (0 : Int32)), (.int (0 : Int32)), (.int (0 : Int32)), (.int (0 : Int32)), (.int (0 : Int32)), (.int (0 : Int32)), (.int (0 : Int32)), (.int (0 : Int32))] (.int (0 : Int32)) := Arv.set Ar73 q73 S73 N73 H73 G73 rfl W73 1 rfl (Nat.le_of_ble_eq_true rfl)
  have E74 := E_p0.wr W73
  have F75 := G_p0_vertices.other W73 (Or.inl ne_p0_vertices)
  have F76 := G_p0_states.other W73 (Or.inl ne_p0_vertices)
  have F77 := G_p0_count.other W73 (Or.inl ne_p0_vertices)
  have V78 := V_p0_states.other W73 (Ne.symm nn_p0_vertices_states)
  have N73' := Fr.snoc X73 N0 g_p0_vertices
  have EX73 : Ext hs h73 := own_ext_wr O0 W73 (Nat.le_trans Zs g_p0_vertices)
  have KK73 : Keep h0 h73 [p0_b_vertices, p0_b_states, p0] := Keep.wr (Keep.refl h0 [p0_b_vertices, p0_b_states, p0]) W73 (Or.inl (List.mem_of_getElem? (i := 0) rfl))
  obtain ⟨T79, X79, e79, st79⟩ := getF X73 hx hZ hown (host := "") (Or.inl (hw _ (List.mem_of_getElem? (i := 13) rfl))) Via.refl e73 F76 (g := (mkF m 134 #[.val (.ref p0), .val (.int p1), .val (.ref p2), .unset] [(.ref p0)])) rfl rfl (hb hby d4_134)
  obtain ⟨T80, X80, e80, st80⟩ := getF X79 hx hZ hown (host := "") (Or.inl (hw _ (List.mem_of_getElem? (i := 27) rfl))) Via.refl e79 F77 (g := (mkF m 138 #[.val (.ref p0), .val (.int p1), .val (.ref p2), .unset] [(.ref p0), (.ref p0_b_states)])) rfl rfl (hb hby d4_138)
  obtain ⟨cq81, kq81, q81a, q81b, q81c⟩ := isOf hZ e80 (E_p2.ext EX73)
  obtain ⟨_, _, ⟨T81, L81, k81, n81⟩, -, X81, ⟨Lc81, hQ81, l81, y81, z81⟩, st81⟩ := X80.virtualBackUp hx (owner := "java/lang/Enum") (x := (⟨"com/example/rippletide/rippletide/model/State", "ordinal", "()I"⟩ : MethodName)) (y := (⟨"java/lang/Enum", "ordinal", "()I"⟩ : MethodName)) hown (mvT hZ (hw _ (List.mem_of_getElem? (i := 29) rfl))) (mvT hZ (hw _ (List.mem_of_getElem? (i := 30) rfl))) (mvT hZ (hw _ (List.mem_of_getElem? (i := 31) rfl))) (by decide) (mvT hZ (hw _ (List.mem_of_getElem? (i := 33) rfl))) (mvT hZ (hw _ (List.mem_of_getElem? (i := 32) rfl))) (backOf (W := 2) (rm2 l Z a0 hw [] p2 u_p2_ordinal h73 n0 (Nat.le_trans Z0 KK73.1) (G_p2_ordinal.ext EX73)) hZ (hw _ (List.mem_of_getElem? (i := 35) rfl)) (hw _ (List.mem_of_getElem? (i := 34) rfl)) (by decide) (by decide)) q81a q81c (g := (mkF m 142 #[.val (.ref p0), .val (.int p1), .val (.ref p2), .unset] [(.ref p2), (.int (1 : Int32)), (.ref p0_b_states)])) rfl (by rw [hml]; rfl) (Steps.refl _) (argsL := []) (rest := [(.int (1 : Int32)), (.ref p0_b_states)]) (lenOf pd_0 rfl) rfl (by show 2 * 0 + _ ≤ _; exact Nat.le_of_eq rfl) (hb hby d4_142) (fun _ _ => ⟨rfl, e80, (by decide : 0 + 0 ≤ _), (by decide : 0 + 0 ≤ _)⟩)
  dsimp only [Pt.U, Pt.locs, Pt.cells, Pt.slots] at X81 l81 y81 z81 st81 hQ81
  subst l81 y81 z81
  unfold Q2 at hQ81
  have k82 : ∀ t, Steps p.tables e below (T80.setTop (mkF m 142 #[.val (.ref p0), .val (.int p1), .val (.ref p2), .unset] [(.ref p2), (.int (1 : Int32)), (.ref p0_b_states)])) t → Steps p.tables e below (s₁.setTop (entryFrame m #[(.ref p0), (.int p1), (.ref p2)] 4)) t := fun t kt => pre0 t (by
    show Steps p.tables e below (s₁.setTop (mkF m 0 #[.val (.ref p0), .val (.int p1), .val (.ref p2), .unset] [])) _
    refine XS.iloadN X0.here hx rfl (hb hby d4_0) rfl ?_
    show Steps p.tables e below (s₁.setTop (mkF m 1 #[.val (.ref p0), .val (.int p1), .val (.ref p2), .unset] [(.int p1)])) _
    refine XS.ifNo X0.here hx rfl (hb hby d4_1) rfl ((if0 _ _).trans (flt (hv : ¬ (p1 < (0 : Int32)))).1) ?_
    show Steps p.tables e below (s₁.setTop (mkF m 4 #[.val (.ref p0), .val (.int p1), .val (.ref p2), .unset] [])) _
    refine XS.aloadN X0.here hx rfl (hb hby d4_4) rfl rfl ?_
    show Steps p.tables e below (s₁.setTop (mkF m 5 #[.val (.ref p0), .val (.int p1), .val (.ref p2), .unset] [(.ref p0)])) _
    refine st64 _ ?_
    show Steps p.tables e below (T64.setTop (mkF m 8 #[.val (.ref p0), .val (.int p1), .val (.ref p2), .unset] [(.int (1 : Int32))])) _
    refine XS.ifNo X64.here hx rfl (hb hby d4_8) rfl ((if0 _ _).trans (tlt ((by decide) : (0 : Int32) < (1 : Int32))).2.2.2) ?_
    show Steps p.tables e below (T64.setTop (mkF m 11 #[.val (.ref p0), .val (.int p1), .val (.ref p2), .unset] [])) _
    refine XS.iloadN X64.here hx rfl (hb hby d4_11) rfl ?_
    show Steps p.tables e below (T64.setTop (mkF m 12 #[.val (.ref p0), .val (.int p1), .val (.ref p2), .unset] [(.int p1)])) _
    refine XS.aloadN X64.here hx rfl (hb hby d4_12) rfl rfl ?_
    show Steps p.tables e below (T64.setTop (mkF m 13 #[.val (.ref p0), .val (.int p1), .val (.ref p2), .unset] [(.ref p0), (.int p1)])) _
    refine st65 _ ?_
    show Steps p.tables e below (T65.setTop (mkF m 16 #[.val (.ref p0), .val (.int p1), .val (.ref p2), .unset] [(.ref p0_b_vertices), (.int p1)])) _
    refine XS.aloadN X65.here hx rfl (hb hby d4_16) rfl rfl ?_
    show Steps p.tables e below (T65.setTop (mkF m 17 #[.val (.ref p0), .val (.int p1), .val (.ref p2), .unset] [(.ref p0), (.ref p0_b_vertices), (.int p1)])) _
    refine st66 _ ?_
    show Steps p.tables e below (T66.setTop (mkF m 20 #[.val (.ref p0), .val (.int p1), .val (.ref p2), .unset] [(.int (1 : Int32)), (.ref p0_b_vertices), (.int p1)])) _
    refine XS.iconst X66.here hx rfl (hb hby d4_20) ?_
    show Steps p.tables e below (T66.setTop (mkF m 21 #[.val (.ref p0), .val (.int p1), .val (.ref p2), .unset] [(.int (1 : Int32)), (.int (1 : Int32)), (.ref p0_b_vertices), (.int p1)])) _
    refine XS.isub X66.here hx rfl (hb hby d4_21) rfl ?_
    show Steps p.tables e below (T66.setTop (mkF m 22 #[.val (.ref p0), .val (.int p1), .val (.ref p2), .unset] [(.int ((1 : Int32) - (1 : Int32))), (.ref p0_b_vertices), (.int p1)])) _
    refine X66.iaload hx (j := ((1 : Int32) - (1 : Int32))) (v := (.int p0_x_vertices_0)) (by rw [e66]; exact Ara67.1) (State.isArrayOf_alike hZ.alike Ara67.2.1) Ara67.2.2 hina67 (Ha67.at hina67 rfl) (g := (mkF m 22 #[.val (.ref p0), .val (.int p1), .val (.ref p2), .unset] [(.int ((1 : Int32) - (1 : Int32))), (.ref p0_b_vertices), (.int p1)])) rfl rfl (hb hby d4_22) _ ?_
    show Steps p.tables e below (T66.setTop (mkF m 23 #[.val (.ref p0), .val (.int p1), .val (.ref p2), .unset] [(.int p0_x_vertices_0), (.int p1)])) _
    refine XS.icmpYes X66.here hx rfl (pc0 := 23) (pc' := 70) rfl (hb hby d4_23) rfl (tlt (ha : p0_x_vertices_0 < p1)).2.2.1 (by decide) (by decide) ?_
    show Steps p.tables e below (T66.setTop (mkF m 70 #[.val (.ref p0), .val (.int p1), .val (.ref p2), .unset] [])) _
    refine XS.aloadN X66.here hx rfl (hb hby d4_70) rfl rfl ?_
    show Steps p.tables e below (T66.setTop (mkF m 71 #[.val (.ref p0), .val (.int p1), .val (.ref p2), .unset] [(.ref p0)])) _
    refine st68 _ ?_
    show Steps p.tables e below (T68.setTop (mkF m 74 #[.val (.ref p0), .val (.int p1), .val (.ref p2), .unset] [(.int (1 : Int32))])) _
    refine XS.aloadN X68.here hx rfl (hb hby d4_74) rfl rfl ?_
    show Steps p.tables e below (T68.setTop (mkF m 75 #[.val (.ref p0), .val (.int p1), .val (.ref p2), .unset] [(.ref p0), (.int (1 : Int32))])) _
    refine st69 _ ?_
    show Steps p.tables e below (T69.setTop (mkF m 78 #[.val (.ref p0), .val (.int p1), .val (.ref p2), .unset] [(.ref p0_b_vertices), (.int (1 : Int32))])) _
    refine X69.arraylength hx (by rw [e69]; exact Ara70.1) (State.isArrayOf_alike hZ.alike Ara70.2.1) (g := (mkF m 78 #[.val (.ref p0), .val (.int p1), .val (.ref p2), .unset] [(.ref p0_b_vertices), (.int (1 : Int32))])) rfl rfl (hb hby d4_78) _ ?_
    rw [len_of Sa70 Na70]
    show Steps p.tables e below (T69.setTop (mkF m 79 #[.val (.ref p0), .val (.int p1), .val (.ref p2), .unset] [(.int (16 : Int32)), (.int (1 : Int32))])) _
    refine XS.icmpYes X69.here hx rfl (pc0 := 79) (pc' := 123) rfl (hb hby d4_79) rfl (feq ((by decide) : ¬ ((1 : Int32) = (16 : Int32)))).2 (by decide) (by decide) ?_
    show Steps p.tables e below (T69.setTop (mkF m 123 #[.val (.ref p0), .val (.int p1), .val (.ref p2), .unset] [])) _
    refine XS.aloadN X69.here hx rfl (hb hby d4_123) rfl rfl ?_
    show Steps p.tables e below (T69.setTop (mkF m 124 #[.val (.ref p0), .val (.int p1), .val (.ref p2), .unset] [(.ref p0)])) _
    refine st71 _ ?_
    show Steps p.tables e below (T71.setTop (mkF m 127 #[.val (.ref p0), .val (.int p1), .val (.ref p2), .unset] [(.ref p0_b_vertices)])) _
    refine XS.aloadN X71.here hx rfl (hb hby d4_127) rfl rfl ?_
    show Steps p.tables e below (T71.setTop (mkF m 128 #[.val (.ref p0), .val (.int p1), .val (.ref p2), .unset] [(.ref p0), (.ref p0_b_vertices)])) _
    refine st72 _ ?_
    show Steps p.tables e below (T72.setTop (mkF m 131 #[.val (.ref p0), .val (.int p1), .val (.ref p2), .unset] [(.int (1 : Int32)), (.ref p0_b_vertices)])) _
    refine XS.iloadN X72.here hx rfl (hb hby d4_131) rfl ?_
    show Steps p.tables e below (T72.setTop (mkF m 132 #[.val (.ref p0), .val (.int p1), .val (.ref p2), .unset] [(.int p1), (.int (1 : Int32)), (.ref p0_b_vertices)])) _
    refine st73 _ ?_
    show Steps p.tables e below (T73.setTop (mkF m 133 #[.val (.ref p0), .val (.int p1), .val (.ref p2), .unset] [])) _
    refine XS.aloadN X73.here hx rfl (hb hby d4_133) rfl rfl ?_
    show Steps p.tables e below (T73.setTop (mkF m 134 #[.val (.ref p0), .val (.int p1), .val (.ref p2), .unset] [(.ref p0)])) _
    refine st79 _ ?_
    show Steps p.tables e below (T79.setTop (mkF m 137 #[.val (.ref p0), .val (.int p1), .val (.ref p2), .unset] [(.ref p0_b_states)])) _
    refine XS.aloadN X79.here hx rfl (hb hby d4_137) rfl rfl ?_
    show Steps p.tables e below (T79.setTop (mkF m 138 #[.val (.ref p0), .val (.int p1), .val (.ref p2), .unset] [(.ref p0), (.ref p0_b_states)])) _
    refine st80 _ ?_
    show Steps p.tables e below (T80.setTop (mkF m 141 #[.val (.ref p0), .val (.int p1), .val (.ref p2), .unset] [(.int (1 : Int32)), (.ref p0_b_states)])) _
    refine XS.aloadN X80.here hx rfl (hb hby d4_141) rfl rfl ?_
    exact kt)
  rw [((by rw [f2]) : (f2 p2 u_p2_ordinal) = u_p2_ordinal)] at hQ81
  obtain ⟨rfl, N81q, e81⟩ := hQ81
  have N81 := Fr.app N73' N81q
  obtain ⟨cl83, Ar83, q83, S83, N83, H83, G83⟩ := And.left ⟨V78, trivial⟩
  have hin83 : ¬ ((1 : Int32) < 0 ∨ cl83.slots.size ≤ ((1 : Int32)).toNatClampNeg) := inb_of S83 ⟨by decide, by decide⟩
  obtain ⟨T83, h83, X83, e83, W83, st83⟩ := stB X81 hx hZ e81 Ar83 (j := (1 : Int32)) hin83 (g := (mkF m 146 #[.val (.ref p0), .val (.int p1), .val (.ref p2), .unset] [(.int (u_p2_ordinal.toInt8.toInt32)), (.int (1 : Int32)), (.ref p0_b_states)])) rfl rfl (hb hby d4_146)
  rw [own_nar u_p2_ordinal] at W83
  have V83 : Arv Z h83 p0_b_states p0_k_states .byte (16 : Int32) [(.int p0_x_states_0), (.int (u_p2_ordinal.toInt8.toInt32)), (.int p0_x_states_2), (.int (0 : Int32)), (.int (0 : Int32)), (.int (0 : Int32)), (.int (0 : Int32)), (.int (0 : Int32)), (.int (0 : Int32)), (.int (0 : Int32)), (.int (0 : Int32)), (.int (0 : Int32)), (.int (0 : Int32)), (.int (0 : Int32)), (.int (0 : Int32)), (.int (0 : Int32))] (.int (0 : Int32)) := Arv.set Ar83 q83 S83 N83 H83 G83 (fits_nar_byte _) W83 1 rfl (Nat.le_of_ble_eq_true rfl)
  have E84 := E74.wr W83
  have F85 := F75.other W83 (Or.inl ne_p0_states)
  have F86 := F76.other W83 (Or.inl ne_p0_states)
  have F87 := F77.other W83 (Or.inl ne_p0_states)
  have V88 := V73.other W83 nn_p0_vertices_states
  have N83' := Fr.snoc X83 N81 g_p0_states
  have EX83 : Ext hs h83 := own_ext_wr EX73 W83 (Nat.le_trans Zs g_p0_states)
  have KK83 : Keep h0 h83 [p0_b_vertices, p0_b_states, p0] := Keep.wr KK73 W83 (Or.inl (List.mem_of_getElem? (i := 1) rfl))
  obtain ⟨T89, X89, e89, st89⟩ := getF X83 hx hZ hown (host := "") (Or.inl (hw _ (List.mem_of_getElem? (i := 27) rfl))) Via.refl e83 F87 (g := (mkF m 149 #[.val (.ref p0), .val (.int p1), .val (.ref p2), .unset] [(.ref p0), (.ref p0)])) rfl rfl (hb hby d4_149)
  obtain ⟨T90, h90, X90, e90, W90, st90⟩ := putF X89 hx hZ hown (host := "") (Or.inl (hw _ (List.mem_of_getElem? (i := 27) rfl))) Via.refl e89 F87 E84 (Or.inl (hw _ (List.mem_of_getElem? (i := 28) rfl))) (hw _ (List.mem_of_getElem? (i := 1) rfl)) (ty := .int) (by decide) rfl rfl (g := (mkF m 154 #[.val (.ref p0), .val (.int p1), .val (.ref p2), .unset] [(.int ((1 : Int32) + (1 : Int32))), (.ref p0)])) rfl rfl (hb hby d4_154)
  have E91 := E84.wr W90
  have F92 := F85.other W90 (Or.inr (slot_ne (Or.inl (hw _ (List.mem_of_getElem? (i := 11) rfl))) (Or.inl (hw _ (List.mem_of_getElem? (i := 28) rfl))) (by decide) (t := (.array .int)) (t' := .int) (by decide) (by decide)))
  have F93 := F86.other W90 (Or.inr (slot_ne (Or.inl (hw _ (List.mem_of_getElem? (i := 14) rfl))) (Or.inl (hw _ (List.mem_of_getElem? (i := 28) rfl))) (by decide) (t := (.array .byte)) (t' := .int) (by decide) (by decide)))
  have V94 := V88.other W90 (Ne.symm ne_p0_vertices)
  have V95 := V83.other W90 (Ne.symm ne_p0_states)
  have G90 : Fld Z h90 p0 "com/example/rippletide/rippletide/model/StateChanges" "count" "I" (.int ((1 : Int32) + (1 : Int32))) := F87.same W90
  rw [(by decide : ((1 : Int32) + (1 : Int32)) = (2 : Int32))] at G90
  have N90' := Fr.snoc X90 N83' g_p0
  have EX90 : Ext hs h90 := own_ext_wr EX83 W90 (Nat.le_trans Zs g_p0)
  have KK90 : Keep h0 h90 [p0_b_vertices, p0_b_states, p0] := Keep.wr KK83 W90 (Or.inl (List.mem_of_getElem? (i := 2) rfl))
  obtain ⟨fs, hr, hrun, hended, hW, hsame⟩ := X90.leave (v := none) (fun _ => rfl)
  refine ⟨_, _, k82 _ ?_, hrun, hended, _, _, rfl, ?_, ⟨_, rfl⟩, hW, hsame.mono (by decide) (by decide)⟩
  · show Steps p.tables e below (T80.setTop (mkF m 142 #[.val (.ref p0), .val (.int p1), .val (.ref p2), .unset] [(.ref p2), (.int (1 : Int32)), (.ref p0_b_states)])) _
    refine st81.trans ?_
    show Steps p.tables e below (T81.setTop (mkF m 145 #[.val (.ref p0), .val (.int p1), .val (.ref p2), .unset] [(.int u_p2_ordinal), (.int (1 : Int32)), (.ref p0_b_states)])) _
    refine XS.i2b X81.here hx rfl (hb hby d4_145) rfl ?_
    show Steps p.tables e below (T81.setTop (mkF m 146 #[.val (.ref p0), .val (.int p1), .val (.ref p2), .unset] [(.int (u_p2_ordinal.toInt8.toInt32)), (.int (1 : Int32)), (.ref p0_b_states)])) _
    refine st83 _ ?_
    show Steps p.tables e below (T83.setTop (mkF m 147 #[.val (.ref p0), .val (.int p1), .val (.ref p2), .unset] [])) _
    refine XS.aloadN X83.here hx rfl (hb hby d4_147) rfl rfl ?_
    show Steps p.tables e below (T83.setTop (mkF m 148 #[.val (.ref p0), .val (.int p1), .val (.ref p2), .unset] [(.ref p0)])) _
    refine XS.dup X83.here hx rfl (hb hby d4_148) rfl rfl ?_
    show Steps p.tables e below (T83.setTop (mkF m 149 #[.val (.ref p0), .val (.int p1), .val (.ref p2), .unset] [(.ref p0), (.ref p0)])) _
    refine st89 _ ?_
    show Steps p.tables e below (T89.setTop (mkF m 152 #[.val (.ref p0), .val (.int p1), .val (.ref p2), .unset] [(.int (1 : Int32)), (.ref p0)])) _
    refine XS.iconst X89.here hx rfl (hb hby d4_152) ?_
    show Steps p.tables e below (T89.setTop (mkF m 153 #[.val (.ref p0), .val (.int p1), .val (.ref p2), .unset] [(.int (1 : Int32)), (.int (1 : Int32)), (.ref p0)])) _
    refine XS.iadd X89.here hx rfl (hb hby d4_153) rfl ?_
    show Steps p.tables e below (T89.setTop (mkF m 154 #[.val (.ref p0), .val (.int p1), .val (.ref p2), .unset] [(.int ((1 : Int32) + (1 : Int32))), (.ref p0)])) _
    refine st90 _ ?_
    show Steps p.tables e below (T90.setTop (mkF m 157 #[.val (.ref p0), .val (.int p1), .val (.ref p2), .unset] [])) _
    exact X90.returnOut hx Bd.returns (hb hby d4_157) hr
  · show Q5 Z p0 p1 p2 p0_b_vertices p0_k_vertices p0_x_vertices_0 p0_x_vertices_1 p0_x_vertices_2 p0_b_states p0_k_states p0_x_states_0 p0_x_states_1 p0_x_states_2 u_p2_ordinal wSUSCEPTIBLE wRECOVERED wINFECTED hs h0 n0 _ T90.heap _
    rw [e90]
    exact ⟨rfl, N90', EX90, KK90, ⟨E91, g_p0, F92, F93, G90, g_p0_vertices, ne_p0_vertices, V94, g_p0_states, ne_p0_states, V95, nn_p0_vertices_states, trivial⟩⟩

theorem ef_6 (m : MethodId) (p0 : Addr) (p1 : Int32) (p2 : Addr) : entryFrame m #[(.ref p0), (.int p1), (.ref p2)] 4 = mkF m 0 #[.val (.ref p0), .val (.int p1), .val (.ref p2), .unset] [] := by first | (simp [entryFrame, mkF, argsToLocals, Value.category]; done) | rfl
def Q6 (Z : State) (p0 : Addr) (p1 : Int32) (p2 : Addr) (p0_b_vertices : Addr) (p0_k_vertices : ClassId) (p0_x_vertices_0 : Int32) (p0_x_vertices_1 : Int32) (p0_x_vertices_2 : Int32) (p0_b_states : Addr) (p0_k_states : ClassId) (p0_x_states_0 : Int32) (p0_x_states_1 : Int32) (p0_x_states_2 : Int32) (u_p2_ordinal : Int32) (wSUSCEPTIBLE : Addr) (wRECOVERED : Addr) (wINFECTED : Addr) (hs : Heap) (h0 : Heap) (n0 : Nat) (v : Option Value) (h : Heap) (L : List Loc) : Prop := v = none ∧ Fr n0 L ∧ Ext hs h ∧ Keep h0 h [p0_b_vertices, p0_b_states, p0] ∧ Obj Z h n0 p0 p0_b_vertices p0_k_vertices p0_x_vertices_0 p0_x_vertices_1 p1 p0_b_states p0_k_states p0_x_states_0 p0_x_states_1 (u_p2_ordinal.toInt8.toInt32) (3 : Int32)
set_option maxRecDepth 65536 in
set_option maxHeartbeats 40000000 in
theorem rm6 (l : Launch) (Z : State) (a0 : Array Value) (hw : ∀ d ∈ tables_1, d.before a0 Z = true) (ws : List Jvm.Cond) (p0 : Addr) (p1 : Int32) (p2 : Addr) (p0_b_vertices : Addr) (p0_k_vertices : ClassId) (p0_x_vertices_0 : Int32) (p0_x_vertices_1 : Int32) (p0_x_vertices_2 : Int32) (p0_b_states : Addr) (p0_k_states : ClassId) (p0_x_states_0 : Int32) (p0_x_states_1 : Int32) (p0_x_states_2 : Int32) (u_p2_ordinal : Int32) (wSUSCEPTIBLE : Addr) (wRECOVERED : Addr) (wINFECTED : Addr) (hs : Heap) (h0 : Heap) (n0 : Nat) (Z0 : n0 ≤ h0.size) (WS : World Z hs wSUSCEPTIBLE wRECOVERED wINFECTED) (O0 : Ext hs h0) (Zs : hs.size ≤ n0) (OB_p0 : Obj Z h0 n0 p0 p0_b_vertices p0_k_vertices p0_x_vertices_0 p0_x_vertices_1 p0_x_vertices_2 p0_b_states p0_k_states p0_x_states_0 p0_x_states_1 p0_x_states_2 (2 : Int32)) (G_p2_ordinal : Fld Z hs p2 "java/lang/Enum" "ordinal" "I" (.int u_p2_ordinal)) (E_p2 : Exa Z hs p2 "com/example/rippletide/rippletide/model/State") (hv : ¬ p1 < (0 : Int32)) (ha : p0_x_vertices_1 < p1) :
    MetFree l (⟨"com/example/rippletide/rippletide/model/StateChanges", "add", "(ILcom/example/rippletide/rippletide/model/State;)V"⟩ : MethodName) (head1 (Jvm.Cond.code (⟨"com/example/rippletide/rippletide/model/StateChanges", "add", "(ILcom/example/rippletide/rippletide/model/State;)V"⟩ : MethodName) prog_38_method_3_code 4 none :: ws) ({ frames := 1, cells := 0, slots := 0, locals := 14 } : Room)) (fun a U => a = #[(.ref p0), (.int p1), (.ref p2)] ∧ Z.Warmed39 U.vm ∧ U.heap = h0) (fun _ _ _ _ _ => True) (fun _ U o U' => ∃ v L, o = .returned v ∧ Q6 Z p0 p1 p2 p0_b_vertices p0_k_vertices p0_x_vertices_0 p0_x_vertices_1 p0_x_vertices_2 p0_b_states p0_k_states p0_x_states_0 p0_x_states_1 p0_x_states_2 u_p2_ordinal wSUSCEPTIBLE wRECOVERED wINFECTED hs h0 n0 v U'.heap L ∧ FrameEnd U o U' L ({ frames := 1, cells := 0, slots := 0, locals := 14 } : Room).cells ({ frames := 1, cells := 0, slots := 0, locals := 14 } : Room).slots) := by
  refine MetFree.of_bodySF (plainFor_of_name pn_2) hisR ?_
  intro p e s m args below meth c s₁ Bd hml0 hP hK
  obtain ⟨rfl, hZ, hh⟩ := hP
  have hx := Bd.exec
  have hby := Bd.bytes
  have hml : c.maxLocals = 4 := hml0
  have hown : s.vm.findClass "com/example/rippletide/rippletide/model/StateChanges" = some m.cls := findClass_of_methodNamed Bd.named
  have hnm := (name_of_methodNamed Bd.named Bd.method).1
  have X0 : Stand p l e ({ frames := 1, cells := 0, slots := 0, locals := 14 } : Room) s m #[(.ref p0), (.int p1), (.ref p2)] below meth c s₁ [] 0 0 := Stand.of_body Bd
  have e0 : s₁.heap = h0 := by rw [← hh, Bd.state]; rfl
  have N0 := Fr.nil n0
  have W1 := WS
  obtain ⟨SSUSCEPTIBLE, ESUSCEPTIBLE, FSUSCEPTIBLE_ordinal, SRECOVERED, ERECOVERED, FRECOVERED_ordinal, SINFECTED, EINFECTED, FINFECTED_ordinal, -⟩ := W1
  obtain ⟨E_p0, g_p0, G_p0_vertices, G_p0_states, G_p0_count, g_p0_vertices, ne_p0_vertices, V_p0_vertices, g_p0_states, ne_p0_states, V_p0_states, nn_p0_vertices_states, -⟩ := OB_p0
  have pre0 : ∀ t, Steps p.tables e below (s₁.setTop (mkF m 0 #[.val (.ref p0), .val (.int p1), .val (.ref p2), .unset] [])) t → Steps p.tables e below (s₁.setTop (entryFrame m #[(.ref p0), (.int p1), (.ref p2)] 4)) t := fun t k => castTop (ef_6 m p0 p1 p2) k
  obtain ⟨T96, X96, e96, st96⟩ := getF X0 hx hZ hown (host := "") (Or.inl (hw _ (List.mem_of_getElem? (i := 27) rfl))) Via.refl e0 G_p0_count (g := (mkF m 5 #[.val (.ref p0), .val (.int p1), .val (.ref p2), .unset] [(.ref p0)])) rfl rfl (hb hby d4_5)
  obtain ⟨T97, X97, e97, st97⟩ := getF X96 hx hZ hown (host := "") (Or.inl (hw _ (List.mem_of_getElem? (i := 10) rfl))) Via.refl e96 G_p0_vertices (g := (mkF m 13 #[.val (.ref p0), .val (.int p1), .val (.ref p2), .unset] [(.ref p0), (.int p1)])) rfl rfl (hb hby d4_13)
  obtain ⟨T98, X98, e98, st98⟩ := getF X97 hx hZ hown (host := "") (Or.inl (hw _ (List.mem_of_getElem? (i := 27) rfl))) Via.refl e97 G_p0_count (g := (mkF m 17 #[.val (.ref p0), .val (.int p1), .val (.ref p2), .unset] [(.ref p0), (.ref p0_b_vertices), (.int p1)])) rfl rfl (hb hby d4_17)
  obtain ⟨cla99, Ara99, qa99, Sa99, Na99, Ha99, Ga99⟩ := And.left ⟨V_p0_vertices, trivial⟩
  have hina99 : ¬ (((2 : Int32) - (1 : Int32)) < 0 ∨ cla99.slots.size ≤ (((2 : Int32) - (1 : Int32))).toNatClampNeg) := inb_of Sa99 ⟨by decide, by decide⟩
  obtain ⟨T100, X100, e100, st100⟩ := getF X98 hx hZ hown (host := "") (Or.inl (hw _ (List.mem_of_getElem? (i := 27) rfl))) Via.refl e98 G_p0_count (g := (mkF m 71 #[.val (.ref p0), .val (.int p1), .val (.ref p2), .unset] [(.ref p0)])) rfl rfl (hb hby d4_71)
  obtain ⟨T101, X101, e101, st101⟩ := getF X100 hx hZ hown (host := "") (Or.inl (hw _ (List.mem_of_getElem? (i := 10) rfl))) Via.refl e100 G_p0_vertices (g := (mkF m 75 #[.val (.ref p0), .val (.int p1), .val (.ref p2), .unset] [(.ref p0), (.int (2 : Int32))])) rfl rfl (hb hby d4_75)
  obtain ⟨cla102, Ara102, qa102, Sa102, Na102, -, -⟩ := And.left ⟨V_p0_vertices, trivial⟩
  obtain ⟨T103, X103, e103, st103⟩ := getF X101 hx hZ hown (host := "") (Or.inl (hw _ (List.mem_of_getElem? (i := 10) rfl))) Via.refl e101 G_p0_vertices (g := (mkF m 124 #[.val (.ref p0), .val (.int p1), .val (.ref p2), .unset] [(.ref p0)])) rfl rfl (hb hby d4_124)
  obtain ⟨T104, X104, e104, st104⟩ := getF X103 hx hZ hown (host := "") (Or.inl (hw _ (List.mem_of_getElem? (i := 27) rfl))) Via.refl e103 G_p0_count (g := (mkF m 128 #[.val (.ref p0), .val (.int p1), .val (.ref p2), .unset] [(.ref p0), (.ref p0_b_vertices)])) rfl rfl (hb hby d4_128)
  obtain ⟨cl105, Ar105, q105, S105, N105, H105, G105⟩ := And.left ⟨V_p0_vertices, trivial⟩
  have hin105 : ¬ ((2 : Int32) < 0 ∨ cl105.slots.size ≤ ((2 : Int32)).toNatClampNeg) := inb_of S105 ⟨by decide, by decide⟩
  obtain ⟨T105, h105, X105, e105, W105, st105⟩ := stI X104 hx hZ e104 Ar105 (j := (2 : Int32)) hin105 (g := (mkF m 132 #[.val (.ref p0), .val (.int p1), .val (.ref p2), .unset] [(.int p1), (.int (2 : Int32)), (.ref p0_b_vertices)])) rfl rfl (hb hby d4_132)
  have V105 : Arv Z h105 p0_b_vertices p0_k_vertices .int (16 : Int32) [(.int p0_x_vertices_0), (.int p0_x_vertices_1), (.int p1), (.int (0 : Int32)), (.int (0 : Int32)), (.int (0 : Int32)), (.int (0 : Int32)), (.int (0 : Int32)), (.int (0 : Int32)), (.int (0 : Int32)), (.int (0 : Int32)), (.int (0 : Int32)), (.int (0 : Int32)), (.int (0 : Int32)), (.int (0 : Int32)), (.int (0 : Int32))] (.int (0 : Int32)) := Arv.set Ar105 q105 S105 N105 H105 G105 rfl W105 2 rfl (Nat.le_of_ble_eq_true rfl)
  have E106 := E_p0.wr W105
  have F107 := G_p0_vertices.other W105 (Or.inl ne_p0_vertices)
  have F108 := G_p0_states.other W105 (Or.inl ne_p0_vertices)
  have F109 := G_p0_count.other W105 (Or.inl ne_p0_vertices)
  have V110 := V_p0_states.other W105 (Ne.symm nn_p0_vertices_states)
  have N105' := Fr.snoc X105 N0 g_p0_vertices
  have EX105 : Ext hs h105 := own_ext_wr O0 W105 (Nat.le_trans Zs g_p0_vertices)
  have KK105 : Keep h0 h105 [p0_b_vertices, p0_b_states, p0] := Keep.wr (Keep.refl h0 [p0_b_vertices, p0_b_states, p0]) W105 (Or.inl (List.mem_of_getElem? (i := 0) rfl))
  obtain ⟨T111, X111, e111, st111⟩ := getF X105 hx hZ hown (host := "") (Or.inl (hw _ (List.mem_of_getElem? (i := 13) rfl))) Via.refl e105 F108 (g := (mkF m 134 #[.val (.ref p0), .val (.int p1), .val (.ref p2), .unset] [(.ref p0)])) rfl rfl (hb hby d4_134)
  obtain ⟨T112, X112, e112, st112⟩ := getF X111 hx hZ hown (host := "") (Or.inl (hw _ (List.mem_of_getElem? (i := 27) rfl))) Via.refl e111 F109 (g := (mkF m 138 #[.val (.ref p0), .val (.int p1), .val (.ref p2), .unset] [(.ref p0), (.ref p0_b_states)])) rfl rfl (hb hby d4_138)
  obtain ⟨cq113, kq113, q113a, q113b, q113c⟩ := isOf hZ e112 (E_p2.ext EX105)
  obtain ⟨_, _, ⟨T113, L113, k113, n113⟩, -, X113, ⟨Lc113, hQ113, l113, y113, z113⟩, st113⟩ := X112.virtualBackUp hx (owner := "java/lang/Enum") (x := (⟨"com/example/rippletide/rippletide/model/State", "ordinal", "()I"⟩ : MethodName)) (y := (⟨"java/lang/Enum", "ordinal", "()I"⟩ : MethodName)) hown (mvT hZ (hw _ (List.mem_of_getElem? (i := 29) rfl))) (mvT hZ (hw _ (List.mem_of_getElem? (i := 30) rfl))) (mvT hZ (hw _ (List.mem_of_getElem? (i := 31) rfl))) (by decide) (mvT hZ (hw _ (List.mem_of_getElem? (i := 33) rfl))) (mvT hZ (hw _ (List.mem_of_getElem? (i := 32) rfl))) (backOf (W := 2) (rm2 l Z a0 hw [] p2 u_p2_ordinal h105 n0 (Nat.le_trans Z0 KK105.1) (G_p2_ordinal.ext EX105)) hZ (hw _ (List.mem_of_getElem? (i := 35) rfl)) (hw _ (List.mem_of_getElem? (i := 34) rfl)) (by decide) (by decide)) q113a q113c (g := (mkF m 142 #[.val (.ref p0), .val (.int p1), .val (.ref p2), .unset] [(.ref p2), (.int (2 : Int32)), (.ref p0_b_states)])) rfl (by rw [hml]; rfl) (Steps.refl _) (argsL := []) (rest := [(.int (2 : Int32)), (.ref p0_b_states)]) (lenOf pd_0 rfl) rfl (by show 2 * 0 + _ ≤ _; exact Nat.le_of_eq rfl) (hb hby d4_142) (fun _ _ => ⟨rfl, e112, (by decide : 0 + 0 ≤ _), (by decide : 0 + 0 ≤ _)⟩)
  dsimp only [Pt.U, Pt.locs, Pt.cells, Pt.slots] at X113 l113 y113 z113 st113 hQ113
  subst l113 y113 z113
  unfold Q2 at hQ113
  have k114 : ∀ t, Steps p.tables e below (T112.setTop (mkF m 142 #[.val (.ref p0), .val (.int p1), .val (.ref p2), .unset] [(.ref p2), (.int (2 : Int32)), (.ref p0_b_states)])) t → Steps p.tables e below (s₁.setTop (entryFrame m #[(.ref p0), (.int p1), (.ref p2)] 4)) t := fun t kt => pre0 t (by
    show Steps p.tables e below (s₁.setTop (mkF m 0 #[.val (.ref p0), .val (.int p1), .val (.ref p2), .unset] [])) _
    refine XS.iloadN X0.here hx rfl (hb hby d4_0) rfl ?_
    show Steps p.tables e below (s₁.setTop (mkF m 1 #[.val (.ref p0), .val (.int p1), .val (.ref p2), .unset] [(.int p1)])) _
    refine XS.ifNo X0.here hx rfl (hb hby d4_1) rfl ((if0 _ _).trans (flt (hv : ¬ (p1 < (0 : Int32)))).1) ?_
    show Steps p.tables e below (s₁.setTop (mkF m 4 #[.val (.ref p0), .val (.int p1), .val (.ref p2), .unset] [])) _
    refine XS.aloadN X0.here hx rfl (hb hby d4_4) rfl rfl ?_
    show Steps p.tables e below (s₁.setTop (mkF m 5 #[.val (.ref p0), .val (.int p1), .val (.ref p2), .unset] [(.ref p0)])) _
    refine st96 _ ?_
    show Steps p.tables e below (T96.setTop (mkF m 8 #[.val (.ref p0), .val (.int p1), .val (.ref p2), .unset] [(.int (2 : Int32))])) _
    refine XS.ifNo X96.here hx rfl (hb hby d4_8) rfl ((if0 _ _).trans (tlt ((by decide) : (0 : Int32) < (2 : Int32))).2.2.2) ?_
    show Steps p.tables e below (T96.setTop (mkF m 11 #[.val (.ref p0), .val (.int p1), .val (.ref p2), .unset] [])) _
    refine XS.iloadN X96.here hx rfl (hb hby d4_11) rfl ?_
    show Steps p.tables e below (T96.setTop (mkF m 12 #[.val (.ref p0), .val (.int p1), .val (.ref p2), .unset] [(.int p1)])) _
    refine XS.aloadN X96.here hx rfl (hb hby d4_12) rfl rfl ?_
    show Steps p.tables e below (T96.setTop (mkF m 13 #[.val (.ref p0), .val (.int p1), .val (.ref p2), .unset] [(.ref p0), (.int p1)])) _
    refine st97 _ ?_
    show Steps p.tables e below (T97.setTop (mkF m 16 #[.val (.ref p0), .val (.int p1), .val (.ref p2), .unset] [(.ref p0_b_vertices), (.int p1)])) _
    refine XS.aloadN X97.here hx rfl (hb hby d4_16) rfl rfl ?_
    show Steps p.tables e below (T97.setTop (mkF m 17 #[.val (.ref p0), .val (.int p1), .val (.ref p2), .unset] [(.ref p0), (.ref p0_b_vertices), (.int p1)])) _
    refine st98 _ ?_
    show Steps p.tables e below (T98.setTop (mkF m 20 #[.val (.ref p0), .val (.int p1), .val (.ref p2), .unset] [(.int (2 : Int32)), (.ref p0_b_vertices), (.int p1)])) _
    refine XS.iconst X98.here hx rfl (hb hby d4_20) ?_
    show Steps p.tables e below (T98.setTop (mkF m 21 #[.val (.ref p0), .val (.int p1), .val (.ref p2), .unset] [(.int (1 : Int32)), (.int (2 : Int32)), (.ref p0_b_vertices), (.int p1)])) _
    refine XS.isub X98.here hx rfl (hb hby d4_21) rfl ?_
    show Steps p.tables e below (T98.setTop (mkF m 22 #[.val (.ref p0), .val (.int p1), .val (.ref p2), .unset] [(.int ((2 : Int32) - (1 : Int32))), (.ref p0_b_vertices), (.int p1)])) _
    refine X98.iaload hx (j := ((2 : Int32) - (1 : Int32))) (v := (.int p0_x_vertices_1)) (by rw [e98]; exact Ara99.1) (State.isArrayOf_alike hZ.alike Ara99.2.1) Ara99.2.2 hina99 (Ha99.at hina99 rfl) (g := (mkF m 22 #[.val (.ref p0), .val (.int p1), .val (.ref p2), .unset] [(.int ((2 : Int32) - (1 : Int32))), (.ref p0_b_vertices), (.int p1)])) rfl rfl (hb hby d4_22) _ ?_
    show Steps p.tables e below (T98.setTop (mkF m 23 #[.val (.ref p0), .val (.int p1), .val (.ref p2), .unset] [(.int p0_x_vertices_1), (.int p1)])) _
    refine XS.icmpYes X98.here hx rfl (pc0 := 23) (pc' := 70) rfl (hb hby d4_23) rfl (tlt (ha : p0_x_vertices_1 < p1)).2.2.1 (by decide) (by decide) ?_
    show Steps p.tables e below (T98.setTop (mkF m 70 #[.val (.ref p0), .val (.int p1), .val (.ref p2), .unset] [])) _
    refine XS.aloadN X98.here hx rfl (hb hby d4_70) rfl rfl ?_
    show Steps p.tables e below (T98.setTop (mkF m 71 #[.val (.ref p0), .val (.int p1), .val (.ref p2), .unset] [(.ref p0)])) _
    refine st100 _ ?_
    show Steps p.tables e below (T100.setTop (mkF m 74 #[.val (.ref p0), .val (.int p1), .val (.ref p2), .unset] [(.int (2 : Int32))])) _
    refine XS.aloadN X100.here hx rfl (hb hby d4_74) rfl rfl ?_
    show Steps p.tables e below (T100.setTop (mkF m 75 #[.val (.ref p0), .val (.int p1), .val (.ref p2), .unset] [(.ref p0), (.int (2 : Int32))])) _
    refine st101 _ ?_
    show Steps p.tables e below (T101.setTop (mkF m 78 #[.val (.ref p0), .val (.int p1), .val (.ref p2), .unset] [(.ref p0_b_vertices), (.int (2 : Int32))])) _
    refine X101.arraylength hx (by rw [e101]; exact Ara102.1) (State.isArrayOf_alike hZ.alike Ara102.2.1) (g := (mkF m 78 #[.val (.ref p0), .val (.int p1), .val (.ref p2), .unset] [(.ref p0_b_vertices), (.int (2 : Int32))])) rfl rfl (hb hby d4_78) _ ?_
    rw [len_of Sa102 Na102]
    show Steps p.tables e below (T101.setTop (mkF m 79 #[.val (.ref p0), .val (.int p1), .val (.ref p2), .unset] [(.int (16 : Int32)), (.int (2 : Int32))])) _
    refine XS.icmpYes X101.here hx rfl (pc0 := 79) (pc' := 123) rfl (hb hby d4_79) rfl (feq ((by decide) : ¬ ((2 : Int32) = (16 : Int32)))).2 (by decide) (by decide) ?_
    show Steps p.tables e below (T101.setTop (mkF m 123 #[.val (.ref p0), .val (.int p1), .val (.ref p2), .unset] [])) _
    refine XS.aloadN X101.here hx rfl (hb hby d4_123) rfl rfl ?_
    show Steps p.tables e below (T101.setTop (mkF m 124 #[.val (.ref p0), .val (.int p1), .val (.ref p2), .unset] [(.ref p0)])) _
    refine st103 _ ?_
    show Steps p.tables e below (T103.setTop (mkF m 127 #[.val (.ref p0), .val (.int p1), .val (.ref p2), .unset] [(.ref p0_b_vertices)])) _
    refine XS.aloadN X103.here hx rfl (hb hby d4_127) rfl rfl ?_
    show Steps p.tables e below (T103.setTop (mkF m 128 #[.val (.ref p0), .val (.int p1), .val (.ref p2), .unset] [(.ref p0), (.ref p0_b_vertices)])) _
    refine st104 _ ?_
    show Steps p.tables e below (T104.setTop (mkF m 131 #[.val (.ref p0), .val (.int p1), .val (.ref p2), .unset] [(.int (2 : Int32)), (.ref p0_b_vertices)])) _
    refine XS.iloadN X104.here hx rfl (hb hby d4_131) rfl ?_
    show Steps p.tables e below (T104.setTop (mkF m 132 #[.val (.ref p0), .val (.int p1), .val (.ref p2), .unset] [(.int p1), (.int (2 : Int32)), (.ref p0_b_vertices)])) _
    refine st105 _ ?_
    show Steps p.tables e below (T105.setTop (mkF m 133 #[.val (.ref p0), .val (.int p1), .val (.ref p2), .unset] [])) _
    refine XS.aloadN X105.here hx rfl (hb hby d4_133) rfl rfl ?_
    show Steps p.tables e below (T105.setTop (mkF m 134 #[.val (.ref p0), .val (.int p1), .val (.ref p2), .unset] [(.ref p0)])) _
    refine st111 _ ?_
    show Steps p.tables e below (T111.setTop (mkF m 137 #[.val (.ref p0), .val (.int p1), .val (.ref p2), .unset] [(.ref p0_b_states)])) _
    refine XS.aloadN X111.here hx rfl (hb hby d4_137) rfl rfl ?_
    show Steps p.tables e below (T111.setTop (mkF m 138 #[.val (.ref p0), .val (.int p1), .val (.ref p2), .unset] [(.ref p0), (.ref p0_b_states)])) _
    refine st112 _ ?_
    show Steps p.tables e below (T112.setTop (mkF m 141 #[.val (.ref p0), .val (.int p1), .val (.ref p2), .unset] [(.int (2 : Int32)), (.ref p0_b_states)])) _
    refine XS.aloadN X112.here hx rfl (hb hby d4_141) rfl rfl ?_
    exact kt)
  rw [((by rw [f2]) : (f2 p2 u_p2_ordinal) = u_p2_ordinal)] at hQ113
  obtain ⟨rfl, N113q, e113⟩ := hQ113
  have N113 := Fr.app N105' N113q
  obtain ⟨cl115, Ar115, q115, S115, N115, H115, G115⟩ := And.left ⟨V110, trivial⟩
  have hin115 : ¬ ((2 : Int32) < 0 ∨ cl115.slots.size ≤ ((2 : Int32)).toNatClampNeg) := inb_of S115 ⟨by decide, by decide⟩
  obtain ⟨T115, h115, X115, e115, W115, st115⟩ := stB X113 hx hZ e113 Ar115 (j := (2 : Int32)) hin115 (g := (mkF m 146 #[.val (.ref p0), .val (.int p1), .val (.ref p2), .unset] [(.int (u_p2_ordinal.toInt8.toInt32)), (.int (2 : Int32)), (.ref p0_b_states)])) rfl rfl (hb hby d4_146)
  rw [own_nar u_p2_ordinal] at W115
  have V115 : Arv Z h115 p0_b_states p0_k_states .byte (16 : Int32) [(.int p0_x_states_0), (.int p0_x_states_1), (.int (u_p2_ordinal.toInt8.toInt32)), (.int (0 : Int32)), (.int (0 : Int32)), (.int (0 : Int32)), (.int (0 : Int32)), (.int (0 : Int32)), (.int (0 : Int32)), (.int (0 : Int32)), (.int (0 : Int32)), (.int (0 : Int32)), (.int (0 : Int32)), (.int (0 : Int32)), (.int (0 : Int32)), (.int (0 : Int32))] (.int (0 : Int32)) := Arv.set Ar115 q115 S115 N115 H115 G115 (fits_nar_byte _) W115 2 rfl (Nat.le_of_ble_eq_true rfl)
  have E116 := E106.wr W115
  have F117 := F107.other W115 (Or.inl ne_p0_states)
  have F118 := F108.other W115 (Or.inl ne_p0_states)
  have F119 := F109.other W115 (Or.inl ne_p0_states)
  have V120 := V105.other W115 nn_p0_vertices_states
  have N115' := Fr.snoc X115 N113 g_p0_states
  have EX115 : Ext hs h115 := own_ext_wr EX105 W115 (Nat.le_trans Zs g_p0_states)
  have KK115 : Keep h0 h115 [p0_b_vertices, p0_b_states, p0] := Keep.wr KK105 W115 (Or.inl (List.mem_of_getElem? (i := 1) rfl))
  obtain ⟨T121, X121, e121, st121⟩ := getF X115 hx hZ hown (host := "") (Or.inl (hw _ (List.mem_of_getElem? (i := 27) rfl))) Via.refl e115 F119 (g := (mkF m 149 #[.val (.ref p0), .val (.int p1), .val (.ref p2), .unset] [(.ref p0), (.ref p0)])) rfl rfl (hb hby d4_149)
  obtain ⟨T122, h122, X122, e122, W122, st122⟩ := putF X121 hx hZ hown (host := "") (Or.inl (hw _ (List.mem_of_getElem? (i := 27) rfl))) Via.refl e121 F119 E116 (Or.inl (hw _ (List.mem_of_getElem? (i := 28) rfl))) (hw _ (List.mem_of_getElem? (i := 1) rfl)) (ty := .int) (by decide) rfl rfl (g := (mkF m 154 #[.val (.ref p0), .val (.int p1), .val (.ref p2), .unset] [(.int ((2 : Int32) + (1 : Int32))), (.ref p0)])) rfl rfl (hb hby d4_154)
  have E123 := E116.wr W122
  have F124 := F117.other W122 (Or.inr (slot_ne (Or.inl (hw _ (List.mem_of_getElem? (i := 11) rfl))) (Or.inl (hw _ (List.mem_of_getElem? (i := 28) rfl))) (by decide) (t := (.array .int)) (t' := .int) (by decide) (by decide)))
  have F125 := F118.other W122 (Or.inr (slot_ne (Or.inl (hw _ (List.mem_of_getElem? (i := 14) rfl))) (Or.inl (hw _ (List.mem_of_getElem? (i := 28) rfl))) (by decide) (t := (.array .byte)) (t' := .int) (by decide) (by decide)))
  have V126 := V120.other W122 (Ne.symm ne_p0_vertices)
  have V127 := V115.other W122 (Ne.symm ne_p0_states)
  have G122 : Fld Z h122 p0 "com/example/rippletide/rippletide/model/StateChanges" "count" "I" (.int ((2 : Int32) + (1 : Int32))) := F119.same W122
  rw [(by decide : ((2 : Int32) + (1 : Int32)) = (3 : Int32))] at G122
  have N122' := Fr.snoc X122 N115' g_p0
  have EX122 : Ext hs h122 := own_ext_wr EX115 W122 (Nat.le_trans Zs g_p0)
  have KK122 : Keep h0 h122 [p0_b_vertices, p0_b_states, p0] := Keep.wr KK115 W122 (Or.inl (List.mem_of_getElem? (i := 2) rfl))
  obtain ⟨fs, hr, hrun, hended, hW, hsame⟩ := X122.leave (v := none) (fun _ => rfl)
  refine ⟨_, _, k114 _ ?_, hrun, hended, _, _, rfl, ?_, ⟨_, rfl⟩, hW, hsame.mono (by decide) (by decide)⟩
  · show Steps p.tables e below (T112.setTop (mkF m 142 #[.val (.ref p0), .val (.int p1), .val (.ref p2), .unset] [(.ref p2), (.int (2 : Int32)), (.ref p0_b_states)])) _
    refine st113.trans ?_
    show Steps p.tables e below (T113.setTop (mkF m 145 #[.val (.ref p0), .val (.int p1), .val (.ref p2), .unset] [(.int u_p2_ordinal), (.int (2 : Int32)), (.ref p0_b_states)])) _
    refine XS.i2b X113.here hx rfl (hb hby d4_145) rfl ?_
    show Steps p.tables e below (T113.setTop (mkF m 146 #[.val (.ref p0), .val (.int p1), .val (.ref p2), .unset] [(.int (u_p2_ordinal.toInt8.toInt32)), (.int (2 : Int32)), (.ref p0_b_states)])) _
    refine st115 _ ?_
    show Steps p.tables e below (T115.setTop (mkF m 147 #[.val (.ref p0), .val (.int p1), .val (.ref p2), .unset] [])) _
    refine XS.aloadN X115.here hx rfl (hb hby d4_147) rfl rfl ?_
    show Steps p.tables e below (T115.setTop (mkF m 148 #[.val (.ref p0), .val (.int p1), .val (.ref p2), .unset] [(.ref p0)])) _
    refine XS.dup X115.here hx rfl (hb hby d4_148) rfl rfl ?_
    show Steps p.tables e below (T115.setTop (mkF m 149 #[.val (.ref p0), .val (.int p1), .val (.ref p2), .unset] [(.ref p0), (.ref p0)])) _
    refine st121 _ ?_
    show Steps p.tables e below (T121.setTop (mkF m 152 #[.val (.ref p0), .val (.int p1), .val (.ref p2), .unset] [(.int (2 : Int32)), (.ref p0)])) _
    refine XS.iconst X121.here hx rfl (hb hby d4_152) ?_
    show Steps p.tables e below (T121.setTop (mkF m 153 #[.val (.ref p0), .val (.int p1), .val (.ref p2), .unset] [(.int (1 : Int32)), (.int (2 : Int32)), (.ref p0)])) _
    refine XS.iadd X121.here hx rfl (hb hby d4_153) rfl ?_
    show Steps p.tables e below (T121.setTop (mkF m 154 #[.val (.ref p0), .val (.int p1), .val (.ref p2), .unset] [(.int ((2 : Int32) + (1 : Int32))), (.ref p0)])) _
    refine st122 _ ?_
    show Steps p.tables e below (T122.setTop (mkF m 157 #[.val (.ref p0), .val (.int p1), .val (.ref p2), .unset] [])) _
    exact X122.returnOut hx Bd.returns (hb hby d4_157) hr
  · show Q6 Z p0 p1 p2 p0_b_vertices p0_k_vertices p0_x_vertices_0 p0_x_vertices_1 p0_x_vertices_2 p0_b_states p0_k_states p0_x_states_0 p0_x_states_1 p0_x_states_2 u_p2_ordinal wSUSCEPTIBLE wRECOVERED wINFECTED hs h0 n0 _ T122.heap _
    rw [e122]
    exact ⟨rfl, N122', EX122, KK122, ⟨E123, g_p0, F124, F125, G122, g_p0_vertices, ne_p0_vertices, V126, g_p0_states, ne_p0_states, V127, nn_p0_vertices_states, trivial⟩⟩
theorem d5_0 : decode prog_38_method_2_code 0 = .ok (.aload_n 0, 1) := by decide +kernel
theorem d5_1 : decode prog_38_method_2_code 1 = .ok (.iconst 0, 1) := by decide +kernel
theorem d5_2 : decode prog_38_method_2_code 2 = .ok (.putfield 17, 3) := by decide +kernel
theorem d5_5 : decode prog_38_method_2_code 5 = .ok (.return_, 1) := by decide +kernel
theorem ef_7 (m : MethodId) (p0 : Addr) : entryFrame m #[(.ref p0)] 1 = mkF m 0 #[.val (.ref p0)] [] := by first | (simp [entryFrame, mkF, argsToLocals, Value.category]; done) | rfl
def Q7 (Z : State) (p0 : Addr) (p0_b_vertices : Addr) (p0_k_vertices : ClassId) (p0_x_vertices_0 : Int32) (p0_x_vertices_1 : Int32) (p0_x_vertices_2 : Int32) (p0_b_states : Addr) (p0_k_states : ClassId) (p0_x_states_0 : Int32) (p0_x_states_1 : Int32) (p0_x_states_2 : Int32) (p0_v_count : Int32) (wSUSCEPTIBLE : Addr) (wRECOVERED : Addr) (wINFECTED : Addr) (hs : Heap) (h0 : Heap) (n0 : Nat) (v : Option Value) (h : Heap) (L : List Loc) : Prop := v = none ∧ Fr n0 L ∧ Ext hs h ∧ Keep h0 h [p0] ∧ Obj Z h n0 p0 p0_b_vertices p0_k_vertices p0_x_vertices_0 p0_x_vertices_1 p0_x_vertices_2 p0_b_states p0_k_states p0_x_states_0 p0_x_states_1 p0_x_states_2 (0 : Int32)
set_option maxRecDepth 65536 in
set_option maxHeartbeats 40000000 in
theorem rm7 (l : Launch) (Z : State) (a0 : Array Value) (hw : ∀ d ∈ tables_1, d.before a0 Z = true) (ws : List Jvm.Cond) (p0 : Addr) (p0_b_vertices : Addr) (p0_k_vertices : ClassId) (p0_x_vertices_0 : Int32) (p0_x_vertices_1 : Int32) (p0_x_vertices_2 : Int32) (p0_b_states : Addr) (p0_k_states : ClassId) (p0_x_states_0 : Int32) (p0_x_states_1 : Int32) (p0_x_states_2 : Int32) (p0_v_count : Int32) (wSUSCEPTIBLE : Addr) (wRECOVERED : Addr) (wINFECTED : Addr) (hs : Heap) (h0 : Heap) (n0 : Nat) (Z0 : n0 ≤ h0.size) (WS : World Z hs wSUSCEPTIBLE wRECOVERED wINFECTED) (O0 : Ext hs h0) (Zs : hs.size ≤ n0) (OB_p0 : Obj Z h0 n0 p0 p0_b_vertices p0_k_vertices p0_x_vertices_0 p0_x_vertices_1 p0_x_vertices_2 p0_b_states p0_k_states p0_x_states_0 p0_x_states_1 p0_x_states_2 p0_v_count) :
    MetFree l (⟨"com/example/rippletide/rippletide/model/StateChanges", "clear", "()V"⟩ : MethodName) (head1 (Jvm.Cond.code (⟨"com/example/rippletide/rippletide/model/StateChanges", "clear", "()V"⟩ : MethodName) prog_38_method_2_code 1 none :: ws) ({ frames := 0, cells := 0, slots := 0, locals := 0 } : Room)) (fun a U => a = #[(.ref p0)] ∧ Z.Warmed39 U.vm ∧ U.heap = h0) (fun _ _ _ _ _ => True) (fun _ U o U' => ∃ v L, o = .returned v ∧ Q7 Z p0 p0_b_vertices p0_k_vertices p0_x_vertices_0 p0_x_vertices_1 p0_x_vertices_2 p0_b_states p0_k_states p0_x_states_0 p0_x_states_1 p0_x_states_2 p0_v_count wSUSCEPTIBLE wRECOVERED wINFECTED hs h0 n0 v U'.heap L ∧ FrameEnd U o U' L ({ frames := 0, cells := 0, slots := 0, locals := 0 } : Room).cells ({ frames := 0, cells := 0, slots := 0, locals := 0 } : Room).slots) := by
  refine MetFree.of_bodySF (plainFor_of_name pn_2) hisR ?_
  intro p e s m args below meth c s₁ Bd hml0 hP hK
  obtain ⟨rfl, hZ, hh⟩ := hP
  have hx := Bd.exec
  have hby := Bd.bytes
  have hml : c.maxLocals = 1 := hml0
  have hown : s.vm.findClass "com/example/rippletide/rippletide/model/StateChanges" = some m.cls := findClass_of_methodNamed Bd.named
  have hnm := (name_of_methodNamed Bd.named Bd.method).1
  have X0 : Stand p l e ({ frames := 0, cells := 0, slots := 0, locals := 0 } : Room) s m #[(.ref p0)] below meth c s₁ [] 0 0 := Stand.of_body Bd
  have e0 : s₁.heap = h0 := by rw [← hh, Bd.state]; rfl
  have N0 := Fr.nil n0
  have W1 := WS
  obtain ⟨SSUSCEPTIBLE, ESUSCEPTIBLE, FSUSCEPTIBLE_ordinal, SRECOVERED, ERECOVERED, FRECOVERED_ordinal, SINFECTED, EINFECTED, FINFECTED_ordinal, -⟩ := W1
  obtain ⟨E_p0, g_p0, G_p0_vertices, G_p0_states, G_p0_count, g_p0_vertices, ne_p0_vertices, V_p0_vertices, g_p0_states, ne_p0_states, V_p0_states, nn_p0_vertices_states, -⟩ := OB_p0
  have pre0 : ∀ t, Steps p.tables e below (s₁.setTop (mkF m 0 #[.val (.ref p0)] [])) t → Steps p.tables e below (s₁.setTop (entryFrame m #[(.ref p0)] 1)) t := fun t k => castTop (ef_7 m p0) k
  obtain ⟨T128, h128, X128, e128, W128, st128⟩ := putF X0 hx hZ hown (host := "") (Or.inl (hw _ (List.mem_of_getElem? (i := 27) rfl))) Via.refl e0 G_p0_count E_p0 (Or.inl (hw _ (List.mem_of_getElem? (i := 28) rfl))) (hw _ (List.mem_of_getElem? (i := 1) rfl)) (ty := .int) (by decide) rfl rfl (g := (mkF m 2 #[.val (.ref p0)] [(.int (0 : Int32)), (.ref p0)])) rfl rfl (hb hby d5_2)
  have E129 := E_p0.wr W128
  have F130 := G_p0_vertices.other W128 (Or.inr (slot_ne (Or.inl (hw _ (List.mem_of_getElem? (i := 11) rfl))) (Or.inl (hw _ (List.mem_of_getElem? (i := 28) rfl))) (by decide) (t := (.array .int)) (t' := .int) (by decide) (by decide)))
  have F131 := G_p0_states.other W128 (Or.inr (slot_ne (Or.inl (hw _ (List.mem_of_getElem? (i := 14) rfl))) (Or.inl (hw _ (List.mem_of_getElem? (i := 28) rfl))) (by decide) (t := (.array .byte)) (t' := .int) (by decide) (by decide)))
  have V132 := V_p0_vertices.other W128 (Ne.symm ne_p0_vertices)
  have V133 := V_p0_states.other W128 (Ne.symm ne_p0_states)
  have G128 : Fld Z h128 p0 "com/example/rippletide/rippletide/model/StateChanges" "count" "I" (.int (0 : Int32)) := G_p0_count.same W128
  have N128' := Fr.snoc X128 N0 g_p0
  have EX128 : Ext hs h128 := own_ext_wr O0 W128 (Nat.le_trans Zs g_p0)
  have KK128 : Keep h0 h128 [p0] := Keep.wr (Keep.refl h0 [p0]) W128 (Or.inl (List.mem_of_getElem? (i := 0) rfl))
  obtain ⟨fs, hr, hrun, hended, hW, hsame⟩ := X128.leave (v := none) (fun _ => rfl)
  refine ⟨_, _, pre0 _ ?_, hrun, hended, _, _, rfl, ?_, ⟨_, rfl⟩, hW, hsame.mono (by decide) (by decide)⟩
  · show Steps p.tables e below (s₁.setTop (mkF m 0 #[.val (.ref p0)] [])) _
    refine XS.aloadN X0.here hx rfl (hb hby d5_0) rfl rfl ?_
    show Steps p.tables e below (s₁.setTop (mkF m 1 #[.val (.ref p0)] [(.ref p0)])) _
    refine XS.iconst X0.here hx rfl (hb hby d5_1) ?_
    show Steps p.tables e below (s₁.setTop (mkF m 2 #[.val (.ref p0)] [(.int (0 : Int32)), (.ref p0)])) _
    refine st128 _ ?_
    show Steps p.tables e below (T128.setTop (mkF m 5 #[.val (.ref p0)] [])) _
    exact X128.returnOut hx Bd.returns (hb hby d5_5) hr
  · show Q7 Z p0 p0_b_vertices p0_k_vertices p0_x_vertices_0 p0_x_vertices_1 p0_x_vertices_2 p0_b_states p0_k_states p0_x_states_0 p0_x_states_1 p0_x_states_2 p0_v_count wSUSCEPTIBLE wRECOVERED wINFECTED hs h0 n0 _ T128.heap _
    rw [e128]
    exact ⟨rfl, N128', EX128, KK128, ⟨E129, g_p0, F130, F131, G128, g_p0_vertices, ne_p0_vertices, V132, g_p0_states, ne_p0_states, V133, nn_p0_vertices_states, trivial⟩⟩
theorem d6_0 : decode prog_38_method_8_code 0 = .ok (.iconst 1, 1) := by decide +kernel
theorem d6_1 : decode prog_38_method_8_code 1 = .ok (.istore_n 1, 1) := by decide +kernel
theorem d6_2 : decode prog_38_method_8_code 2 = .ok (.iconst 0, 1) := by decide +kernel
theorem d6_3 : decode prog_38_method_8_code 3 = .ok (.istore_n 2, 1) := by decide +kernel
theorem d6_4 : decode prog_38_method_8_code 4 = .ok (.iload_n 2, 1) := by decide +kernel
theorem d6_5 : decode prog_38_method_8_code 5 = .ok (.aload_n 0, 1) := by decide +kernel
theorem d6_6 : decode prog_38_method_8_code 6 = .ok (.getfield 17, 3) := by decide +kernel
theorem d6_9 : decode prog_38_method_8_code 9 = .ok (.if_icmp .ge 31, 3) := by decide +kernel
theorem d6_40 : decode prog_38_method_8_code 40 = .ok (.iload_n 1, 1) := by decide +kernel
theorem d6_41 : decode prog_38_method_8_code 41 = .ok (.ireturn, 1) := by decide +kernel
def f8 (p0 : Addr) (p0_b_vertices : Addr) (p0_k_vertices : ClassId) (p0_x_vertices_0 : Int32) (p0_x_vertices_1 : Int32) (p0_x_vertices_2 : Int32) (p0_b_states : Addr) (p0_k_states : ClassId) (p0_x_states_0 : Int32) (p0_x_states_1 : Int32) (p0_x_states_2 : Int32) (wSUSCEPTIBLE : Addr) (wRECOVERED : Addr) (wINFECTED : Addr) : Int32 := (1 : Int32)
theorem ef_8 (m : MethodId) (p0 : Addr) : entryFrame m #[(.ref p0)] 3 = mkF m 0 #[.val (.ref p0), .unset, .unset] [] := by first | (simp [entryFrame, mkF, argsToLocals, Value.category]; done) | rfl
def Q8 (Z : State) (p0 : Addr) (p0_b_vertices : Addr) (p0_k_vertices : ClassId) (p0_x_vertices_0 : Int32) (p0_x_vertices_1 : Int32) (p0_x_vertices_2 : Int32) (p0_b_states : Addr) (p0_k_states : ClassId) (p0_x_states_0 : Int32) (p0_x_states_1 : Int32) (p0_x_states_2 : Int32) (wSUSCEPTIBLE : Addr) (wRECOVERED : Addr) (wINFECTED : Addr) (hs : Heap) (h0 : Heap) (n0 : Nat) (v : Option Value) (h : Heap) (L : List Loc) : Prop := v = some (.int (f8 p0 p0_b_vertices p0_k_vertices p0_x_vertices_0 p0_x_vertices_1 p0_x_vertices_2 p0_b_states p0_k_states p0_x_states_0 p0_x_states_1 p0_x_states_2 wSUSCEPTIBLE wRECOVERED wINFECTED)) ∧ Fr n0 L ∧ h = h0
set_option maxRecDepth 65536 in
set_option maxHeartbeats 40000000 in
theorem rm8 (l : Launch) (Z : State) (a0 : Array Value) (hw : ∀ d ∈ tables_1, d.before a0 Z = true) (ws : List Jvm.Cond) (p0 : Addr) (p0_b_vertices : Addr) (p0_k_vertices : ClassId) (p0_x_vertices_0 : Int32) (p0_x_vertices_1 : Int32) (p0_x_vertices_2 : Int32) (p0_b_states : Addr) (p0_k_states : ClassId) (p0_x_states_0 : Int32) (p0_x_states_1 : Int32) (p0_x_states_2 : Int32) (wSUSCEPTIBLE : Addr) (wRECOVERED : Addr) (wINFECTED : Addr) (hs : Heap) (h0 : Heap) (n0 : Nat) (Z0 : n0 ≤ h0.size) (WS : World Z hs wSUSCEPTIBLE wRECOVERED wINFECTED) (O0 : Ext hs h0) (Zs : hs.size ≤ n0) (OB_p0 : Obj Z h0 n0 p0 p0_b_vertices p0_k_vertices p0_x_vertices_0 p0_x_vertices_1 p0_x_vertices_2 p0_b_states p0_k_states p0_x_states_0 p0_x_states_1 p0_x_states_2 (0 : Int32)) :
    MetFree l (⟨"com/example/rippletide/rippletide/model/StateChanges", "hashCode", "()I"⟩ : MethodName) (head1 (Jvm.Cond.code (⟨"com/example/rippletide/rippletide/model/StateChanges", "hashCode", "()I"⟩ : MethodName) prog_38_method_8_code 3 (some .int) :: ws) ({ frames := 0, cells := 0, slots := 0, locals := 0 } : Room)) (fun a U => a = #[(.ref p0)] ∧ Z.Warmed39 U.vm ∧ U.heap = h0) (fun _ _ _ _ _ => True) (fun _ U o U' => ∃ v L, o = .returned v ∧ Q8 Z p0 p0_b_vertices p0_k_vertices p0_x_vertices_0 p0_x_vertices_1 p0_x_vertices_2 p0_b_states p0_k_states p0_x_states_0 p0_x_states_1 p0_x_states_2 wSUSCEPTIBLE wRECOVERED wINFECTED hs h0 n0 v U'.heap L ∧ FrameEnd U o U' L ({ frames := 0, cells := 0, slots := 0, locals := 0 } : Room).cells ({ frames := 0, cells := 0, slots := 0, locals := 0 } : Room).slots) := by
  refine MetFree.of_bodySF (plainFor_of_name pn_2) hisR ?_
  intro p e s m args below meth c s₁ Bd hml0 hP hK
  obtain ⟨rfl, hZ, hh⟩ := hP
  have hx := Bd.exec
  have hby := Bd.bytes
  have hml : c.maxLocals = 3 := hml0
  have hown : s.vm.findClass "com/example/rippletide/rippletide/model/StateChanges" = some m.cls := findClass_of_methodNamed Bd.named
  have hnm := (name_of_methodNamed Bd.named Bd.method).1
  have X0 : Stand p l e ({ frames := 0, cells := 0, slots := 0, locals := 0 } : Room) s m #[(.ref p0)] below meth c s₁ [] 0 0 := Stand.of_body Bd
  have e0 : s₁.heap = h0 := by rw [← hh, Bd.state]; rfl
  have N0 := Fr.nil n0
  have W1 := WS
  obtain ⟨SSUSCEPTIBLE, ESUSCEPTIBLE, FSUSCEPTIBLE_ordinal, SRECOVERED, ERECOVERED, FRECOVERED_ordinal, SINFECTED, EINFECTED, FINFECTED_ordinal, -⟩ := W1
  obtain ⟨E_p0, g_p0, G_p0_vertices, G_p0_states, G_p0_count, g_p0_vertices, ne_p0_vertices, V_p0_vertices, g_p0_states, ne_p0_states, V_p0_states, nn_p0_vertices_states, -⟩ := OB_p0
  have pre0 : ∀ t, Steps p.tables e below (s₁.setTop (mkF m 0 #[.val (.ref p0), .unset, .unset] [])) t → Steps p.tables e below (s₁.setTop (entryFrame m #[(.ref p0)] 3)) t := fun t k => castTop (ef_8 m p0) k
  obtain ⟨T134, X134, e134, st134⟩ := getF X0 hx hZ hown (host := "") (Or.inl (hw _ (List.mem_of_getElem? (i := 27) rfl))) Via.refl e0 G_p0_count (g := (mkF m 6 #[.val (.ref p0), .val (.int (1 : Int32)), .val (.int (0 : Int32))] [(.ref p0), (.int (0 : Int32))])) rfl rfl (hb hby d6_6)
  obtain ⟨fs, hr, hrun, hended, hW, hsame⟩ := X134.leave (v := some (.int (1 : Int32))) (fun h => by rw [Bd.returns] at h; cases h)
  refine ⟨_, _, pre0 _ ?_, hrun, hended, _, _, rfl, ?_, ⟨_, rfl⟩, hW, hsame.mono (by decide) (by decide)⟩
  · show Steps p.tables e below (s₁.setTop (mkF m 0 #[.val (.ref p0), .unset, .unset] [])) _
    refine XS.iconst X0.here hx rfl (hb hby d6_0) ?_
    show Steps p.tables e below (s₁.setTop (mkF m 1 #[.val (.ref p0), .unset, .unset] [(.int (1 : Int32))])) _
    refine XS.istoreN X0.here hx rfl (hb hby d6_1) rfl (l' := #[.val (.ref p0), .val (.int (1 : Int32)), .unset]) rfl ?_
    show Steps p.tables e below (s₁.setTop (mkF m 2 #[.val (.ref p0), .val (.int (1 : Int32)), .unset] [])) _
    refine XS.iconst X0.here hx rfl (hb hby d6_2) ?_
    show Steps p.tables e below (s₁.setTop (mkF m 3 #[.val (.ref p0), .val (.int (1 : Int32)), .unset] [(.int (0 : Int32))])) _
    refine XS.istoreN X0.here hx rfl (hb hby d6_3) rfl (l' := #[.val (.ref p0), .val (.int (1 : Int32)), .val (.int (0 : Int32))]) rfl ?_
    show Steps p.tables e below (s₁.setTop (mkF m 4 #[.val (.ref p0), .val (.int (1 : Int32)), .val (.int (0 : Int32))] [])) _
    refine XS.iloadN X0.here hx rfl (hb hby d6_4) rfl ?_
    show Steps p.tables e below (s₁.setTop (mkF m 5 #[.val (.ref p0), .val (.int (1 : Int32)), .val (.int (0 : Int32))] [(.int (0 : Int32))])) _
    refine XS.aloadN X0.here hx rfl (hb hby d6_5) rfl rfl ?_
    show Steps p.tables e below (s₁.setTop (mkF m 6 #[.val (.ref p0), .val (.int (1 : Int32)), .val (.int (0 : Int32))] [(.ref p0), (.int (0 : Int32))])) _
    refine st134 _ ?_
    show Steps p.tables e below (T134.setTop (mkF m 9 #[.val (.ref p0), .val (.int (1 : Int32)), .val (.int (0 : Int32))] [(.int (0 : Int32)), (.int (0 : Int32))])) _
    refine XS.icmpYes X134.here hx rfl (pc0 := 9) (pc' := 40) rfl (hb hby d6_9) rfl (flt ((by first | exact Int32.lt_irrefl _ | decide) : ¬ ((0 : Int32) < (0 : Int32)))).2.1 (by decide) (by decide) ?_
    show Steps p.tables e below (T134.setTop (mkF m 40 #[.val (.ref p0), .val (.int (1 : Int32)), .val (.int (0 : Int32))] [])) _
    refine XS.iloadN X134.here hx rfl (hb hby d6_40) rfl ?_
    show Steps p.tables e below (T134.setTop (mkF m 41 #[.val (.ref p0), .val (.int (1 : Int32)), .val (.int (0 : Int32))] [(.int (1 : Int32))])) _
    exact own_retI X134 hx Bd.returns (hb hby d6_41) hr
  · show Q8 Z p0 p0_b_vertices p0_k_vertices p0_x_vertices_0 p0_x_vertices_1 p0_x_vertices_2 p0_b_states p0_k_states p0_x_states_0 p0_x_states_1 p0_x_states_2 wSUSCEPTIBLE wRECOVERED wINFECTED hs h0 n0 _ T134.heap _
    rw [e134]
    exact ⟨by rw [f8], N0, rfl⟩
theorem d6_12 : decode prog_38_method_8_code 12 = .ok (.bipush 31, 2) := by decide +kernel
theorem d6_14 : decode prog_38_method_8_code 14 = .ok (.bipush 31, 2) := by decide +kernel
theorem d6_16 : decode prog_38_method_8_code 16 = .ok (.iload_n 1, 1) := by decide +kernel
theorem d6_17 : decode prog_38_method_8_code 17 = .ok (.imul, 1) := by decide +kernel
theorem d6_18 : decode prog_38_method_8_code 18 = .ok (.aload_n 0, 1) := by decide +kernel
theorem d6_19 : decode prog_38_method_8_code 19 = .ok (.getfield 7, 3) := by decide +kernel
theorem d6_22 : decode prog_38_method_8_code 22 = .ok (.iload_n 2, 1) := by decide +kernel
theorem d6_23 : decode prog_38_method_8_code 23 = .ok (.iaload, 1) := by decide +kernel
theorem d6_24 : decode prog_38_method_8_code 24 = .ok (.iadd, 1) := by decide +kernel
theorem d6_25 : decode prog_38_method_8_code 25 = .ok (.imul, 1) := by decide +kernel
theorem d6_26 : decode prog_38_method_8_code 26 = .ok (.aload_n 0, 1) := by decide +kernel
theorem d6_27 : decode prog_38_method_8_code 27 = .ok (.getfield 13, 3) := by decide +kernel
theorem d6_30 : decode prog_38_method_8_code 30 = .ok (.iload_n 2, 1) := by decide +kernel
theorem d6_31 : decode prog_38_method_8_code 31 = .ok (.baload, 1) := by decide +kernel
theorem d6_32 : decode prog_38_method_8_code 32 = .ok (.iadd, 1) := by decide +kernel
theorem d6_33 : decode prog_38_method_8_code 33 = .ok (.istore_n 1, 1) := by decide +kernel
theorem d6_34 : decode prog_38_method_8_code 34 = .ok (.iinc 2 1, 3) := by decide +kernel
theorem d6_37 : decode prog_38_method_8_code 37 = .ok (.goto (-33), 3) := by decide +kernel
def f9 (p0 : Addr) (p0_b_vertices : Addr) (p0_k_vertices : ClassId) (p0_x_vertices_0 : Int32) (p0_x_vertices_1 : Int32) (p0_x_vertices_2 : Int32) (p0_b_states : Addr) (p0_k_states : ClassId) (p0_x_states_0 : Int32) (p0_x_states_1 : Int32) (p0_x_states_2 : Int32) (wSUSCEPTIBLE : Addr) (wRECOVERED : Addr) (wINFECTED : Addr) : Int32 := (((31 : Int32) * (((31 : Int32) * (1 : Int32)) + p0_x_vertices_0)) + p0_x_states_0)
theorem ef_9 (m : MethodId) (p0 : Addr) : entryFrame m #[(.ref p0)] 3 = mkF m 0 #[.val (.ref p0), .unset, .unset] [] := by first | (simp [entryFrame, mkF, argsToLocals, Value.category]; done) | rfl
def Q9 (Z : State) (p0 : Addr) (p0_b_vertices : Addr) (p0_k_vertices : ClassId) (p0_x_vertices_0 : Int32) (p0_x_vertices_1 : Int32) (p0_x_vertices_2 : Int32) (p0_b_states : Addr) (p0_k_states : ClassId) (p0_x_states_0 : Int32) (p0_x_states_1 : Int32) (p0_x_states_2 : Int32) (wSUSCEPTIBLE : Addr) (wRECOVERED : Addr) (wINFECTED : Addr) (hs : Heap) (h0 : Heap) (n0 : Nat) (v : Option Value) (h : Heap) (L : List Loc) : Prop := v = some (.int (f9 p0 p0_b_vertices p0_k_vertices p0_x_vertices_0 p0_x_vertices_1 p0_x_vertices_2 p0_b_states p0_k_states p0_x_states_0 p0_x_states_1 p0_x_states_2 wSUSCEPTIBLE wRECOVERED wINFECTED)) ∧ Fr n0 L ∧ h = h0
set_option maxRecDepth 65536 in
set_option maxHeartbeats 40000000 in
theorem rm9 (l : Launch) (Z : State) (a0 : Array Value) (hw : ∀ d ∈ tables_1, d.before a0 Z = true) (ws : List Jvm.Cond) (p0 : Addr) (p0_b_vertices : Addr) (p0_k_vertices : ClassId) (p0_x_vertices_0 : Int32) (p0_x_vertices_1 : Int32) (p0_x_vertices_2 : Int32) (p0_b_states : Addr) (p0_k_states : ClassId) (p0_x_states_0 : Int32) (p0_x_states_1 : Int32) (p0_x_states_2 : Int32) (wSUSCEPTIBLE : Addr) (wRECOVERED : Addr) (wINFECTED : Addr) (hs : Heap) (h0 : Heap) (n0 : Nat) (Z0 : n0 ≤ h0.size) (WS : World Z hs wSUSCEPTIBLE wRECOVERED wINFECTED) (O0 : Ext hs h0) (Zs : hs.size ≤ n0) (OB_p0 : Obj Z h0 n0 p0 p0_b_vertices p0_k_vertices p0_x_vertices_0 p0_x_vertices_1 p0_x_vertices_2 p0_b_states p0_k_states p0_x_states_0 p0_x_states_1 p0_x_states_2 (1 : Int32)) :
    MetFree l (⟨"com/example/rippletide/rippletide/model/StateChanges", "hashCode", "()I"⟩ : MethodName) (head1 (Jvm.Cond.code (⟨"com/example/rippletide/rippletide/model/StateChanges", "hashCode", "()I"⟩ : MethodName) prog_38_method_8_code 3 (some .int) :: ws) ({ frames := 0, cells := 0, slots := 0, locals := 0 } : Room)) (fun a U => a = #[(.ref p0)] ∧ Z.Warmed39 U.vm ∧ U.heap = h0) (fun _ _ _ _ _ => True) (fun _ U o U' => ∃ v L, o = .returned v ∧ Q9 Z p0 p0_b_vertices p0_k_vertices p0_x_vertices_0 p0_x_vertices_1 p0_x_vertices_2 p0_b_states p0_k_states p0_x_states_0 p0_x_states_1 p0_x_states_2 wSUSCEPTIBLE wRECOVERED wINFECTED hs h0 n0 v U'.heap L ∧ FrameEnd U o U' L ({ frames := 0, cells := 0, slots := 0, locals := 0 } : Room).cells ({ frames := 0, cells := 0, slots := 0, locals := 0 } : Room).slots) := by
  refine MetFree.of_bodySF (plainFor_of_name pn_2) hisR ?_
  intro p e s m args below meth c s₁ Bd hml0 hP hK
  obtain ⟨rfl, hZ, hh⟩ := hP
  have hx := Bd.exec
  have hby := Bd.bytes
  have hml : c.maxLocals = 3 := hml0
  have hown : s.vm.findClass "com/example/rippletide/rippletide/model/StateChanges" = some m.cls := findClass_of_methodNamed Bd.named
  have hnm := (name_of_methodNamed Bd.named Bd.method).1
  have X0 : Stand p l e ({ frames := 0, cells := 0, slots := 0, locals := 0 } : Room) s m #[(.ref p0)] below meth c s₁ [] 0 0 := Stand.of_body Bd
  have e0 : s₁.heap = h0 := by rw [← hh, Bd.state]; rfl
  have N0 := Fr.nil n0
  have W1 := WS
  obtain ⟨SSUSCEPTIBLE, ESUSCEPTIBLE, FSUSCEPTIBLE_ordinal, SRECOVERED, ERECOVERED, FRECOVERED_ordinal, SINFECTED, EINFECTED, FINFECTED_ordinal, -⟩ := W1
  obtain ⟨E_p0, g_p0, G_p0_vertices, G_p0_states, G_p0_count, g_p0_vertices, ne_p0_vertices, V_p0_vertices, g_p0_states, ne_p0_states, V_p0_states, nn_p0_vertices_states, -⟩ := OB_p0
  have pre0 : ∀ t, Steps p.tables e below (s₁.setTop (mkF m 0 #[.val (.ref p0), .unset, .unset] [])) t → Steps p.tables e below (s₁.setTop (entryFrame m #[(.ref p0)] 3)) t := fun t k => castTop (ef_9 m p0) k
  obtain ⟨T135, X135, e135, st135⟩ := getF X0 hx hZ hown (host := "") (Or.inl (hw _ (List.mem_of_getElem? (i := 27) rfl))) Via.refl e0 G_p0_count (g := (mkF m 6 #[.val (.ref p0), .val (.int (1 : Int32)), .val (.int (0 : Int32))] [(.ref p0), (.int (0 : Int32))])) rfl rfl (hb hby d6_6)
  obtain ⟨T136, X136, e136, st136⟩ := getF X135 hx hZ hown (host := "") (Or.inl (hw _ (List.mem_of_getElem? (i := 10) rfl))) Via.refl e135 G_p0_vertices (g := (mkF m 19 #[.val (.ref p0), .val (.int (1 : Int32)), .val (.int (0 : Int32))] [(.ref p0), (.int ((31 : Int32) * (1 : Int32))), (.int (31 : Int32))])) rfl rfl (hb hby d6_19)
  obtain ⟨cla137, Ara137, qa137, Sa137, Na137, Ha137, Ga137⟩ := And.left ⟨V_p0_vertices, trivial⟩
  have hina137 : ¬ ((0 : Int32) < 0 ∨ cla137.slots.size ≤ ((0 : Int32)).toNatClampNeg) := inb_of Sa137 ⟨by decide, by decide⟩
  obtain ⟨T138, X138, e138, st138⟩ := getF X136 hx hZ hown (host := "") (Or.inl (hw _ (List.mem_of_getElem? (i := 13) rfl))) Via.refl e136 G_p0_states (g := (mkF m 27 #[.val (.ref p0), .val (.int (1 : Int32)), .val (.int (0 : Int32))] [(.ref p0), (.int ((31 : Int32) * (((31 : Int32) * (1 : Int32)) + p0_x_vertices_0)))])) rfl rfl (hb hby d6_27)
  obtain ⟨cla139, Ara139, qa139, Sa139, Na139, Ha139, Ga139⟩ := And.left ⟨V_p0_states, trivial⟩
  have hina139 : ¬ ((0 : Int32) < 0 ∨ cla139.slots.size ≤ ((0 : Int32)).toNatClampNeg) := inb_of Sa139 ⟨by decide, by decide⟩
  obtain ⟨T140, X140, e140, st140⟩ := getF X138 hx hZ hown (host := "") (Or.inl (hw _ (List.mem_of_getElem? (i := 27) rfl))) Via.refl e138 G_p0_count (g := (mkF m 6 #[.val (.ref p0), .val (.int (((31 : Int32) * (((31 : Int32) * (1 : Int32)) + p0_x_vertices_0)) + p0_x_states_0)), .val (.int (1 : Int32))] [(.ref p0), (.int (1 : Int32))])) rfl rfl (hb hby d6_6)
  obtain ⟨fs, hr, hrun, hended, hW, hsame⟩ := X140.leave (v := some (.int (((31 : Int32) * (((31 : Int32) * (1 : Int32)) + p0_x_vertices_0)) + p0_x_states_0))) (fun h => by rw [Bd.returns] at h; cases h)
  refine ⟨_, _, pre0 _ ?_, hrun, hended, _, _, rfl, ?_, ⟨_, rfl⟩, hW, hsame.mono (by decide) (by decide)⟩
  · show Steps p.tables e below (s₁.setTop (mkF m 0 #[.val (.ref p0), .unset, .unset] [])) _
    refine XS.iconst X0.here hx rfl (hb hby d6_0) ?_
    show Steps p.tables e below (s₁.setTop (mkF m 1 #[.val (.ref p0), .unset, .unset] [(.int (1 : Int32))])) _
    refine XS.istoreN X0.here hx rfl (hb hby d6_1) rfl (l' := #[.val (.ref p0), .val (.int (1 : Int32)), .unset]) rfl ?_
    show Steps p.tables e below (s₁.setTop (mkF m 2 #[.val (.ref p0), .val (.int (1 : Int32)), .unset] [])) _
    refine XS.iconst X0.here hx rfl (hb hby d6_2) ?_
    show Steps p.tables e below (s₁.setTop (mkF m 3 #[.val (.ref p0), .val (.int (1 : Int32)), .unset] [(.int (0 : Int32))])) _
    refine XS.istoreN X0.here hx rfl (hb hby d6_3) rfl (l' := #[.val (.ref p0), .val (.int (1 : Int32)), .val (.int (0 : Int32))]) rfl ?_
    show Steps p.tables e below (s₁.setTop (mkF m 4 #[.val (.ref p0), .val (.int (1 : Int32)), .val (.int (0 : Int32))] [])) _
    refine XS.iloadN X0.here hx rfl (hb hby d6_4) rfl ?_
    show Steps p.tables e below (s₁.setTop (mkF m 5 #[.val (.ref p0), .val (.int (1 : Int32)), .val (.int (0 : Int32))] [(.int (0 : Int32))])) _
    refine XS.aloadN X0.here hx rfl (hb hby d6_5) rfl rfl ?_
    show Steps p.tables e below (s₁.setTop (mkF m 6 #[.val (.ref p0), .val (.int (1 : Int32)), .val (.int (0 : Int32))] [(.ref p0), (.int (0 : Int32))])) _
    refine st135 _ ?_
    show Steps p.tables e below (T135.setTop (mkF m 9 #[.val (.ref p0), .val (.int (1 : Int32)), .val (.int (0 : Int32))] [(.int (1 : Int32)), (.int (0 : Int32))])) _
    refine XS.icmpNo X135.here hx rfl (hb hby d6_9) rfl (tlt ((by decide) : (0 : Int32) < (1 : Int32))).2.1 ?_
    show Steps p.tables e below (T135.setTop (mkF m 12 #[.val (.ref p0), .val (.int (1 : Int32)), .val (.int (0 : Int32))] [])) _
    refine XS.bipush X135.here hx rfl (hb hby d6_12) ?_
    show Steps p.tables e below (T135.setTop (mkF m 14 #[.val (.ref p0), .val (.int (1 : Int32)), .val (.int (0 : Int32))] [(.int (31 : Int32))])) _
    refine XS.bipush X135.here hx rfl (hb hby d6_14) ?_
    show Steps p.tables e below (T135.setTop (mkF m 16 #[.val (.ref p0), .val (.int (1 : Int32)), .val (.int (0 : Int32))] [(.int (31 : Int32)), (.int (31 : Int32))])) _
    refine XS.iloadN X135.here hx rfl (hb hby d6_16) rfl ?_
    show Steps p.tables e below (T135.setTop (mkF m 17 #[.val (.ref p0), .val (.int (1 : Int32)), .val (.int (0 : Int32))] [(.int (1 : Int32)), (.int (31 : Int32)), (.int (31 : Int32))])) _
    refine XS.imul X135.here hx rfl (hb hby d6_17) rfl ?_
    show Steps p.tables e below (T135.setTop (mkF m 18 #[.val (.ref p0), .val (.int (1 : Int32)), .val (.int (0 : Int32))] [(.int ((31 : Int32) * (1 : Int32))), (.int (31 : Int32))])) _
    refine XS.aloadN X135.here hx rfl (hb hby d6_18) rfl rfl ?_
    show Steps p.tables e below (T135.setTop (mkF m 19 #[.val (.ref p0), .val (.int (1 : Int32)), .val (.int (0 : Int32))] [(.ref p0), (.int ((31 : Int32) * (1 : Int32))), (.int (31 : Int32))])) _
    refine st136 _ ?_
    show Steps p.tables e below (T136.setTop (mkF m 22 #[.val (.ref p0), .val (.int (1 : Int32)), .val (.int (0 : Int32))] [(.ref p0_b_vertices), (.int ((31 : Int32) * (1 : Int32))), (.int (31 : Int32))])) _
    refine XS.iloadN X136.here hx rfl (hb hby d6_22) rfl ?_
    show Steps p.tables e below (T136.setTop (mkF m 23 #[.val (.ref p0), .val (.int (1 : Int32)), .val (.int (0 : Int32))] [(.int (0 : Int32)), (.ref p0_b_vertices), (.int ((31 : Int32) * (1 : Int32))), (.int (31 : Int32))])) _
    refine X136.iaload hx (j := (0 : Int32)) (v := (.int p0_x_vertices_0)) (by rw [e136]; exact Ara137.1) (State.isArrayOf_alike hZ.alike Ara137.2.1) Ara137.2.2 hina137 (Ha137.at hina137 rfl) (g := (mkF m 23 #[.val (.ref p0), .val (.int (1 : Int32)), .val (.int (0 : Int32))] [(.int (0 : Int32)), (.ref p0_b_vertices), (.int ((31 : Int32) * (1 : Int32))), (.int (31 : Int32))])) rfl rfl (hb hby d6_23) _ ?_
    show Steps p.tables e below (T136.setTop (mkF m 24 #[.val (.ref p0), .val (.int (1 : Int32)), .val (.int (0 : Int32))] [(.int p0_x_vertices_0), (.int ((31 : Int32) * (1 : Int32))), (.int (31 : Int32))])) _
    refine XS.iadd X136.here hx rfl (hb hby d6_24) rfl ?_
    show Steps p.tables e below (T136.setTop (mkF m 25 #[.val (.ref p0), .val (.int (1 : Int32)), .val (.int (0 : Int32))] [(.int (((31 : Int32) * (1 : Int32)) + p0_x_vertices_0)), (.int (31 : Int32))])) _
    refine XS.imul X136.here hx rfl (hb hby d6_25) rfl ?_
    show Steps p.tables e below (T136.setTop (mkF m 26 #[.val (.ref p0), .val (.int (1 : Int32)), .val (.int (0 : Int32))] [(.int ((31 : Int32) * (((31 : Int32) * (1 : Int32)) + p0_x_vertices_0)))])) _
    refine XS.aloadN X136.here hx rfl (hb hby d6_26) rfl rfl ?_
    show Steps p.tables e below (T136.setTop (mkF m 27 #[.val (.ref p0), .val (.int (1 : Int32)), .val (.int (0 : Int32))] [(.ref p0), (.int ((31 : Int32) * (((31 : Int32) * (1 : Int32)) + p0_x_vertices_0)))])) _
    refine st138 _ ?_
    show Steps p.tables e below (T138.setTop (mkF m 30 #[.val (.ref p0), .val (.int (1 : Int32)), .val (.int (0 : Int32))] [(.ref p0_b_states), (.int ((31 : Int32) * (((31 : Int32) * (1 : Int32)) + p0_x_vertices_0)))])) _
    refine XS.iloadN X138.here hx rfl (hb hby d6_30) rfl ?_
    show Steps p.tables e below (T138.setTop (mkF m 31 #[.val (.ref p0), .val (.int (1 : Int32)), .val (.int (0 : Int32))] [(.int (0 : Int32)), (.ref p0_b_states), (.int ((31 : Int32) * (((31 : Int32) * (1 : Int32)) + p0_x_vertices_0)))])) _
    refine X138.baloadBytes hx (j := (0 : Int32)) (v := (.int p0_x_states_0)) (by rw [e138]; exact Ara139.1) (State.isArrayOf_alike hZ.alike Ara139.2.1) Ara139.2.2 hina139 (Ha139.at hina139 rfl) (g := (mkF m 31 #[.val (.ref p0), .val (.int (1 : Int32)), .val (.int (0 : Int32))] [(.int (0 : Int32)), (.ref p0_b_states), (.int ((31 : Int32) * (((31 : Int32) * (1 : Int32)) + p0_x_vertices_0)))])) rfl rfl (hb hby d6_31) _ ?_
    show Steps p.tables e below (T138.setTop (mkF m 32 #[.val (.ref p0), .val (.int (1 : Int32)), .val (.int (0 : Int32))] [(.int p0_x_states_0), (.int ((31 : Int32) * (((31 : Int32) * (1 : Int32)) + p0_x_vertices_0)))])) _
    refine XS.iadd X138.here hx rfl (hb hby d6_32) rfl ?_
    show Steps p.tables e below (T138.setTop (mkF m 33 #[.val (.ref p0), .val (.int (1 : Int32)), .val (.int (0 : Int32))] [(.int (((31 : Int32) * (((31 : Int32) * (1 : Int32)) + p0_x_vertices_0)) + p0_x_states_0))])) _
    refine XS.istoreN X138.here hx rfl (hb hby d6_33) rfl (l' := #[.val (.ref p0), .val (.int (((31 : Int32) * (((31 : Int32) * (1 : Int32)) + p0_x_vertices_0)) + p0_x_states_0)), .val (.int (0 : Int32))]) rfl ?_
    show Steps p.tables e below (T138.setTop (mkF m 34 #[.val (.ref p0), .val (.int (((31 : Int32) * (((31 : Int32) * (1 : Int32)) + p0_x_vertices_0)) + p0_x_states_0)), .val (.int (0 : Int32))] [])) _
    refine XS.iinc X138.here hx rfl (hb hby d6_34) rfl (l' := #[.val (.ref p0), .val (.int (((31 : Int32) * (((31 : Int32) * (1 : Int32)) + p0_x_vertices_0)) + p0_x_states_0)), .val (.int (1 : Int32))]) rfl ?_
    show Steps p.tables e below (T138.setTop (mkF m 37 #[.val (.ref p0), .val (.int (((31 : Int32) * (((31 : Int32) * (1 : Int32)) + p0_x_vertices_0)) + p0_x_states_0)), .val (.int (1 : Int32))] [])) _
    refine XS.goto X138.here hx rfl (pc0 := 37) (pc' := 4) rfl (hb hby d6_37) (by decide) (by decide) ?_
    show Steps p.tables e below (T138.setTop (mkF m 4 #[.val (.ref p0), .val (.int (((31 : Int32) * (((31 : Int32) * (1 : Int32)) + p0_x_vertices_0)) + p0_x_states_0)), .val (.int (1 : Int32))] [])) _
    refine XS.iloadN X138.here hx rfl (hb hby d6_4) rfl ?_
    show Steps p.tables e below (T138.setTop (mkF m 5 #[.val (.ref p0), .val (.int (((31 : Int32) * (((31 : Int32) * (1 : Int32)) + p0_x_vertices_0)) + p0_x_states_0)), .val (.int (1 : Int32))] [(.int (1 : Int32))])) _
    refine XS.aloadN X138.here hx rfl (hb hby d6_5) rfl rfl ?_
    show Steps p.tables e below (T138.setTop (mkF m 6 #[.val (.ref p0), .val (.int (((31 : Int32) * (((31 : Int32) * (1 : Int32)) + p0_x_vertices_0)) + p0_x_states_0)), .val (.int (1 : Int32))] [(.ref p0), (.int (1 : Int32))])) _
    refine st140 _ ?_
    show Steps p.tables e below (T140.setTop (mkF m 9 #[.val (.ref p0), .val (.int (((31 : Int32) * (((31 : Int32) * (1 : Int32)) + p0_x_vertices_0)) + p0_x_states_0)), .val (.int (1 : Int32))] [(.int (1 : Int32)), (.int (1 : Int32))])) _
    refine XS.icmpYes X140.here hx rfl (pc0 := 9) (pc' := 40) rfl (hb hby d6_9) rfl (flt ((by first | exact Int32.lt_irrefl _ | decide) : ¬ ((1 : Int32) < (1 : Int32)))).2.1 (by decide) (by decide) ?_
    show Steps p.tables e below (T140.setTop (mkF m 40 #[.val (.ref p0), .val (.int (((31 : Int32) * (((31 : Int32) * (1 : Int32)) + p0_x_vertices_0)) + p0_x_states_0)), .val (.int (1 : Int32))] [])) _
    refine XS.iloadN X140.here hx rfl (hb hby d6_40) rfl ?_
    show Steps p.tables e below (T140.setTop (mkF m 41 #[.val (.ref p0), .val (.int (((31 : Int32) * (((31 : Int32) * (1 : Int32)) + p0_x_vertices_0)) + p0_x_states_0)), .val (.int (1 : Int32))] [(.int (((31 : Int32) * (((31 : Int32) * (1 : Int32)) + p0_x_vertices_0)) + p0_x_states_0))])) _
    exact own_retI X140 hx Bd.returns (hb hby d6_41) hr
  · show Q9 Z p0 p0_b_vertices p0_k_vertices p0_x_vertices_0 p0_x_vertices_1 p0_x_vertices_2 p0_b_states p0_k_states p0_x_states_0 p0_x_states_1 p0_x_states_2 wSUSCEPTIBLE wRECOVERED wINFECTED hs h0 n0 _ T140.heap _
    rw [e140]
    exact ⟨by rw [f9], N0, rfl⟩

def f10 (p0 : Addr) (p0_b_vertices : Addr) (p0_k_vertices : ClassId) (p0_x_vertices_0 : Int32) (p0_x_vertices_1 : Int32) (p0_x_vertices_2 : Int32) (p0_b_states : Addr) (p0_k_states : ClassId) (p0_x_states_0 : Int32) (p0_x_states_1 : Int32) (p0_x_states_2 : Int32) (wSUSCEPTIBLE : Addr) (wRECOVERED : Addr) (wINFECTED : Addr) : Int32 := (((31 : Int32) * (((31 : Int32) * (((31 : Int32) * (((31 : Int32) * (1 : Int32)) + p0_x_vertices_0)) + p0_x_states_0)) + p0_x_vertices_1)) + p0_x_states_1)
theorem ef_10 (m : MethodId) (p0 : Addr) : entryFrame m #[(.ref p0)] 3 = mkF m 0 #[.val (.ref p0), .unset, .unset] [] := by first | (simp [entryFrame, mkF, argsToLocals, Value.category]; done) | rfl
def Q10 (Z : State) (p0 : Addr) (p0_b_vertices : Addr) (p0_k_vertices : ClassId) (p0_x_vertices_0 : Int32) (p0_x_vertices_1 : Int32) (p0_x_vertices_2 : Int32) (p0_b_states : Addr) (p0_k_states : ClassId) (p0_x_states_0 : Int32) (p0_x_states_1 : Int32) (p0_x_states_2 : Int32) (wSUSCEPTIBLE : Addr) (wRECOVERED : Addr) (wINFECTED : Addr) (hs : Heap) (h0 : Heap) (n0 : Nat) (v : Option Value) (h : Heap) (L : List Loc) : Prop := v = some (.int (f10 p0 p0_b_vertices p0_k_vertices p0_x_vertices_0 p0_x_vertices_1 p0_x_vertices_2 p0_b_states p0_k_states p0_x_states_0 p0_x_states_1 p0_x_states_2 wSUSCEPTIBLE wRECOVERED wINFECTED)) ∧ Fr n0 L ∧ h = h0
set_option maxRecDepth 65536 in
set_option maxHeartbeats 40000000 in
theorem rm10 (l : Launch) (Z : State) (a0 : Array Value) (hw : ∀ d ∈ tables_1, d.before a0 Z = true) (ws : List Jvm.Cond) (p0 : Addr) (p0_b_vertices : Addr) (p0_k_vertices : ClassId) (p0_x_vertices_0 : Int32) (p0_x_vertices_1 : Int32) (p0_x_vertices_2 : Int32) (p0_b_states : Addr) (p0_k_states : ClassId) (p0_x_states_0 : Int32) (p0_x_states_1 : Int32) (p0_x_states_2 : Int32) (wSUSCEPTIBLE : Addr) (wRECOVERED : Addr) (wINFECTED : Addr) (hs : Heap) (h0 : Heap) (n0 : Nat) (Z0 : n0 ≤ h0.size) (WS : World Z hs wSUSCEPTIBLE wRECOVERED wINFECTED) (O0 : Ext hs h0) (Zs : hs.size ≤ n0) (OB_p0 : Obj Z h0 n0 p0 p0_b_vertices p0_k_vertices p0_x_vertices_0 p0_x_vertices_1 p0_x_vertices_2 p0_b_states p0_k_states p0_x_states_0 p0_x_states_1 p0_x_states_2 (2 : Int32)) :
    MetFree l (⟨"com/example/rippletide/rippletide/model/StateChanges", "hashCode", "()I"⟩ : MethodName) (head1 (Jvm.Cond.code (⟨"com/example/rippletide/rippletide/model/StateChanges", "hashCode", "()I"⟩ : MethodName) prog_38_method_8_code 3 (some .int) :: ws) ({ frames := 0, cells := 0, slots := 0, locals := 0 } : Room)) (fun a U => a = #[(.ref p0)] ∧ Z.Warmed39 U.vm ∧ U.heap = h0) (fun _ _ _ _ _ => True) (fun _ U o U' => ∃ v L, o = .returned v ∧ Q10 Z p0 p0_b_vertices p0_k_vertices p0_x_vertices_0 p0_x_vertices_1 p0_x_vertices_2 p0_b_states p0_k_states p0_x_states_0 p0_x_states_1 p0_x_states_2 wSUSCEPTIBLE wRECOVERED wINFECTED hs h0 n0 v U'.heap L ∧ FrameEnd U o U' L ({ frames := 0, cells := 0, slots := 0, locals := 0 } : Room).cells ({ frames := 0, cells := 0, slots := 0, locals := 0 } : Room).slots) := by
  refine MetFree.of_bodySF (plainFor_of_name pn_2) hisR ?_
  intro p e s m args below meth c s₁ Bd hml0 hP hK
  obtain ⟨rfl, hZ, hh⟩ := hP
  have hx := Bd.exec
  have hby := Bd.bytes
  have hml : c.maxLocals = 3 := hml0
  have hown : s.vm.findClass "com/example/rippletide/rippletide/model/StateChanges" = some m.cls := findClass_of_methodNamed Bd.named
  have hnm := (name_of_methodNamed Bd.named Bd.method).1
  have X0 : Stand p l e ({ frames := 0, cells := 0, slots := 0, locals := 0 } : Room) s m #[(.ref p0)] below meth c s₁ [] 0 0 := Stand.of_body Bd
  have e0 : s₁.heap = h0 := by rw [← hh, Bd.state]; rfl
  have N0 := Fr.nil n0
  have W1 := WS
  obtain ⟨SSUSCEPTIBLE, ESUSCEPTIBLE, FSUSCEPTIBLE_ordinal, SRECOVERED, ERECOVERED, FRECOVERED_ordinal, SINFECTED, EINFECTED, FINFECTED_ordinal, -⟩ := W1
  obtain ⟨E_p0, g_p0, G_p0_vertices, G_p0_states, G_p0_count, g_p0_vertices, ne_p0_vertices, V_p0_vertices, g_p0_states, ne_p0_states, V_p0_states, nn_p0_vertices_states, -⟩ := OB_p0
  have pre0 : ∀ t, Steps p.tables e below (s₁.setTop (mkF m 0 #[.val (.ref p0), .unset, .unset] [])) t → Steps p.tables e below (s₁.setTop (entryFrame m #[(.ref p0)] 3)) t := fun t k => castTop (ef_10 m p0) k
  obtain ⟨T141, X141, e141, st141⟩ := getF X0 hx hZ hown (host := "") (Or.inl (hw _ (List.mem_of_getElem? (i := 27) rfl))) Via.refl e0 G_p0_count (g := (mkF m 6 #[.val (.ref p0), .val (.int (1 : Int32)), .val (.int (0 : Int32))] [(.ref p0), (.int (0 : Int32))])) rfl rfl (hb hby d6_6)
  obtain ⟨T142, X142, e142, st142⟩ := getF X141 hx hZ hown (host := "") (Or.inl (hw _ (List.mem_of_getElem? (i := 10) rfl))) Via.refl e141 G_p0_vertices (g := (mkF m 19 #[.val (.ref p0), .val (.int (1 : Int32)), .val (.int (0 : Int32))] [(.ref p0), (.int ((31 : Int32) * (1 : Int32))), (.int (31 : Int32))])) rfl rfl (hb hby d6_19)
  obtain ⟨cla143, Ara143, qa143, Sa143, Na143, Ha143, Ga143⟩ := And.left ⟨V_p0_vertices, trivial⟩
  have hina143 : ¬ ((0 : Int32) < 0 ∨ cla143.slots.size ≤ ((0 : Int32)).toNatClampNeg) := inb_of Sa143 ⟨by decide, by decide⟩
  obtain ⟨T144, X144, e144, st144⟩ := getF X142 hx hZ hown (host := "") (Or.inl (hw _ (List.mem_of_getElem? (i := 13) rfl))) Via.refl e142 G_p0_states (g := (mkF m 27 #[.val (.ref p0), .val (.int (1 : Int32)), .val (.int (0 : Int32))] [(.ref p0), (.int ((31 : Int32) * (((31 : Int32) * (1 : Int32)) + p0_x_vertices_0)))])) rfl rfl (hb hby d6_27)
  obtain ⟨cla145, Ara145, qa145, Sa145, Na145, Ha145, Ga145⟩ := And.left ⟨V_p0_states, trivial⟩
  have hina145 : ¬ ((0 : Int32) < 0 ∨ cla145.slots.size ≤ ((0 : Int32)).toNatClampNeg) := inb_of Sa145 ⟨by decide, by decide⟩
  obtain ⟨T146, X146, e146, st146⟩ := getF X144 hx hZ hown (host := "") (Or.inl (hw _ (List.mem_of_getElem? (i := 27) rfl))) Via.refl e144 G_p0_count (g := (mkF m 6 #[.val (.ref p0), .val (.int (((31 : Int32) * (((31 : Int32) * (1 : Int32)) + p0_x_vertices_0)) + p0_x_states_0)), .val (.int (1 : Int32))] [(.ref p0), (.int (1 : Int32))])) rfl rfl (hb hby d6_6)
  obtain ⟨T147, X147, e147, st147⟩ := getF X146 hx hZ hown (host := "") (Or.inl (hw _ (List.mem_of_getElem? (i := 10) rfl))) Via.refl e146 G_p0_vertices (g := (mkF m 19 #[.val (.ref p0), .val (.int (((31 : Int32) * (((31 : Int32) * (1 : Int32)) + p0_x_vertices_0)) + p0_x_states_0)), .val (.int (1 : Int32))] [(.ref p0), (.int ((31 : Int32) * (((31 : Int32) * (((31 : Int32) * (1 : Int32)) + p0_x_vertices_0)) + p0_x_states_0))), (.int (31 : Int32))])) rfl rfl (hb hby d6_19)
  obtain ⟨cla148, Ara148, qa148, Sa148, Na148, Ha148, Ga148⟩ := And.left ⟨V_p0_vertices, trivial⟩
  have hina148 : ¬ ((1 : Int32) < 0 ∨ cla148.slots.size ≤ ((1 : Int32)).toNatClampNeg) := inb_of Sa148 ⟨by decide, by decide⟩
  obtain ⟨T149, X149, e149, st149⟩ := getF X147 hx hZ hown (host := "") (Or.inl (hw _ (List.mem_of_getElem? (i := 13) rfl))) Via.refl e147 G_p0_states (g := (mkF m 27 #[.val (.ref p0), .val (.int (((31 : Int32) * (((31 : Int32) * (1 : Int32)) + p0_x_vertices_0)) + p0_x_states_0)), .val (.int (1 : Int32))] [(.ref p0), (.int ((31 : Int32) * (((31 : Int32) * (((31 : Int32) * (((31 : Int32) * (1 : Int32)) + p0_x_vertices_0)) + p0_x_states_0)) + p0_x_vertices_1)))])) rfl rfl (hb hby d6_27)
  obtain ⟨cla150, Ara150, qa150, Sa150, Na150, Ha150, Ga150⟩ := And.left ⟨V_p0_states, trivial⟩
  have hina150 : ¬ ((1 : Int32) < 0 ∨ cla150.slots.size ≤ ((1 : Int32)).toNatClampNeg) := inb_of Sa150 ⟨by decide, by decide⟩
  obtain ⟨T151, X151, e151, st151⟩ := getF X149 hx hZ hown (host := "") (Or.inl (hw _ (List.mem_of_getElem? (i := 27) rfl))) Via.refl e149 G_p0_count (g := (mkF m 6 #[.val (.ref p0), .val (.int (((31 : Int32) * (((31 : Int32) * (((31 : Int32) * (((31 : Int32) * (1 : Int32)) + p0_x_vertices_0)) + p0_x_states_0)) + p0_x_vertices_1)) + p0_x_states_1)), .val (.int (2 : Int32))] [(.ref p0), (.int (2 : Int32))])) rfl rfl (hb hby d6_6)
  obtain ⟨fs, hr, hrun, hended, hW, hsame⟩ := X151.leave (v := some (.int (((31 : Int32) * (((31 : Int32) * (((31 : Int32) * (((31 : Int32) * (1 : Int32)) + p0_x_vertices_0)) + p0_x_states_0)) + p0_x_vertices_1)) + p0_x_states_1))) (fun h => by rw [Bd.returns] at h; cases h)
  refine ⟨_, _, pre0 _ ?_, hrun, hended, _, _, rfl, ?_, ⟨_, rfl⟩, hW, hsame.mono (by decide) (by decide)⟩
  · show Steps p.tables e below (s₁.setTop (mkF m 0 #[.val (.ref p0), .unset, .unset] [])) _
    refine XS.iconst X0.here hx rfl (hb hby d6_0) ?_
    show Steps p.tables e below (s₁.setTop (mkF m 1 #[.val (.ref p0), .unset, .unset] [(.int (1 : Int32))])) _
    refine XS.istoreN X0.here hx rfl (hb hby d6_1) rfl (l' := #[.val (.ref p0), .val (.int (1 : Int32)), .unset]) rfl ?_
    show Steps p.tables e below (s₁.setTop (mkF m 2 #[.val (.ref p0), .val (.int (1 : Int32)), .unset] [])) _
    refine XS.iconst X0.here hx rfl (hb hby d6_2) ?_
    show Steps p.tables e below (s₁.setTop (mkF m 3 #[.val (.ref p0), .val (.int (1 : Int32)), .unset] [(.int (0 : Int32))])) _
    refine XS.istoreN X0.here hx rfl (hb hby d6_3) rfl (l' := #[.val (.ref p0), .val (.int (1 : Int32)), .val (.int (0 : Int32))]) rfl ?_
    show Steps p.tables e below (s₁.setTop (mkF m 4 #[.val (.ref p0), .val (.int (1 : Int32)), .val (.int (0 : Int32))] [])) _
    refine XS.iloadN X0.here hx rfl (hb hby d6_4) rfl ?_
    show Steps p.tables e below (s₁.setTop (mkF m 5 #[.val (.ref p0), .val (.int (1 : Int32)), .val (.int (0 : Int32))] [(.int (0 : Int32))])) _
    refine XS.aloadN X0.here hx rfl (hb hby d6_5) rfl rfl ?_
    show Steps p.tables e below (s₁.setTop (mkF m 6 #[.val (.ref p0), .val (.int (1 : Int32)), .val (.int (0 : Int32))] [(.ref p0), (.int (0 : Int32))])) _
    refine st141 _ ?_
    show Steps p.tables e below (T141.setTop (mkF m 9 #[.val (.ref p0), .val (.int (1 : Int32)), .val (.int (0 : Int32))] [(.int (2 : Int32)), (.int (0 : Int32))])) _
    refine XS.icmpNo X141.here hx rfl (hb hby d6_9) rfl (tlt ((by decide) : (0 : Int32) < (2 : Int32))).2.1 ?_
    show Steps p.tables e below (T141.setTop (mkF m 12 #[.val (.ref p0), .val (.int (1 : Int32)), .val (.int (0 : Int32))] [])) _
    refine XS.bipush X141.here hx rfl (hb hby d6_12) ?_
    show Steps p.tables e below (T141.setTop (mkF m 14 #[.val (.ref p0), .val (.int (1 : Int32)), .val (.int (0 : Int32))] [(.int (31 : Int32))])) _
    refine XS.bipush X141.here hx rfl (hb hby d6_14) ?_
    show Steps p.tables e below (T141.setTop (mkF m 16 #[.val (.ref p0), .val (.int (1 : Int32)), .val (.int (0 : Int32))] [(.int (31 : Int32)), (.int (31 : Int32))])) _
    refine XS.iloadN X141.here hx rfl (hb hby d6_16) rfl ?_
    show Steps p.tables e below (T141.setTop (mkF m 17 #[.val (.ref p0), .val (.int (1 : Int32)), .val (.int (0 : Int32))] [(.int (1 : Int32)), (.int (31 : Int32)), (.int (31 : Int32))])) _
    refine XS.imul X141.here hx rfl (hb hby d6_17) rfl ?_
    show Steps p.tables e below (T141.setTop (mkF m 18 #[.val (.ref p0), .val (.int (1 : Int32)), .val (.int (0 : Int32))] [(.int ((31 : Int32) * (1 : Int32))), (.int (31 : Int32))])) _
    refine XS.aloadN X141.here hx rfl (hb hby d6_18) rfl rfl ?_
    show Steps p.tables e below (T141.setTop (mkF m 19 #[.val (.ref p0), .val (.int (1 : Int32)), .val (.int (0 : Int32))] [(.ref p0), (.int ((31 : Int32) * (1 : Int32))), (.int (31 : Int32))])) _
    refine st142 _ ?_
    show Steps p.tables e below (T142.setTop (mkF m 22 #[.val (.ref p0), .val (.int (1 : Int32)), .val (.int (0 : Int32))] [(.ref p0_b_vertices), (.int ((31 : Int32) * (1 : Int32))), (.int (31 : Int32))])) _
    refine XS.iloadN X142.here hx rfl (hb hby d6_22) rfl ?_
    show Steps p.tables e below (T142.setTop (mkF m 23 #[.val (.ref p0), .val (.int (1 : Int32)), .val (.int (0 : Int32))] [(.int (0 : Int32)), (.ref p0_b_vertices), (.int ((31 : Int32) * (1 : Int32))), (.int (31 : Int32))])) _
    refine X142.iaload hx (j := (0 : Int32)) (v := (.int p0_x_vertices_0)) (by rw [e142]; exact Ara143.1) (State.isArrayOf_alike hZ.alike Ara143.2.1) Ara143.2.2 hina143 (Ha143.at hina143 rfl) (g := (mkF m 23 #[.val (.ref p0), .val (.int (1 : Int32)), .val (.int (0 : Int32))] [(.int (0 : Int32)), (.ref p0_b_vertices), (.int ((31 : Int32) * (1 : Int32))), (.int (31 : Int32))])) rfl rfl (hb hby d6_23) _ ?_
    show Steps p.tables e below (T142.setTop (mkF m 24 #[.val (.ref p0), .val (.int (1 : Int32)), .val (.int (0 : Int32))] [(.int p0_x_vertices_0), (.int ((31 : Int32) * (1 : Int32))), (.int (31 : Int32))])) _
    refine XS.iadd X142.here hx rfl (hb hby d6_24) rfl ?_
    show Steps p.tables e below (T142.setTop (mkF m 25 #[.val (.ref p0), .val (.int (1 : Int32)), .val (.int (0 : Int32))] [(.int (((31 : Int32) * (1 : Int32)) + p0_x_vertices_0)), (.int (31 : Int32))])) _
    refine XS.imul X142.here hx rfl (hb hby d6_25) rfl ?_
    show Steps p.tables e below (T142.setTop (mkF m 26 #[.val (.ref p0), .val (.int (1 : Int32)), .val (.int (0 : Int32))] [(.int ((31 : Int32) * (((31 : Int32) * (1 : Int32)) + p0_x_vertices_0)))])) _
    refine XS.aloadN X142.here hx rfl (hb hby d6_26) rfl rfl ?_
    show Steps p.tables e below (T142.setTop (mkF m 27 #[.val (.ref p0), .val (.int (1 : Int32)), .val (.int (0 : Int32))] [(.ref p0), (.int ((31 : Int32) * (((31 : Int32) * (1 : Int32)) + p0_x_vertices_0)))])) _
    refine st144 _ ?_
    show Steps p.tables e below (T144.setTop (mkF m 30 #[.val (.ref p0), .val (.int (1 : Int32)), .val (.int (0 : Int32))] [(.ref p0_b_states), (.int ((31 : Int32) * (((31 : Int32) * (1 : Int32)) + p0_x_vertices_0)))])) _
    refine XS.iloadN X144.here hx rfl (hb hby d6_30) rfl ?_
    show Steps p.tables e below (T144.setTop (mkF m 31 #[.val (.ref p0), .val (.int (1 : Int32)), .val (.int (0 : Int32))] [(.int (0 : Int32)), (.ref p0_b_states), (.int ((31 : Int32) * (((31 : Int32) * (1 : Int32)) + p0_x_vertices_0)))])) _
    refine X144.baloadBytes hx (j := (0 : Int32)) (v := (.int p0_x_states_0)) (by rw [e144]; exact Ara145.1) (State.isArrayOf_alike hZ.alike Ara145.2.1) Ara145.2.2 hina145 (Ha145.at hina145 rfl) (g := (mkF m 31 #[.val (.ref p0), .val (.int (1 : Int32)), .val (.int (0 : Int32))] [(.int (0 : Int32)), (.ref p0_b_states), (.int ((31 : Int32) * (((31 : Int32) * (1 : Int32)) + p0_x_vertices_0)))])) rfl rfl (hb hby d6_31) _ ?_
    show Steps p.tables e below (T144.setTop (mkF m 32 #[.val (.ref p0), .val (.int (1 : Int32)), .val (.int (0 : Int32))] [(.int p0_x_states_0), (.int ((31 : Int32) * (((31 : Int32) * (1 : Int32)) + p0_x_vertices_0)))])) _
    refine XS.iadd X144.here hx rfl (hb hby d6_32) rfl ?_
    show Steps p.tables e below (T144.setTop (mkF m 33 #[.val (.ref p0), .val (.int (1 : Int32)), .val (.int (0 : Int32))] [(.int (((31 : Int32) * (((31 : Int32) * (1 : Int32)) + p0_x_vertices_0)) + p0_x_states_0))])) _
    refine XS.istoreN X144.here hx rfl (hb hby d6_33) rfl (l' := #[.val (.ref p0), .val (.int (((31 : Int32) * (((31 : Int32) * (1 : Int32)) + p0_x_vertices_0)) + p0_x_states_0)), .val (.int (0 : Int32))]) rfl ?_
    show Steps p.tables e below (T144.setTop (mkF m 34 #[.val (.ref p0), .val (.int (((31 : Int32) * (((31 : Int32) * (1 : Int32)) + p0_x_vertices_0)) + p0_x_states_0)), .val (.int (0 : Int32))] [])) _
    refine XS.iinc X144.here hx rfl (hb hby d6_34) rfl (l' := #[.val (.ref p0), .val (.int (((31 : Int32) * (((31 : Int32) * (1 : Int32)) + p0_x_vertices_0)) + p0_x_states_0)), .val (.int (1 : Int32))]) rfl ?_
    show Steps p.tables e below (T144.setTop (mkF m 37 #[.val (.ref p0), .val (.int (((31 : Int32) * (((31 : Int32) * (1 : Int32)) + p0_x_vertices_0)) + p0_x_states_0)), .val (.int (1 : Int32))] [])) _
    refine XS.goto X144.here hx rfl (pc0 := 37) (pc' := 4) rfl (hb hby d6_37) (by decide) (by decide) ?_
    show Steps p.tables e below (T144.setTop (mkF m 4 #[.val (.ref p0), .val (.int (((31 : Int32) * (((31 : Int32) * (1 : Int32)) + p0_x_vertices_0)) + p0_x_states_0)), .val (.int (1 : Int32))] [])) _
    refine XS.iloadN X144.here hx rfl (hb hby d6_4) rfl ?_
    show Steps p.tables e below (T144.setTop (mkF m 5 #[.val (.ref p0), .val (.int (((31 : Int32) * (((31 : Int32) * (1 : Int32)) + p0_x_vertices_0)) + p0_x_states_0)), .val (.int (1 : Int32))] [(.int (1 : Int32))])) _
    refine XS.aloadN X144.here hx rfl (hb hby d6_5) rfl rfl ?_
    show Steps p.tables e below (T144.setTop (mkF m 6 #[.val (.ref p0), .val (.int (((31 : Int32) * (((31 : Int32) * (1 : Int32)) + p0_x_vertices_0)) + p0_x_states_0)), .val (.int (1 : Int32))] [(.ref p0), (.int (1 : Int32))])) _
    refine st146 _ ?_
    show Steps p.tables e below (T146.setTop (mkF m 9 #[.val (.ref p0), .val (.int (((31 : Int32) * (((31 : Int32) * (1 : Int32)) + p0_x_vertices_0)) + p0_x_states_0)), .val (.int (1 : Int32))] [(.int (2 : Int32)), (.int (1 : Int32))])) _
    refine XS.icmpNo X146.here hx rfl (hb hby d6_9) rfl (tlt ((by decide) : (1 : Int32) < (2 : Int32))).2.1 ?_
    show Steps p.tables e below (T146.setTop (mkF m 12 #[.val (.ref p0), .val (.int (((31 : Int32) * (((31 : Int32) * (1 : Int32)) + p0_x_vertices_0)) + p0_x_states_0)), .val (.int (1 : Int32))] [])) _
    refine XS.bipush X146.here hx rfl (hb hby d6_12) ?_
    show Steps p.tables e below (T146.setTop (mkF m 14 #[.val (.ref p0), .val (.int (((31 : Int32) * (((31 : Int32) * (1 : Int32)) + p0_x_vertices_0)) + p0_x_states_0)), .val (.int (1 : Int32))] [(.int (31 : Int32))])) _
    refine XS.bipush X146.here hx rfl (hb hby d6_14) ?_
    show Steps p.tables e below (T146.setTop (mkF m 16 #[.val (.ref p0), .val (.int (((31 : Int32) * (((31 : Int32) * (1 : Int32)) + p0_x_vertices_0)) + p0_x_states_0)), .val (.int (1 : Int32))] [(.int (31 : Int32)), (.int (31 : Int32))])) _
    refine XS.iloadN X146.here hx rfl (hb hby d6_16) rfl ?_
    show Steps p.tables e below (T146.setTop (mkF m 17 #[.val (.ref p0), .val (.int (((31 : Int32) * (((31 : Int32) * (1 : Int32)) + p0_x_vertices_0)) + p0_x_states_0)), .val (.int (1 : Int32))] [(.int (((31 : Int32) * (((31 : Int32) * (1 : Int32)) + p0_x_vertices_0)) + p0_x_states_0)), (.int (31 : Int32)), (.int (31 : Int32))])) _
    refine XS.imul X146.here hx rfl (hb hby d6_17) rfl ?_
    show Steps p.tables e below (T146.setTop (mkF m 18 #[.val (.ref p0), .val (.int (((31 : Int32) * (((31 : Int32) * (1 : Int32)) + p0_x_vertices_0)) + p0_x_states_0)), .val (.int (1 : Int32))] [(.int ((31 : Int32) * (((31 : Int32) * (((31 : Int32) * (1 : Int32)) + p0_x_vertices_0)) + p0_x_states_0))), (.int (31 : Int32))])) _
    refine XS.aloadN X146.here hx rfl (hb hby d6_18) rfl rfl ?_
    show Steps p.tables e below (T146.setTop (mkF m 19 #[.val (.ref p0), .val (.int (((31 : Int32) * (((31 : Int32) * (1 : Int32)) + p0_x_vertices_0)) + p0_x_states_0)), .val (.int (1 : Int32))] [(.ref p0), (.int ((31 : Int32) * (((31 : Int32) * (((31 : Int32) * (1 : Int32)) + p0_x_vertices_0)) + p0_x_states_0))), (.int (31 : Int32))])) _
    refine st147 _ ?_
    show Steps p.tables e below (T147.setTop (mkF m 22 #[.val (.ref p0), .val (.int (((31 : Int32) * (((31 : Int32) * (1 : Int32)) + p0_x_vertices_0)) + p0_x_states_0)), .val (.int (1 : Int32))] [(.ref p0_b_vertices), (.int ((31 : Int32) * (((31 : Int32) * (((31 : Int32) * (1 : Int32)) + p0_x_vertices_0)) + p0_x_states_0))), (.int (31 : Int32))])) _
    refine XS.iloadN X147.here hx rfl (hb hby d6_22) rfl ?_
    show Steps p.tables e below (T147.setTop (mkF m 23 #[.val (.ref p0), .val (.int (((31 : Int32) * (((31 : Int32) * (1 : Int32)) + p0_x_vertices_0)) + p0_x_states_0)), .val (.int (1 : Int32))] [(.int (1 : Int32)), (.ref p0_b_vertices), (.int ((31 : Int32) * (((31 : Int32) * (((31 : Int32) * (1 : Int32)) + p0_x_vertices_0)) + p0_x_states_0))), (.int (31 : Int32))])) _
    refine X147.iaload hx (j := (1 : Int32)) (v := (.int p0_x_vertices_1)) (by rw [e147]; exact Ara148.1) (State.isArrayOf_alike hZ.alike Ara148.2.1) Ara148.2.2 hina148 (Ha148.at hina148 rfl) (g := (mkF m 23 #[.val (.ref p0), .val (.int (((31 : Int32) * (((31 : Int32) * (1 : Int32)) + p0_x_vertices_0)) + p0_x_states_0)), .val (.int (1 : Int32))] [(.int (1 : Int32)), (.ref p0_b_vertices), (.int ((31 : Int32) * (((31 : Int32) * (((31 : Int32) * (1 : Int32)) + p0_x_vertices_0)) + p0_x_states_0))), (.int (31 : Int32))])) rfl rfl (hb hby d6_23) _ ?_
    show Steps p.tables e below (T147.setTop (mkF m 24 #[.val (.ref p0), .val (.int (((31 : Int32) * (((31 : Int32) * (1 : Int32)) + p0_x_vertices_0)) + p0_x_states_0)), .val (.int (1 : Int32))] [(.int p0_x_vertices_1), (.int ((31 : Int32) * (((31 : Int32) * (((31 : Int32) * (1 : Int32)) + p0_x_vertices_0)) + p0_x_states_0))), (.int (31 : Int32))])) _
    refine XS.iadd X147.here hx rfl (hb hby d6_24) rfl ?_
    show Steps p.tables e below (T147.setTop (mkF m 25 #[.val (.ref p0), .val (.int (((31 : Int32) * (((31 : Int32) * (1 : Int32)) + p0_x_vertices_0)) + p0_x_states_0)), .val (.int (1 : Int32))] [(.int (((31 : Int32) * (((31 : Int32) * (((31 : Int32) * (1 : Int32)) + p0_x_vertices_0)) + p0_x_states_0)) + p0_x_vertices_1)), (.int (31 : Int32))])) _
    refine XS.imul X147.here hx rfl (hb hby d6_25) rfl ?_
    show Steps p.tables e below (T147.setTop (mkF m 26 #[.val (.ref p0), .val (.int (((31 : Int32) * (((31 : Int32) * (1 : Int32)) + p0_x_vertices_0)) + p0_x_states_0)), .val (.int (1 : Int32))] [(.int ((31 : Int32) * (((31 : Int32) * (((31 : Int32) * (((31 : Int32) * (1 : Int32)) + p0_x_vertices_0)) + p0_x_states_0)) + p0_x_vertices_1)))])) _
    refine XS.aloadN X147.here hx rfl (hb hby d6_26) rfl rfl ?_
    show Steps p.tables e below (T147.setTop (mkF m 27 #[.val (.ref p0), .val (.int (((31 : Int32) * (((31 : Int32) * (1 : Int32)) + p0_x_vertices_0)) + p0_x_states_0)), .val (.int (1 : Int32))] [(.ref p0), (.int ((31 : Int32) * (((31 : Int32) * (((31 : Int32) * (((31 : Int32) * (1 : Int32)) + p0_x_vertices_0)) + p0_x_states_0)) + p0_x_vertices_1)))])) _
    refine st149 _ ?_
    show Steps p.tables e below (T149.setTop (mkF m 30 #[.val (.ref p0), .val (.int (((31 : Int32) * (((31 : Int32) * (1 : Int32)) + p0_x_vertices_0)) + p0_x_states_0)), .val (.int (1 : Int32))] [(.ref p0_b_states), (.int ((31 : Int32) * (((31 : Int32) * (((31 : Int32) * (((31 : Int32) * (1 : Int32)) + p0_x_vertices_0)) + p0_x_states_0)) + p0_x_vertices_1)))])) _
    refine XS.iloadN X149.here hx rfl (hb hby d6_30) rfl ?_
    show Steps p.tables e below (T149.setTop (mkF m 31 #[.val (.ref p0), .val (.int (((31 : Int32) * (((31 : Int32) * (1 : Int32)) + p0_x_vertices_0)) + p0_x_states_0)), .val (.int (1 : Int32))] [(.int (1 : Int32)), (.ref p0_b_states), (.int ((31 : Int32) * (((31 : Int32) * (((31 : Int32) * (((31 : Int32) * (1 : Int32)) + p0_x_vertices_0)) + p0_x_states_0)) + p0_x_vertices_1)))])) _
    refine X149.baloadBytes hx (j := (1 : Int32)) (v := (.int p0_x_states_1)) (by rw [e149]; exact Ara150.1) (State.isArrayOf_alike hZ.alike Ara150.2.1) Ara150.2.2 hina150 (Ha150.at hina150 rfl) (g := (mkF m 31 #[.val (.ref p0), .val (.int (((31 : Int32) * (((31 : Int32) * (1 : Int32)) + p0_x_vertices_0)) + p0_x_states_0)), .val (.int (1 : Int32))] [(.int (1 : Int32)), (.ref p0_b_states), (.int ((31 : Int32) * (((31 : Int32) * (((31 : Int32) * (((31 : Int32) * (1 : Int32)) + p0_x_vertices_0)) + p0_x_states_0)) + p0_x_vertices_1)))])) rfl rfl (hb hby d6_31) _ ?_
    show Steps p.tables e below (T149.setTop (mkF m 32 #[.val (.ref p0), .val (.int (((31 : Int32) * (((31 : Int32) * (1 : Int32)) + p0_x_vertices_0)) + p0_x_states_0)), .val (.int (1 : Int32))] [(.int p0_x_states_1), (.int ((31 : Int32) * (((31 : Int32) * (((31 : Int32) * (((31 : Int32) * (1 : Int32)) + p0_x_vertices_0)) + p0_x_states_0)) + p0_x_vertices_1)))])) _
    refine XS.iadd X149.here hx rfl (hb hby d6_32) rfl ?_
    show Steps p.tables e below (T149.setTop (mkF m 33 #[.val (.ref p0), .val (.int (((31 : Int32) * (((31 : Int32) * (1 : Int32)) + p0_x_vertices_0)) + p0_x_states_0)), .val (.int (1 : Int32))] [(.int (((31 : Int32) * (((31 : Int32) * (((31 : Int32) * (((31 : Int32) * (1 : Int32)) + p0_x_vertices_0)) + p0_x_states_0)) + p0_x_vertices_1)) + p0_x_states_1))])) _
    refine XS.istoreN X149.here hx rfl (hb hby d6_33) rfl (l' := #[.val (.ref p0), .val (.int (((31 : Int32) * (((31 : Int32) * (((31 : Int32) * (((31 : Int32) * (1 : Int32)) + p0_x_vertices_0)) + p0_x_states_0)) + p0_x_vertices_1)) + p0_x_states_1)), .val (.int (1 : Int32))]) rfl ?_
    show Steps p.tables e below (T149.setTop (mkF m 34 #[.val (.ref p0), .val (.int (((31 : Int32) * (((31 : Int32) * (((31 : Int32) * (((31 : Int32) * (1 : Int32)) + p0_x_vertices_0)) + p0_x_states_0)) + p0_x_vertices_1)) + p0_x_states_1)), .val (.int (1 : Int32))] [])) _
    refine XS.iinc X149.here hx rfl (hb hby d6_34) rfl (l' := #[.val (.ref p0), .val (.int (((31 : Int32) * (((31 : Int32) * (((31 : Int32) * (((31 : Int32) * (1 : Int32)) + p0_x_vertices_0)) + p0_x_states_0)) + p0_x_vertices_1)) + p0_x_states_1)), .val (.int (2 : Int32))]) rfl ?_
    show Steps p.tables e below (T149.setTop (mkF m 37 #[.val (.ref p0), .val (.int (((31 : Int32) * (((31 : Int32) * (((31 : Int32) * (((31 : Int32) * (1 : Int32)) + p0_x_vertices_0)) + p0_x_states_0)) + p0_x_vertices_1)) + p0_x_states_1)), .val (.int (2 : Int32))] [])) _
    refine XS.goto X149.here hx rfl (pc0 := 37) (pc' := 4) rfl (hb hby d6_37) (by decide) (by decide) ?_
    show Steps p.tables e below (T149.setTop (mkF m 4 #[.val (.ref p0), .val (.int (((31 : Int32) * (((31 : Int32) * (((31 : Int32) * (((31 : Int32) * (1 : Int32)) + p0_x_vertices_0)) + p0_x_states_0)) + p0_x_vertices_1)) + p0_x_states_1)), .val (.int (2 : Int32))] [])) _
    refine XS.iloadN X149.here hx rfl (hb hby d6_4) rfl ?_
    show Steps p.tables e below (T149.setTop (mkF m 5 #[.val (.ref p0), .val (.int (((31 : Int32) * (((31 : Int32) * (((31 : Int32) * (((31 : Int32) * (1 : Int32)) + p0_x_vertices_0)) + p0_x_states_0)) + p0_x_vertices_1)) + p0_x_states_1)), .val (.int (2 : Int32))] [(.int (2 : Int32))])) _
    refine XS.aloadN X149.here hx rfl (hb hby d6_5) rfl rfl ?_
    show Steps p.tables e below (T149.setTop (mkF m 6 #[.val (.ref p0), .val (.int (((31 : Int32) * (((31 : Int32) * (((31 : Int32) * (((31 : Int32) * (1 : Int32)) + p0_x_vertices_0)) + p0_x_states_0)) + p0_x_vertices_1)) + p0_x_states_1)), .val (.int (2 : Int32))] [(.ref p0), (.int (2 : Int32))])) _
    refine st151 _ ?_
    show Steps p.tables e below (T151.setTop (mkF m 9 #[.val (.ref p0), .val (.int (((31 : Int32) * (((31 : Int32) * (((31 : Int32) * (((31 : Int32) * (1 : Int32)) + p0_x_vertices_0)) + p0_x_states_0)) + p0_x_vertices_1)) + p0_x_states_1)), .val (.int (2 : Int32))] [(.int (2 : Int32)), (.int (2 : Int32))])) _
    refine XS.icmpYes X151.here hx rfl (pc0 := 9) (pc' := 40) rfl (hb hby d6_9) rfl (flt ((by first | exact Int32.lt_irrefl _ | decide) : ¬ ((2 : Int32) < (2 : Int32)))).2.1 (by decide) (by decide) ?_
    show Steps p.tables e below (T151.setTop (mkF m 40 #[.val (.ref p0), .val (.int (((31 : Int32) * (((31 : Int32) * (((31 : Int32) * (((31 : Int32) * (1 : Int32)) + p0_x_vertices_0)) + p0_x_states_0)) + p0_x_vertices_1)) + p0_x_states_1)), .val (.int (2 : Int32))] [])) _
    refine XS.iloadN X151.here hx rfl (hb hby d6_40) rfl ?_
    show Steps p.tables e below (T151.setTop (mkF m 41 #[.val (.ref p0), .val (.int (((31 : Int32) * (((31 : Int32) * (((31 : Int32) * (((31 : Int32) * (1 : Int32)) + p0_x_vertices_0)) + p0_x_states_0)) + p0_x_vertices_1)) + p0_x_states_1)), .val (.int (2 : Int32))] [(.int (((31 : Int32) * (((31 : Int32) * (((31 : Int32) * (((31 : Int32) * (1 : Int32)) + p0_x_vertices_0)) + p0_x_states_0)) + p0_x_vertices_1)) + p0_x_states_1))])) _
    exact own_retI X151 hx Bd.returns (hb hby d6_41) hr
  · show Q10 Z p0 p0_b_vertices p0_k_vertices p0_x_vertices_0 p0_x_vertices_1 p0_x_vertices_2 p0_b_states p0_k_states p0_x_states_0 p0_x_states_1 p0_x_states_2 wSUSCEPTIBLE wRECOVERED wINFECTED hs h0 n0 _ T151.heap _
    rw [e151]
    exact ⟨by rw [f10], N0, rfl⟩

def f11 (p0 : Addr) (p0_b_vertices : Addr) (p0_k_vertices : ClassId) (p0_x_vertices_0 : Int32) (p0_x_vertices_1 : Int32) (p0_x_vertices_2 : Int32) (p0_b_states : Addr) (p0_k_states : ClassId) (p0_x_states_0 : Int32) (p0_x_states_1 : Int32) (p0_x_states_2 : Int32) (wSUSCEPTIBLE : Addr) (wRECOVERED : Addr) (wINFECTED : Addr) : Int32 := (((31 : Int32) * (((31 : Int32) * (((31 : Int32) * (((31 : Int32) * (((31 : Int32) * (((31 : Int32) * (1 : Int32)) + p0_x_vertices_0)) + p0_x_states_0)) + p0_x_vertices_1)) + p0_x_states_1)) + p0_x_vertices_2)) + p0_x_states_2)
theorem ef_11 (m : MethodId) (p0 : Addr) : entryFrame m #[(.ref p0)] 3 = mkF m 0 #[.val (.ref p0), .unset, .unset] [] := by first | (simp [entryFrame, mkF, argsToLocals, Value.category]; done) | rfl
def Q11 (Z : State) (p0 : Addr) (p0_b_vertices : Addr) (p0_k_vertices : ClassId) (p0_x_vertices_0 : Int32) (p0_x_vertices_1 : Int32) (p0_x_vertices_2 : Int32) (p0_b_states : Addr) (p0_k_states : ClassId) (p0_x_states_0 : Int32) (p0_x_states_1 : Int32) (p0_x_states_2 : Int32) (wSUSCEPTIBLE : Addr) (wRECOVERED : Addr) (wINFECTED : Addr) (hs : Heap) (h0 : Heap) (n0 : Nat) (v : Option Value) (h : Heap) (L : List Loc) : Prop := v = some (.int (f11 p0 p0_b_vertices p0_k_vertices p0_x_vertices_0 p0_x_vertices_1 p0_x_vertices_2 p0_b_states p0_k_states p0_x_states_0 p0_x_states_1 p0_x_states_2 wSUSCEPTIBLE wRECOVERED wINFECTED)) ∧ Fr n0 L ∧ h = h0
set_option maxRecDepth 65536 in
set_option maxHeartbeats 40000000 in
theorem rm11 (l : Launch) (Z : State) (a0 : Array Value) (hw : ∀ d ∈ tables_1, d.before a0 Z = true) (ws : List Jvm.Cond) (p0 : Addr) (p0_b_vertices : Addr) (p0_k_vertices : ClassId) (p0_x_vertices_0 : Int32) (p0_x_vertices_1 : Int32) (p0_x_vertices_2 : Int32) (p0_b_states : Addr) (p0_k_states : ClassId) (p0_x_states_0 : Int32) (p0_x_states_1 : Int32) (p0_x_states_2 : Int32) (wSUSCEPTIBLE : Addr) (wRECOVERED : Addr) (wINFECTED : Addr) (hs : Heap) (h0 : Heap) (n0 : Nat) (Z0 : n0 ≤ h0.size) (WS : World Z hs wSUSCEPTIBLE wRECOVERED wINFECTED) (O0 : Ext hs h0) (Zs : hs.size ≤ n0) (OB_p0 : Obj Z h0 n0 p0 p0_b_vertices p0_k_vertices p0_x_vertices_0 p0_x_vertices_1 p0_x_vertices_2 p0_b_states p0_k_states p0_x_states_0 p0_x_states_1 p0_x_states_2 (3 : Int32)) :
    MetFree l (⟨"com/example/rippletide/rippletide/model/StateChanges", "hashCode", "()I"⟩ : MethodName) (head1 (Jvm.Cond.code (⟨"com/example/rippletide/rippletide/model/StateChanges", "hashCode", "()I"⟩ : MethodName) prog_38_method_8_code 3 (some .int) :: ws) ({ frames := 0, cells := 0, slots := 0, locals := 0 } : Room)) (fun a U => a = #[(.ref p0)] ∧ Z.Warmed39 U.vm ∧ U.heap = h0) (fun _ _ _ _ _ => True) (fun _ U o U' => ∃ v L, o = .returned v ∧ Q11 Z p0 p0_b_vertices p0_k_vertices p0_x_vertices_0 p0_x_vertices_1 p0_x_vertices_2 p0_b_states p0_k_states p0_x_states_0 p0_x_states_1 p0_x_states_2 wSUSCEPTIBLE wRECOVERED wINFECTED hs h0 n0 v U'.heap L ∧ FrameEnd U o U' L ({ frames := 0, cells := 0, slots := 0, locals := 0 } : Room).cells ({ frames := 0, cells := 0, slots := 0, locals := 0 } : Room).slots) := by
  refine MetFree.of_bodySF (plainFor_of_name pn_2) hisR ?_
  intro p e s m args below meth c s₁ Bd hml0 hP hK
  obtain ⟨rfl, hZ, hh⟩ := hP
  have hx := Bd.exec
  have hby := Bd.bytes
  have hml : c.maxLocals = 3 := hml0
  have hown : s.vm.findClass "com/example/rippletide/rippletide/model/StateChanges" = some m.cls := findClass_of_methodNamed Bd.named
  have hnm := (name_of_methodNamed Bd.named Bd.method).1
  have X0 : Stand p l e ({ frames := 0, cells := 0, slots := 0, locals := 0 } : Room) s m #[(.ref p0)] below meth c s₁ [] 0 0 := Stand.of_body Bd
  have e0 : s₁.heap = h0 := by rw [← hh, Bd.state]; rfl
  have N0 := Fr.nil n0
  have W1 := WS
  obtain ⟨SSUSCEPTIBLE, ESUSCEPTIBLE, FSUSCEPTIBLE_ordinal, SRECOVERED, ERECOVERED, FRECOVERED_ordinal, SINFECTED, EINFECTED, FINFECTED_ordinal, -⟩ := W1
  obtain ⟨E_p0, g_p0, G_p0_vertices, G_p0_states, G_p0_count, g_p0_vertices, ne_p0_vertices, V_p0_vertices, g_p0_states, ne_p0_states, V_p0_states, nn_p0_vertices_states, -⟩ := OB_p0
  have pre0 : ∀ t, Steps p.tables e below (s₁.setTop (mkF m 0 #[.val (.ref p0), .unset, .unset] [])) t → Steps p.tables e below (s₁.setTop (entryFrame m #[(.ref p0)] 3)) t := fun t k => castTop (ef_11 m p0) k
  obtain ⟨T152, X152, e152, st152⟩ := getF X0 hx hZ hown (host := "") (Or.inl (hw _ (List.mem_of_getElem? (i := 27) rfl))) Via.refl e0 G_p0_count (g := (mkF m 6 #[.val (.ref p0), .val (.int (1 : Int32)), .val (.int (0 : Int32))] [(.ref p0), (.int (0 : Int32))])) rfl rfl (hb hby d6_6)
  obtain ⟨T153, X153, e153, st153⟩ := getF X152 hx hZ hown (host := "") (Or.inl (hw _ (List.mem_of_getElem? (i := 10) rfl))) Via.refl e152 G_p0_vertices (g := (mkF m 19 #[.val (.ref p0), .val (.int (1 : Int32)), .val (.int (0 : Int32))] [(.ref p0), (.int ((31 : Int32) * (1 : Int32))), (.int (31 : Int32))])) rfl rfl (hb hby d6_19)
  obtain ⟨cla154, Ara154, qa154, Sa154, Na154, Ha154, Ga154⟩ := And.left ⟨V_p0_vertices, trivial⟩
  have hina154 : ¬ ((0 : Int32) < 0 ∨ cla154.slots.size ≤ ((0 : Int32)).toNatClampNeg) := inb_of Sa154 ⟨by decide, by decide⟩
  obtain ⟨T155, X155, e155, st155⟩ := getF X153 hx hZ hown (host := "") (Or.inl (hw _ (List.mem_of_getElem? (i := 13) rfl))) Via.refl e153 G_p0_states (g := (mkF m 27 #[.val (.ref p0), .val (.int (1 : Int32)), .val (.int (0 : Int32))] [(.ref p0), (.int ((31 : Int32) * (((31 : Int32) * (1 : Int32)) + p0_x_vertices_0)))])) rfl rfl (hb hby d6_27)
  obtain ⟨cla156, Ara156, qa156, Sa156, Na156, Ha156, Ga156⟩ := And.left ⟨V_p0_states, trivial⟩
  have hina156 : ¬ ((0 : Int32) < 0 ∨ cla156.slots.size ≤ ((0 : Int32)).toNatClampNeg) := inb_of Sa156 ⟨by decide, by decide⟩
  obtain ⟨T157, X157, e157, st157⟩ := getF X155 hx hZ hown (host := "") (Or.inl (hw _ (List.mem_of_getElem? (i := 27) rfl))) Via.refl e155 G_p0_count (g := (mkF m 6 #[.val (.ref p0), .val (.int (((31 : Int32) * (((31 : Int32) * (1 : Int32)) + p0_x_vertices_0)) + p0_x_states_0)), .val (.int (1 : Int32))] [(.ref p0), (.int (1 : Int32))])) rfl rfl (hb hby d6_6)
  obtain ⟨T158, X158, e158, st158⟩ := getF X157 hx hZ hown (host := "") (Or.inl (hw _ (List.mem_of_getElem? (i := 10) rfl))) Via.refl e157 G_p0_vertices (g := (mkF m 19 #[.val (.ref p0), .val (.int (((31 : Int32) * (((31 : Int32) * (1 : Int32)) + p0_x_vertices_0)) + p0_x_states_0)), .val (.int (1 : Int32))] [(.ref p0), (.int ((31 : Int32) * (((31 : Int32) * (((31 : Int32) * (1 : Int32)) + p0_x_vertices_0)) + p0_x_states_0))), (.int (31 : Int32))])) rfl rfl (hb hby d6_19)
  obtain ⟨cla159, Ara159, qa159, Sa159, Na159, Ha159, Ga159⟩ := And.left ⟨V_p0_vertices, trivial⟩
  have hina159 : ¬ ((1 : Int32) < 0 ∨ cla159.slots.size ≤ ((1 : Int32)).toNatClampNeg) := inb_of Sa159 ⟨by decide, by decide⟩
  obtain ⟨T160, X160, e160, st160⟩ := getF X158 hx hZ hown (host := "") (Or.inl (hw _ (List.mem_of_getElem? (i := 13) rfl))) Via.refl e158 G_p0_states (g := (mkF m 27 #[.val (.ref p0), .val (.int (((31 : Int32) * (((31 : Int32) * (1 : Int32)) + p0_x_vertices_0)) + p0_x_states_0)), .val (.int (1 : Int32))] [(.ref p0), (.int ((31 : Int32) * (((31 : Int32) * (((31 : Int32) * (((31 : Int32) * (1 : Int32)) + p0_x_vertices_0)) + p0_x_states_0)) + p0_x_vertices_1)))])) rfl rfl (hb hby d6_27)
  obtain ⟨cla161, Ara161, qa161, Sa161, Na161, Ha161, Ga161⟩ := And.left ⟨V_p0_states, trivial⟩
  have hina161 : ¬ ((1 : Int32) < 0 ∨ cla161.slots.size ≤ ((1 : Int32)).toNatClampNeg) := inb_of Sa161 ⟨by decide, by decide⟩
  obtain ⟨T162, X162, e162, st162⟩ := getF X160 hx hZ hown (host := "") (Or.inl (hw _ (List.mem_of_getElem? (i := 27) rfl))) Via.refl e160 G_p0_count (g := (mkF m 6 #[.val (.ref p0), .val (.int (((31 : Int32) * (((31 : Int32) * (((31 : Int32) * (((31 : Int32) * (1 : Int32)) + p0_x_vertices_0)) + p0_x_states_0)) + p0_x_vertices_1)) + p0_x_states_1)), .val (.int (2 : Int32))] [(.ref p0), (.int (2 : Int32))])) rfl rfl (hb hby d6_6)
  obtain ⟨T163, X163, e163, st163⟩ := getF X162 hx hZ hown (host := "") (Or.inl (hw _ (List.mem_of_getElem? (i := 10) rfl))) Via.refl e162 G_p0_vertices (g := (mkF m 19 #[.val (.ref p0), .val (.int (((31 : Int32) * (((31 : Int32) * (((31 : Int32) * (((31 : Int32) * (1 : Int32)) + p0_x_vertices_0)) + p0_x_states_0)) + p0_x_vertices_1)) + p0_x_states_1)), .val (.int (2 : Int32))] [(.ref p0), (.int ((31 : Int32) * (((31 : Int32) * (((31 : Int32) * (((31 : Int32) * (((31 : Int32) * (1 : Int32)) + p0_x_vertices_0)) + p0_x_states_0)) + p0_x_vertices_1)) + p0_x_states_1))), (.int (31 : Int32))])) rfl rfl (hb hby d6_19)
  obtain ⟨cla164, Ara164, qa164, Sa164, Na164, Ha164, Ga164⟩ := And.left ⟨V_p0_vertices, trivial⟩
  have hina164 : ¬ ((2 : Int32) < 0 ∨ cla164.slots.size ≤ ((2 : Int32)).toNatClampNeg) := inb_of Sa164 ⟨by decide, by decide⟩
  obtain ⟨T165, X165, e165, st165⟩ := getF X163 hx hZ hown (host := "") (Or.inl (hw _ (List.mem_of_getElem? (i := 13) rfl))) Via.refl e163 G_p0_states (g := (mkF m 27 #[.val (.ref p0), .val (.int (((31 : Int32) * (((31 : Int32) * (((31 : Int32) * (((31 : Int32) * (1 : Int32)) + p0_x_vertices_0)) + p0_x_states_0)) + p0_x_vertices_1)) + p0_x_states_1)), .val (.int (2 : Int32))] [(.ref p0), (.int ((31 : Int32) * (((31 : Int32) * (((31 : Int32) * (((31 : Int32) * (((31 : Int32) * (((31 : Int32) * (1 : Int32)) + p0_x_vertices_0)) + p0_x_states_0)) + p0_x_vertices_1)) + p0_x_states_1)) + p0_x_vertices_2)))])) rfl rfl (hb hby d6_27)
  obtain ⟨cla166, Ara166, qa166, Sa166, Na166, Ha166, Ga166⟩ := And.left ⟨V_p0_states, trivial⟩
  have hina166 : ¬ ((2 : Int32) < 0 ∨ cla166.slots.size ≤ ((2 : Int32)).toNatClampNeg) := inb_of Sa166 ⟨by decide, by decide⟩
  obtain ⟨T167, X167, e167, st167⟩ := getF X165 hx hZ hown (host := "") (Or.inl (hw _ (List.mem_of_getElem? (i := 27) rfl))) Via.refl e165 G_p0_count (g := (mkF m 6 #[.val (.ref p0), .val (.int (((31 : Int32) * (((31 : Int32) * (((31 : Int32) * (((31 : Int32) * (((31 : Int32) * (((31 : Int32) * (1 : Int32)) + p0_x_vertices_0)) + p0_x_states_0)) + p0_x_vertices_1)) + p0_x_states_1)) + p0_x_vertices_2)) + p0_x_states_2)), .val (.int (3 : Int32))] [(.ref p0), (.int (3 : Int32))])) rfl rfl (hb hby d6_6)
  obtain ⟨fs, hr, hrun, hended, hW, hsame⟩ := X167.leave (v := some (.int (((31 : Int32) * (((31 : Int32) * (((31 : Int32) * (((31 : Int32) * (((31 : Int32) * (((31 : Int32) * (1 : Int32)) + p0_x_vertices_0)) + p0_x_states_0)) + p0_x_vertices_1)) + p0_x_states_1)) + p0_x_vertices_2)) + p0_x_states_2))) (fun h => by rw [Bd.returns] at h; cases h)
  refine ⟨_, _, pre0 _ ?_, hrun, hended, _, _, rfl, ?_, ⟨_, rfl⟩, hW, hsame.mono (by decide) (by decide)⟩
  · show Steps p.tables e below (s₁.setTop (mkF m 0 #[.val (.ref p0), .unset, .unset] [])) _
    refine XS.iconst X0.here hx rfl (hb hby d6_0) ?_
    show Steps p.tables e below (s₁.setTop (mkF m 1 #[.val (.ref p0), .unset, .unset] [(.int (1 : Int32))])) _
    refine XS.istoreN X0.here hx rfl (hb hby d6_1) rfl (l' := #[.val (.ref p0), .val (.int (1 : Int32)), .unset]) rfl ?_
    show Steps p.tables e below (s₁.setTop (mkF m 2 #[.val (.ref p0), .val (.int (1 : Int32)), .unset] [])) _
    refine XS.iconst X0.here hx rfl (hb hby d6_2) ?_
    show Steps p.tables e below (s₁.setTop (mkF m 3 #[.val (.ref p0), .val (.int (1 : Int32)), .unset] [(.int (0 : Int32))])) _
    refine XS.istoreN X0.here hx rfl (hb hby d6_3) rfl (l' := #[.val (.ref p0), .val (.int (1 : Int32)), .val (.int (0 : Int32))]) rfl ?_
    show Steps p.tables e below (s₁.setTop (mkF m 4 #[.val (.ref p0), .val (.int (1 : Int32)), .val (.int (0 : Int32))] [])) _
    refine XS.iloadN X0.here hx rfl (hb hby d6_4) rfl ?_
    show Steps p.tables e below (s₁.setTop (mkF m 5 #[.val (.ref p0), .val (.int (1 : Int32)), .val (.int (0 : Int32))] [(.int (0 : Int32))])) _
    refine XS.aloadN X0.here hx rfl (hb hby d6_5) rfl rfl ?_
    show Steps p.tables e below (s₁.setTop (mkF m 6 #[.val (.ref p0), .val (.int (1 : Int32)), .val (.int (0 : Int32))] [(.ref p0), (.int (0 : Int32))])) _
    refine st152 _ ?_
    show Steps p.tables e below (T152.setTop (mkF m 9 #[.val (.ref p0), .val (.int (1 : Int32)), .val (.int (0 : Int32))] [(.int (3 : Int32)), (.int (0 : Int32))])) _
    refine XS.icmpNo X152.here hx rfl (hb hby d6_9) rfl (tlt ((by decide) : (0 : Int32) < (3 : Int32))).2.1 ?_
    show Steps p.tables e below (T152.setTop (mkF m 12 #[.val (.ref p0), .val (.int (1 : Int32)), .val (.int (0 : Int32))] [])) _
    refine XS.bipush X152.here hx rfl (hb hby d6_12) ?_
    show Steps p.tables e below (T152.setTop (mkF m 14 #[.val (.ref p0), .val (.int (1 : Int32)), .val (.int (0 : Int32))] [(.int (31 : Int32))])) _
    refine XS.bipush X152.here hx rfl (hb hby d6_14) ?_
    show Steps p.tables e below (T152.setTop (mkF m 16 #[.val (.ref p0), .val (.int (1 : Int32)), .val (.int (0 : Int32))] [(.int (31 : Int32)), (.int (31 : Int32))])) _
    refine XS.iloadN X152.here hx rfl (hb hby d6_16) rfl ?_
    show Steps p.tables e below (T152.setTop (mkF m 17 #[.val (.ref p0), .val (.int (1 : Int32)), .val (.int (0 : Int32))] [(.int (1 : Int32)), (.int (31 : Int32)), (.int (31 : Int32))])) _
    refine XS.imul X152.here hx rfl (hb hby d6_17) rfl ?_
    show Steps p.tables e below (T152.setTop (mkF m 18 #[.val (.ref p0), .val (.int (1 : Int32)), .val (.int (0 : Int32))] [(.int ((31 : Int32) * (1 : Int32))), (.int (31 : Int32))])) _
    refine XS.aloadN X152.here hx rfl (hb hby d6_18) rfl rfl ?_
    show Steps p.tables e below (T152.setTop (mkF m 19 #[.val (.ref p0), .val (.int (1 : Int32)), .val (.int (0 : Int32))] [(.ref p0), (.int ((31 : Int32) * (1 : Int32))), (.int (31 : Int32))])) _
    refine st153 _ ?_
    show Steps p.tables e below (T153.setTop (mkF m 22 #[.val (.ref p0), .val (.int (1 : Int32)), .val (.int (0 : Int32))] [(.ref p0_b_vertices), (.int ((31 : Int32) * (1 : Int32))), (.int (31 : Int32))])) _
    refine XS.iloadN X153.here hx rfl (hb hby d6_22) rfl ?_
    show Steps p.tables e below (T153.setTop (mkF m 23 #[.val (.ref p0), .val (.int (1 : Int32)), .val (.int (0 : Int32))] [(.int (0 : Int32)), (.ref p0_b_vertices), (.int ((31 : Int32) * (1 : Int32))), (.int (31 : Int32))])) _
    refine X153.iaload hx (j := (0 : Int32)) (v := (.int p0_x_vertices_0)) (by rw [e153]; exact Ara154.1) (State.isArrayOf_alike hZ.alike Ara154.2.1) Ara154.2.2 hina154 (Ha154.at hina154 rfl) (g := (mkF m 23 #[.val (.ref p0), .val (.int (1 : Int32)), .val (.int (0 : Int32))] [(.int (0 : Int32)), (.ref p0_b_vertices), (.int ((31 : Int32) * (1 : Int32))), (.int (31 : Int32))])) rfl rfl (hb hby d6_23) _ ?_
    show Steps p.tables e below (T153.setTop (mkF m 24 #[.val (.ref p0), .val (.int (1 : Int32)), .val (.int (0 : Int32))] [(.int p0_x_vertices_0), (.int ((31 : Int32) * (1 : Int32))), (.int (31 : Int32))])) _
    refine XS.iadd X153.here hx rfl (hb hby d6_24) rfl ?_
    show Steps p.tables e below (T153.setTop (mkF m 25 #[.val (.ref p0), .val (.int (1 : Int32)), .val (.int (0 : Int32))] [(.int (((31 : Int32) * (1 : Int32)) + p0_x_vertices_0)), (.int (31 : Int32))])) _
    refine XS.imul X153.here hx rfl (hb hby d6_25) rfl ?_
    show Steps p.tables e below (T153.setTop (mkF m 26 #[.val (.ref p0), .val (.int (1 : Int32)), .val (.int (0 : Int32))] [(.int ((31 : Int32) * (((31 : Int32) * (1 : Int32)) + p0_x_vertices_0)))])) _
    refine XS.aloadN X153.here hx rfl (hb hby d6_26) rfl rfl ?_
    show Steps p.tables e below (T153.setTop (mkF m 27 #[.val (.ref p0), .val (.int (1 : Int32)), .val (.int (0 : Int32))] [(.ref p0), (.int ((31 : Int32) * (((31 : Int32) * (1 : Int32)) + p0_x_vertices_0)))])) _
    refine st155 _ ?_
    show Steps p.tables e below (T155.setTop (mkF m 30 #[.val (.ref p0), .val (.int (1 : Int32)), .val (.int (0 : Int32))] [(.ref p0_b_states), (.int ((31 : Int32) * (((31 : Int32) * (1 : Int32)) + p0_x_vertices_0)))])) _
    refine XS.iloadN X155.here hx rfl (hb hby d6_30) rfl ?_
    show Steps p.tables e below (T155.setTop (mkF m 31 #[.val (.ref p0), .val (.int (1 : Int32)), .val (.int (0 : Int32))] [(.int (0 : Int32)), (.ref p0_b_states), (.int ((31 : Int32) * (((31 : Int32) * (1 : Int32)) + p0_x_vertices_0)))])) _
    refine X155.baloadBytes hx (j := (0 : Int32)) (v := (.int p0_x_states_0)) (by rw [e155]; exact Ara156.1) (State.isArrayOf_alike hZ.alike Ara156.2.1) Ara156.2.2 hina156 (Ha156.at hina156 rfl) (g := (mkF m 31 #[.val (.ref p0), .val (.int (1 : Int32)), .val (.int (0 : Int32))] [(.int (0 : Int32)), (.ref p0_b_states), (.int ((31 : Int32) * (((31 : Int32) * (1 : Int32)) + p0_x_vertices_0)))])) rfl rfl (hb hby d6_31) _ ?_
    show Steps p.tables e below (T155.setTop (mkF m 32 #[.val (.ref p0), .val (.int (1 : Int32)), .val (.int (0 : Int32))] [(.int p0_x_states_0), (.int ((31 : Int32) * (((31 : Int32) * (1 : Int32)) + p0_x_vertices_0)))])) _
    refine XS.iadd X155.here hx rfl (hb hby d6_32) rfl ?_
    show Steps p.tables e below (T155.setTop (mkF m 33 #[.val (.ref p0), .val (.int (1 : Int32)), .val (.int (0 : Int32))] [(.int (((31 : Int32) * (((31 : Int32) * (1 : Int32)) + p0_x_vertices_0)) + p0_x_states_0))])) _
    refine XS.istoreN X155.here hx rfl (hb hby d6_33) rfl (l' := #[.val (.ref p0), .val (.int (((31 : Int32) * (((31 : Int32) * (1 : Int32)) + p0_x_vertices_0)) + p0_x_states_0)), .val (.int (0 : Int32))]) rfl ?_
    show Steps p.tables e below (T155.setTop (mkF m 34 #[.val (.ref p0), .val (.int (((31 : Int32) * (((31 : Int32) * (1 : Int32)) + p0_x_vertices_0)) + p0_x_states_0)), .val (.int (0 : Int32))] [])) _
    refine XS.iinc X155.here hx rfl (hb hby d6_34) rfl (l' := #[.val (.ref p0), .val (.int (((31 : Int32) * (((31 : Int32) * (1 : Int32)) + p0_x_vertices_0)) + p0_x_states_0)), .val (.int (1 : Int32))]) rfl ?_
    show Steps p.tables e below (T155.setTop (mkF m 37 #[.val (.ref p0), .val (.int (((31 : Int32) * (((31 : Int32) * (1 : Int32)) + p0_x_vertices_0)) + p0_x_states_0)), .val (.int (1 : Int32))] [])) _
    refine XS.goto X155.here hx rfl (pc0 := 37) (pc' := 4) rfl (hb hby d6_37) (by decide) (by decide) ?_
    show Steps p.tables e below (T155.setTop (mkF m 4 #[.val (.ref p0), .val (.int (((31 : Int32) * (((31 : Int32) * (1 : Int32)) + p0_x_vertices_0)) + p0_x_states_0)), .val (.int (1 : Int32))] [])) _
    refine XS.iloadN X155.here hx rfl (hb hby d6_4) rfl ?_
    show Steps p.tables e below (T155.setTop (mkF m 5 #[.val (.ref p0), .val (.int (((31 : Int32) * (((31 : Int32) * (1 : Int32)) + p0_x_vertices_0)) + p0_x_states_0)), .val (.int (1 : Int32))] [(.int (1 : Int32))])) _
    refine XS.aloadN X155.here hx rfl (hb hby d6_5) rfl rfl ?_
    show Steps p.tables e below (T155.setTop (mkF m 6 #[.val (.ref p0), .val (.int (((31 : Int32) * (((31 : Int32) * (1 : Int32)) + p0_x_vertices_0)) + p0_x_states_0)), .val (.int (1 : Int32))] [(.ref p0), (.int (1 : Int32))])) _
    refine st157 _ ?_
    show Steps p.tables e below (T157.setTop (mkF m 9 #[.val (.ref p0), .val (.int (((31 : Int32) * (((31 : Int32) * (1 : Int32)) + p0_x_vertices_0)) + p0_x_states_0)), .val (.int (1 : Int32))] [(.int (3 : Int32)), (.int (1 : Int32))])) _
    refine XS.icmpNo X157.here hx rfl (hb hby d6_9) rfl (tlt ((by decide) : (1 : Int32) < (3 : Int32))).2.1 ?_
    show Steps p.tables e below (T157.setTop (mkF m 12 #[.val (.ref p0), .val (.int (((31 : Int32) * (((31 : Int32) * (1 : Int32)) + p0_x_vertices_0)) + p0_x_states_0)), .val (.int (1 : Int32))] [])) _
    refine XS.bipush X157.here hx rfl (hb hby d6_12) ?_
    show Steps p.tables e below (T157.setTop (mkF m 14 #[.val (.ref p0), .val (.int (((31 : Int32) * (((31 : Int32) * (1 : Int32)) + p0_x_vertices_0)) + p0_x_states_0)), .val (.int (1 : Int32))] [(.int (31 : Int32))])) _
    refine XS.bipush X157.here hx rfl (hb hby d6_14) ?_
    show Steps p.tables e below (T157.setTop (mkF m 16 #[.val (.ref p0), .val (.int (((31 : Int32) * (((31 : Int32) * (1 : Int32)) + p0_x_vertices_0)) + p0_x_states_0)), .val (.int (1 : Int32))] [(.int (31 : Int32)), (.int (31 : Int32))])) _
    refine XS.iloadN X157.here hx rfl (hb hby d6_16) rfl ?_
    show Steps p.tables e below (T157.setTop (mkF m 17 #[.val (.ref p0), .val (.int (((31 : Int32) * (((31 : Int32) * (1 : Int32)) + p0_x_vertices_0)) + p0_x_states_0)), .val (.int (1 : Int32))] [(.int (((31 : Int32) * (((31 : Int32) * (1 : Int32)) + p0_x_vertices_0)) + p0_x_states_0)), (.int (31 : Int32)), (.int (31 : Int32))])) _
    refine XS.imul X157.here hx rfl (hb hby d6_17) rfl ?_
    show Steps p.tables e below (T157.setTop (mkF m 18 #[.val (.ref p0), .val (.int (((31 : Int32) * (((31 : Int32) * (1 : Int32)) + p0_x_vertices_0)) + p0_x_states_0)), .val (.int (1 : Int32))] [(.int ((31 : Int32) * (((31 : Int32) * (((31 : Int32) * (1 : Int32)) + p0_x_vertices_0)) + p0_x_states_0))), (.int (31 : Int32))])) _
    refine XS.aloadN X157.here hx rfl (hb hby d6_18) rfl rfl ?_
    show Steps p.tables e below (T157.setTop (mkF m 19 #[.val (.ref p0), .val (.int (((31 : Int32) * (((31 : Int32) * (1 : Int32)) + p0_x_vertices_0)) + p0_x_states_0)), .val (.int (1 : Int32))] [(.ref p0), (.int ((31 : Int32) * (((31 : Int32) * (((31 : Int32) * (1 : Int32)) + p0_x_vertices_0)) + p0_x_states_0))), (.int (31 : Int32))])) _
    refine st158 _ ?_
    show Steps p.tables e below (T158.setTop (mkF m 22 #[.val (.ref p0), .val (.int (((31 : Int32) * (((31 : Int32) * (1 : Int32)) + p0_x_vertices_0)) + p0_x_states_0)), .val (.int (1 : Int32))] [(.ref p0_b_vertices), (.int ((31 : Int32) * (((31 : Int32) * (((31 : Int32) * (1 : Int32)) + p0_x_vertices_0)) + p0_x_states_0))), (.int (31 : Int32))])) _
    refine XS.iloadN X158.here hx rfl (hb hby d6_22) rfl ?_
    show Steps p.tables e below (T158.setTop (mkF m 23 #[.val (.ref p0), .val (.int (((31 : Int32) * (((31 : Int32) * (1 : Int32)) + p0_x_vertices_0)) + p0_x_states_0)), .val (.int (1 : Int32))] [(.int (1 : Int32)), (.ref p0_b_vertices), (.int ((31 : Int32) * (((31 : Int32) * (((31 : Int32) * (1 : Int32)) + p0_x_vertices_0)) + p0_x_states_0))), (.int (31 : Int32))])) _
    refine X158.iaload hx (j := (1 : Int32)) (v := (.int p0_x_vertices_1)) (by rw [e158]; exact Ara159.1) (State.isArrayOf_alike hZ.alike Ara159.2.1) Ara159.2.2 hina159 (Ha159.at hina159 rfl) (g := (mkF m 23 #[.val (.ref p0), .val (.int (((31 : Int32) * (((31 : Int32) * (1 : Int32)) + p0_x_vertices_0)) + p0_x_states_0)), .val (.int (1 : Int32))] [(.int (1 : Int32)), (.ref p0_b_vertices), (.int ((31 : Int32) * (((31 : Int32) * (((31 : Int32) * (1 : Int32)) + p0_x_vertices_0)) + p0_x_states_0))), (.int (31 : Int32))])) rfl rfl (hb hby d6_23) _ ?_
    show Steps p.tables e below (T158.setTop (mkF m 24 #[.val (.ref p0), .val (.int (((31 : Int32) * (((31 : Int32) * (1 : Int32)) + p0_x_vertices_0)) + p0_x_states_0)), .val (.int (1 : Int32))] [(.int p0_x_vertices_1), (.int ((31 : Int32) * (((31 : Int32) * (((31 : Int32) * (1 : Int32)) + p0_x_vertices_0)) + p0_x_states_0))), (.int (31 : Int32))])) _
    refine XS.iadd X158.here hx rfl (hb hby d6_24) rfl ?_
    show Steps p.tables e below (T158.setTop (mkF m 25 #[.val (.ref p0), .val (.int (((31 : Int32) * (((31 : Int32) * (1 : Int32)) + p0_x_vertices_0)) + p0_x_states_0)), .val (.int (1 : Int32))] [(.int (((31 : Int32) * (((31 : Int32) * (((31 : Int32) * (1 : Int32)) + p0_x_vertices_0)) + p0_x_states_0)) + p0_x_vertices_1)), (.int (31 : Int32))])) _
    refine XS.imul X158.here hx rfl (hb hby d6_25) rfl ?_
    show Steps p.tables e below (T158.setTop (mkF m 26 #[.val (.ref p0), .val (.int (((31 : Int32) * (((31 : Int32) * (1 : Int32)) + p0_x_vertices_0)) + p0_x_states_0)), .val (.int (1 : Int32))] [(.int ((31 : Int32) * (((31 : Int32) * (((31 : Int32) * (((31 : Int32) * (1 : Int32)) + p0_x_vertices_0)) + p0_x_states_0)) + p0_x_vertices_1)))])) _
    refine XS.aloadN X158.here hx rfl (hb hby d6_26) rfl rfl ?_
    show Steps p.tables e below (T158.setTop (mkF m 27 #[.val (.ref p0), .val (.int (((31 : Int32) * (((31 : Int32) * (1 : Int32)) + p0_x_vertices_0)) + p0_x_states_0)), .val (.int (1 : Int32))] [(.ref p0), (.int ((31 : Int32) * (((31 : Int32) * (((31 : Int32) * (((31 : Int32) * (1 : Int32)) + p0_x_vertices_0)) + p0_x_states_0)) + p0_x_vertices_1)))])) _
    refine st160 _ ?_
    show Steps p.tables e below (T160.setTop (mkF m 30 #[.val (.ref p0), .val (.int (((31 : Int32) * (((31 : Int32) * (1 : Int32)) + p0_x_vertices_0)) + p0_x_states_0)), .val (.int (1 : Int32))] [(.ref p0_b_states), (.int ((31 : Int32) * (((31 : Int32) * (((31 : Int32) * (((31 : Int32) * (1 : Int32)) + p0_x_vertices_0)) + p0_x_states_0)) + p0_x_vertices_1)))])) _
    refine XS.iloadN X160.here hx rfl (hb hby d6_30) rfl ?_
    show Steps p.tables e below (T160.setTop (mkF m 31 #[.val (.ref p0), .val (.int (((31 : Int32) * (((31 : Int32) * (1 : Int32)) + p0_x_vertices_0)) + p0_x_states_0)), .val (.int (1 : Int32))] [(.int (1 : Int32)), (.ref p0_b_states), (.int ((31 : Int32) * (((31 : Int32) * (((31 : Int32) * (((31 : Int32) * (1 : Int32)) + p0_x_vertices_0)) + p0_x_states_0)) + p0_x_vertices_1)))])) _
    refine X160.baloadBytes hx (j := (1 : Int32)) (v := (.int p0_x_states_1)) (by rw [e160]; exact Ara161.1) (State.isArrayOf_alike hZ.alike Ara161.2.1) Ara161.2.2 hina161 (Ha161.at hina161 rfl) (g := (mkF m 31 #[.val (.ref p0), .val (.int (((31 : Int32) * (((31 : Int32) * (1 : Int32)) + p0_x_vertices_0)) + p0_x_states_0)), .val (.int (1 : Int32))] [(.int (1 : Int32)), (.ref p0_b_states), (.int ((31 : Int32) * (((31 : Int32) * (((31 : Int32) * (((31 : Int32) * (1 : Int32)) + p0_x_vertices_0)) + p0_x_states_0)) + p0_x_vertices_1)))])) rfl rfl (hb hby d6_31) _ ?_
    show Steps p.tables e below (T160.setTop (mkF m 32 #[.val (.ref p0), .val (.int (((31 : Int32) * (((31 : Int32) * (1 : Int32)) + p0_x_vertices_0)) + p0_x_states_0)), .val (.int (1 : Int32))] [(.int p0_x_states_1), (.int ((31 : Int32) * (((31 : Int32) * (((31 : Int32) * (((31 : Int32) * (1 : Int32)) + p0_x_vertices_0)) + p0_x_states_0)) + p0_x_vertices_1)))])) _
    refine XS.iadd X160.here hx rfl (hb hby d6_32) rfl ?_
    show Steps p.tables e below (T160.setTop (mkF m 33 #[.val (.ref p0), .val (.int (((31 : Int32) * (((31 : Int32) * (1 : Int32)) + p0_x_vertices_0)) + p0_x_states_0)), .val (.int (1 : Int32))] [(.int (((31 : Int32) * (((31 : Int32) * (((31 : Int32) * (((31 : Int32) * (1 : Int32)) + p0_x_vertices_0)) + p0_x_states_0)) + p0_x_vertices_1)) + p0_x_states_1))])) _
    refine XS.istoreN X160.here hx rfl (hb hby d6_33) rfl (l' := #[.val (.ref p0), .val (.int (((31 : Int32) * (((31 : Int32) * (((31 : Int32) * (((31 : Int32) * (1 : Int32)) + p0_x_vertices_0)) + p0_x_states_0)) + p0_x_vertices_1)) + p0_x_states_1)), .val (.int (1 : Int32))]) rfl ?_
    show Steps p.tables e below (T160.setTop (mkF m 34 #[.val (.ref p0), .val (.int (((31 : Int32) * (((31 : Int32) * (((31 : Int32) * (((31 : Int32) * (1 : Int32)) + p0_x_vertices_0)) + p0_x_states_0)) + p0_x_vertices_1)) + p0_x_states_1)), .val (.int (1 : Int32))] [])) _
    refine XS.iinc X160.here hx rfl (hb hby d6_34) rfl (l' := #[.val (.ref p0), .val (.int (((31 : Int32) * (((31 : Int32) * (((31 : Int32) * (((31 : Int32) * (1 : Int32)) + p0_x_vertices_0)) + p0_x_states_0)) + p0_x_vertices_1)) + p0_x_states_1)), .val (.int (2 : Int32))]) rfl ?_
    show Steps p.tables e below (T160.setTop (mkF m 37 #[.val (.ref p0), .val (.int (((31 : Int32) * (((31 : Int32) * (((31 : Int32) * (((31 : Int32) * (1 : Int32)) + p0_x_vertices_0)) + p0_x_states_0)) + p0_x_vertices_1)) + p0_x_states_1)), .val (.int (2 : Int32))] [])) _
    refine XS.goto X160.here hx rfl (pc0 := 37) (pc' := 4) rfl (hb hby d6_37) (by decide) (by decide) ?_
    show Steps p.tables e below (T160.setTop (mkF m 4 #[.val (.ref p0), .val (.int (((31 : Int32) * (((31 : Int32) * (((31 : Int32) * (((31 : Int32) * (1 : Int32)) + p0_x_vertices_0)) + p0_x_states_0)) + p0_x_vertices_1)) + p0_x_states_1)), .val (.int (2 : Int32))] [])) _
    refine XS.iloadN X160.here hx rfl (hb hby d6_4) rfl ?_
    show Steps p.tables e below (T160.setTop (mkF m 5 #[.val (.ref p0), .val (.int (((31 : Int32) * (((31 : Int32) * (((31 : Int32) * (((31 : Int32) * (1 : Int32)) + p0_x_vertices_0)) + p0_x_states_0)) + p0_x_vertices_1)) + p0_x_states_1)), .val (.int (2 : Int32))] [(.int (2 : Int32))])) _
    refine XS.aloadN X160.here hx rfl (hb hby d6_5) rfl rfl ?_
    show Steps p.tables e below (T160.setTop (mkF m 6 #[.val (.ref p0), .val (.int (((31 : Int32) * (((31 : Int32) * (((31 : Int32) * (((31 : Int32) * (1 : Int32)) + p0_x_vertices_0)) + p0_x_states_0)) + p0_x_vertices_1)) + p0_x_states_1)), .val (.int (2 : Int32))] [(.ref p0), (.int (2 : Int32))])) _
    refine st162 _ ?_
    show Steps p.tables e below (T162.setTop (mkF m 9 #[.val (.ref p0), .val (.int (((31 : Int32) * (((31 : Int32) * (((31 : Int32) * (((31 : Int32) * (1 : Int32)) + p0_x_vertices_0)) + p0_x_states_0)) + p0_x_vertices_1)) + p0_x_states_1)), .val (.int (2 : Int32))] [(.int (3 : Int32)), (.int (2 : Int32))])) _
    refine XS.icmpNo X162.here hx rfl (hb hby d6_9) rfl (tlt ((by decide) : (2 : Int32) < (3 : Int32))).2.1 ?_
    show Steps p.tables e below (T162.setTop (mkF m 12 #[.val (.ref p0), .val (.int (((31 : Int32) * (((31 : Int32) * (((31 : Int32) * (((31 : Int32) * (1 : Int32)) + p0_x_vertices_0)) + p0_x_states_0)) + p0_x_vertices_1)) + p0_x_states_1)), .val (.int (2 : Int32))] [])) _
    refine XS.bipush X162.here hx rfl (hb hby d6_12) ?_
    show Steps p.tables e below (T162.setTop (mkF m 14 #[.val (.ref p0), .val (.int (((31 : Int32) * (((31 : Int32) * (((31 : Int32) * (((31 : Int32) * (1 : Int32)) + p0_x_vertices_0)) + p0_x_states_0)) + p0_x_vertices_1)) + p0_x_states_1)), .val (.int (2 : Int32))] [(.int (31 : Int32))])) _
    refine XS.bipush X162.here hx rfl (hb hby d6_14) ?_
    show Steps p.tables e below (T162.setTop (mkF m 16 #[.val (.ref p0), .val (.int (((31 : Int32) * (((31 : Int32) * (((31 : Int32) * (((31 : Int32) * (1 : Int32)) + p0_x_vertices_0)) + p0_x_states_0)) + p0_x_vertices_1)) + p0_x_states_1)), .val (.int (2 : Int32))] [(.int (31 : Int32)), (.int (31 : Int32))])) _
    refine XS.iloadN X162.here hx rfl (hb hby d6_16) rfl ?_
    show Steps p.tables e below (T162.setTop (mkF m 17 #[.val (.ref p0), .val (.int (((31 : Int32) * (((31 : Int32) * (((31 : Int32) * (((31 : Int32) * (1 : Int32)) + p0_x_vertices_0)) + p0_x_states_0)) + p0_x_vertices_1)) + p0_x_states_1)), .val (.int (2 : Int32))] [(.int (((31 : Int32) * (((31 : Int32) * (((31 : Int32) * (((31 : Int32) * (1 : Int32)) + p0_x_vertices_0)) + p0_x_states_0)) + p0_x_vertices_1)) + p0_x_states_1)), (.int (31 : Int32)), (.int (31 : Int32))])) _
    refine XS.imul X162.here hx rfl (hb hby d6_17) rfl ?_
    show Steps p.tables e below (T162.setTop (mkF m 18 #[.val (.ref p0), .val (.int (((31 : Int32) * (((31 : Int32) * (((31 : Int32) * (((31 : Int32) * (1 : Int32)) + p0_x_vertices_0)) + p0_x_states_0)) + p0_x_vertices_1)) + p0_x_states_1)), .val (.int (2 : Int32))] [(.int ((31 : Int32) * (((31 : Int32) * (((31 : Int32) * (((31 : Int32) * (((31 : Int32) * (1 : Int32)) + p0_x_vertices_0)) + p0_x_states_0)) + p0_x_vertices_1)) + p0_x_states_1))), (.int (31 : Int32))])) _
    refine XS.aloadN X162.here hx rfl (hb hby d6_18) rfl rfl ?_
    show Steps p.tables e below (T162.setTop (mkF m 19 #[.val (.ref p0), .val (.int (((31 : Int32) * (((31 : Int32) * (((31 : Int32) * (((31 : Int32) * (1 : Int32)) + p0_x_vertices_0)) + p0_x_states_0)) + p0_x_vertices_1)) + p0_x_states_1)), .val (.int (2 : Int32))] [(.ref p0), (.int ((31 : Int32) * (((31 : Int32) * (((31 : Int32) * (((31 : Int32) * (((31 : Int32) * (1 : Int32)) + p0_x_vertices_0)) + p0_x_states_0)) + p0_x_vertices_1)) + p0_x_states_1))), (.int (31 : Int32))])) _
    refine st163 _ ?_
    show Steps p.tables e below (T163.setTop (mkF m 22 #[.val (.ref p0), .val (.int (((31 : Int32) * (((31 : Int32) * (((31 : Int32) * (((31 : Int32) * (1 : Int32)) + p0_x_vertices_0)) + p0_x_states_0)) + p0_x_vertices_1)) + p0_x_states_1)), .val (.int (2 : Int32))] [(.ref p0_b_vertices), (.int ((31 : Int32) * (((31 : Int32) * (((31 : Int32) * (((31 : Int32) * (((31 : Int32) * (1 : Int32)) + p0_x_vertices_0)) + p0_x_states_0)) + p0_x_vertices_1)) + p0_x_states_1))), (.int (31 : Int32))])) _
    refine XS.iloadN X163.here hx rfl (hb hby d6_22) rfl ?_
    show Steps p.tables e below (T163.setTop (mkF m 23 #[.val (.ref p0), .val (.int (((31 : Int32) * (((31 : Int32) * (((31 : Int32) * (((31 : Int32) * (1 : Int32)) + p0_x_vertices_0)) + p0_x_states_0)) + p0_x_vertices_1)) + p0_x_states_1)), .val (.int (2 : Int32))] [(.int (2 : Int32)), (.ref p0_b_vertices), (.int ((31 : Int32) * (((31 : Int32) * (((31 : Int32) * (((31 : Int32) * (((31 : Int32) * (1 : Int32)) + p0_x_vertices_0)) + p0_x_states_0)) + p0_x_vertices_1)) + p0_x_states_1))), (.int (31 : Int32))])) _
    refine X163.iaload hx (j := (2 : Int32)) (v := (.int p0_x_vertices_2)) (by rw [e163]; exact Ara164.1) (State.isArrayOf_alike hZ.alike Ara164.2.1) Ara164.2.2 hina164 (Ha164.at hina164 rfl) (g := (mkF m 23 #[.val (.ref p0), .val (.int (((31 : Int32) * (((31 : Int32) * (((31 : Int32) * (((31 : Int32) * (1 : Int32)) + p0_x_vertices_0)) + p0_x_states_0)) + p0_x_vertices_1)) + p0_x_states_1)), .val (.int (2 : Int32))] [(.int (2 : Int32)), (.ref p0_b_vertices), (.int ((31 : Int32) * (((31 : Int32) * (((31 : Int32) * (((31 : Int32) * (((31 : Int32) * (1 : Int32)) + p0_x_vertices_0)) + p0_x_states_0)) + p0_x_vertices_1)) + p0_x_states_1))), (.int (31 : Int32))])) rfl rfl (hb hby d6_23) _ ?_
    show Steps p.tables e below (T163.setTop (mkF m 24 #[.val (.ref p0), .val (.int (((31 : Int32) * (((31 : Int32) * (((31 : Int32) * (((31 : Int32) * (1 : Int32)) + p0_x_vertices_0)) + p0_x_states_0)) + p0_x_vertices_1)) + p0_x_states_1)), .val (.int (2 : Int32))] [(.int p0_x_vertices_2), (.int ((31 : Int32) * (((31 : Int32) * (((31 : Int32) * (((31 : Int32) * (((31 : Int32) * (1 : Int32)) + p0_x_vertices_0)) + p0_x_states_0)) + p0_x_vertices_1)) + p0_x_states_1))), (.int (31 : Int32))])) _
    refine XS.iadd X163.here hx rfl (hb hby d6_24) rfl ?_
    show Steps p.tables e below (T163.setTop (mkF m 25 #[.val (.ref p0), .val (.int (((31 : Int32) * (((31 : Int32) * (((31 : Int32) * (((31 : Int32) * (1 : Int32)) + p0_x_vertices_0)) + p0_x_states_0)) + p0_x_vertices_1)) + p0_x_states_1)), .val (.int (2 : Int32))] [(.int (((31 : Int32) * (((31 : Int32) * (((31 : Int32) * (((31 : Int32) * (((31 : Int32) * (1 : Int32)) + p0_x_vertices_0)) + p0_x_states_0)) + p0_x_vertices_1)) + p0_x_states_1)) + p0_x_vertices_2)), (.int (31 : Int32))])) _
    refine XS.imul X163.here hx rfl (hb hby d6_25) rfl ?_
    show Steps p.tables e below (T163.setTop (mkF m 26 #[.val (.ref p0), .val (.int (((31 : Int32) * (((31 : Int32) * (((31 : Int32) * (((31 : Int32) * (1 : Int32)) + p0_x_vertices_0)) + p0_x_states_0)) + p0_x_vertices_1)) + p0_x_states_1)), .val (.int (2 : Int32))] [(.int ((31 : Int32) * (((31 : Int32) * (((31 : Int32) * (((31 : Int32) * (((31 : Int32) * (((31 : Int32) * (1 : Int32)) + p0_x_vertices_0)) + p0_x_states_0)) + p0_x_vertices_1)) + p0_x_states_1)) + p0_x_vertices_2)))])) _
    refine XS.aloadN X163.here hx rfl (hb hby d6_26) rfl rfl ?_
    show Steps p.tables e below (T163.setTop (mkF m 27 #[.val (.ref p0), .val (.int (((31 : Int32) * (((31 : Int32) * (((31 : Int32) * (((31 : Int32) * (1 : Int32)) + p0_x_vertices_0)) + p0_x_states_0)) + p0_x_vertices_1)) + p0_x_states_1)), .val (.int (2 : Int32))] [(.ref p0), (.int ((31 : Int32) * (((31 : Int32) * (((31 : Int32) * (((31 : Int32) * (((31 : Int32) * (((31 : Int32) * (1 : Int32)) + p0_x_vertices_0)) + p0_x_states_0)) + p0_x_vertices_1)) + p0_x_states_1)) + p0_x_vertices_2)))])) _
    refine st165 _ ?_
    show Steps p.tables e below (T165.setTop (mkF m 30 #[.val (.ref p0), .val (.int (((31 : Int32) * (((31 : Int32) * (((31 : Int32) * (((31 : Int32) * (1 : Int32)) + p0_x_vertices_0)) + p0_x_states_0)) + p0_x_vertices_1)) + p0_x_states_1)), .val (.int (2 : Int32))] [(.ref p0_b_states), (.int ((31 : Int32) * (((31 : Int32) * (((31 : Int32) * (((31 : Int32) * (((31 : Int32) * (((31 : Int32) * (1 : Int32)) + p0_x_vertices_0)) + p0_x_states_0)) + p0_x_vertices_1)) + p0_x_states_1)) + p0_x_vertices_2)))])) _
    refine XS.iloadN X165.here hx rfl (hb hby d6_30) rfl ?_
    show Steps p.tables e below (T165.setTop (mkF m 31 #[.val (.ref p0), .val (.int (((31 : Int32) * (((31 : Int32) * (((31 : Int32) * (((31 : Int32) * (1 : Int32)) + p0_x_vertices_0)) + p0_x_states_0)) + p0_x_vertices_1)) + p0_x_states_1)), .val (.int (2 : Int32))] [(.int (2 : Int32)), (.ref p0_b_states), (.int ((31 : Int32) * (((31 : Int32) * (((31 : Int32) * (((31 : Int32) * (((31 : Int32) * (((31 : Int32) * (1 : Int32)) + p0_x_vertices_0)) + p0_x_states_0)) + p0_x_vertices_1)) + p0_x_states_1)) + p0_x_vertices_2)))])) _
    refine X165.baloadBytes hx (j := (2 : Int32)) (v := (.int p0_x_states_2)) (by rw [e165]; exact Ara166.1) (State.isArrayOf_alike hZ.alike Ara166.2.1) Ara166.2.2 hina166 (Ha166.at hina166 rfl) (g := (mkF m 31 #[.val (.ref p0), .val (.int (((31 : Int32) * (((31 : Int32) * (((31 : Int32) * (((31 : Int32) * (1 : Int32)) + p0_x_vertices_0)) + p0_x_states_0)) + p0_x_vertices_1)) + p0_x_states_1)), .val (.int (2 : Int32))] [(.int (2 : Int32)), (.ref p0_b_states), (.int ((31 : Int32) * (((31 : Int32) * (((31 : Int32) * (((31 : Int32) * (((31 : Int32) * (((31 : Int32) * (1 : Int32)) + p0_x_vertices_0)) + p0_x_states_0)) + p0_x_vertices_1)) + p0_x_states_1)) + p0_x_vertices_2)))])) rfl rfl (hb hby d6_31) _ ?_
    show Steps p.tables e below (T165.setTop (mkF m 32 #[.val (.ref p0), .val (.int (((31 : Int32) * (((31 : Int32) * (((31 : Int32) * (((31 : Int32) * (1 : Int32)) + p0_x_vertices_0)) + p0_x_states_0)) + p0_x_vertices_1)) + p0_x_states_1)), .val (.int (2 : Int32))] [(.int p0_x_states_2), (.int ((31 : Int32) * (((31 : Int32) * (((31 : Int32) * (((31 : Int32) * (((31 : Int32) * (((31 : Int32) * (1 : Int32)) + p0_x_vertices_0)) + p0_x_states_0)) + p0_x_vertices_1)) + p0_x_states_1)) + p0_x_vertices_2)))])) _
    refine XS.iadd X165.here hx rfl (hb hby d6_32) rfl ?_
    show Steps p.tables e below (T165.setTop (mkF m 33 #[.val (.ref p0), .val (.int (((31 : Int32) * (((31 : Int32) * (((31 : Int32) * (((31 : Int32) * (1 : Int32)) + p0_x_vertices_0)) + p0_x_states_0)) + p0_x_vertices_1)) + p0_x_states_1)), .val (.int (2 : Int32))] [(.int (((31 : Int32) * (((31 : Int32) * (((31 : Int32) * (((31 : Int32) * (((31 : Int32) * (((31 : Int32) * (1 : Int32)) + p0_x_vertices_0)) + p0_x_states_0)) + p0_x_vertices_1)) + p0_x_states_1)) + p0_x_vertices_2)) + p0_x_states_2))])) _
    refine XS.istoreN X165.here hx rfl (hb hby d6_33) rfl (l' := #[.val (.ref p0), .val (.int (((31 : Int32) * (((31 : Int32) * (((31 : Int32) * (((31 : Int32) * (((31 : Int32) * (((31 : Int32) * (1 : Int32)) + p0_x_vertices_0)) + p0_x_states_0)) + p0_x_vertices_1)) + p0_x_states_1)) + p0_x_vertices_2)) + p0_x_states_2)), .val (.int (2 : Int32))]) rfl ?_
    show Steps p.tables e below (T165.setTop (mkF m 34 #[.val (.ref p0), .val (.int (((31 : Int32) * (((31 : Int32) * (((31 : Int32) * (((31 : Int32) * (((31 : Int32) * (((31 : Int32) * (1 : Int32)) + p0_x_vertices_0)) + p0_x_states_0)) + p0_x_vertices_1)) + p0_x_states_1)) + p0_x_vertices_2)) + p0_x_states_2)), .val (.int (2 : Int32))] [])) _
    refine XS.iinc X165.here hx rfl (hb hby d6_34) rfl (l' := #[.val (.ref p0), .val (.int (((31 : Int32) * (((31 : Int32) * (((31 : Int32) * (((31 : Int32) * (((31 : Int32) * (((31 : Int32) * (1 : Int32)) + p0_x_vertices_0)) + p0_x_states_0)) + p0_x_vertices_1)) + p0_x_states_1)) + p0_x_vertices_2)) + p0_x_states_2)), .val (.int (3 : Int32))]) rfl ?_
    show Steps p.tables e below (T165.setTop (mkF m 37 #[.val (.ref p0), .val (.int (((31 : Int32) * (((31 : Int32) * (((31 : Int32) * (((31 : Int32) * (((31 : Int32) * (((31 : Int32) * (1 : Int32)) + p0_x_vertices_0)) + p0_x_states_0)) + p0_x_vertices_1)) + p0_x_states_1)) + p0_x_vertices_2)) + p0_x_states_2)), .val (.int (3 : Int32))] [])) _
    refine XS.goto X165.here hx rfl (pc0 := 37) (pc' := 4) rfl (hb hby d6_37) (by decide) (by decide) ?_
    show Steps p.tables e below (T165.setTop (mkF m 4 #[.val (.ref p0), .val (.int (((31 : Int32) * (((31 : Int32) * (((31 : Int32) * (((31 : Int32) * (((31 : Int32) * (((31 : Int32) * (1 : Int32)) + p0_x_vertices_0)) + p0_x_states_0)) + p0_x_vertices_1)) + p0_x_states_1)) + p0_x_vertices_2)) + p0_x_states_2)), .val (.int (3 : Int32))] [])) _
    refine XS.iloadN X165.here hx rfl (hb hby d6_4) rfl ?_
    show Steps p.tables e below (T165.setTop (mkF m 5 #[.val (.ref p0), .val (.int (((31 : Int32) * (((31 : Int32) * (((31 : Int32) * (((31 : Int32) * (((31 : Int32) * (((31 : Int32) * (1 : Int32)) + p0_x_vertices_0)) + p0_x_states_0)) + p0_x_vertices_1)) + p0_x_states_1)) + p0_x_vertices_2)) + p0_x_states_2)), .val (.int (3 : Int32))] [(.int (3 : Int32))])) _
    refine XS.aloadN X165.here hx rfl (hb hby d6_5) rfl rfl ?_
    show Steps p.tables e below (T165.setTop (mkF m 6 #[.val (.ref p0), .val (.int (((31 : Int32) * (((31 : Int32) * (((31 : Int32) * (((31 : Int32) * (((31 : Int32) * (((31 : Int32) * (1 : Int32)) + p0_x_vertices_0)) + p0_x_states_0)) + p0_x_vertices_1)) + p0_x_states_1)) + p0_x_vertices_2)) + p0_x_states_2)), .val (.int (3 : Int32))] [(.ref p0), (.int (3 : Int32))])) _
    refine st167 _ ?_
    show Steps p.tables e below (T167.setTop (mkF m 9 #[.val (.ref p0), .val (.int (((31 : Int32) * (((31 : Int32) * (((31 : Int32) * (((31 : Int32) * (((31 : Int32) * (((31 : Int32) * (1 : Int32)) + p0_x_vertices_0)) + p0_x_states_0)) + p0_x_vertices_1)) + p0_x_states_1)) + p0_x_vertices_2)) + p0_x_states_2)), .val (.int (3 : Int32))] [(.int (3 : Int32)), (.int (3 : Int32))])) _
    refine XS.icmpYes X167.here hx rfl (pc0 := 9) (pc' := 40) rfl (hb hby d6_9) rfl (flt ((by first | exact Int32.lt_irrefl _ | decide) : ¬ ((3 : Int32) < (3 : Int32)))).2.1 (by decide) (by decide) ?_
    show Steps p.tables e below (T167.setTop (mkF m 40 #[.val (.ref p0), .val (.int (((31 : Int32) * (((31 : Int32) * (((31 : Int32) * (((31 : Int32) * (((31 : Int32) * (((31 : Int32) * (1 : Int32)) + p0_x_vertices_0)) + p0_x_states_0)) + p0_x_vertices_1)) + p0_x_states_1)) + p0_x_vertices_2)) + p0_x_states_2)), .val (.int (3 : Int32))] [])) _
    refine XS.iloadN X167.here hx rfl (hb hby d6_40) rfl ?_
    show Steps p.tables e below (T167.setTop (mkF m 41 #[.val (.ref p0), .val (.int (((31 : Int32) * (((31 : Int32) * (((31 : Int32) * (((31 : Int32) * (((31 : Int32) * (((31 : Int32) * (1 : Int32)) + p0_x_vertices_0)) + p0_x_states_0)) + p0_x_vertices_1)) + p0_x_states_1)) + p0_x_vertices_2)) + p0_x_states_2)), .val (.int (3 : Int32))] [(.int (((31 : Int32) * (((31 : Int32) * (((31 : Int32) * (((31 : Int32) * (((31 : Int32) * (((31 : Int32) * (1 : Int32)) + p0_x_vertices_0)) + p0_x_states_0)) + p0_x_vertices_1)) + p0_x_states_1)) + p0_x_vertices_2)) + p0_x_states_2))])) _
    exact own_retI X167 hx Bd.returns (hb hby d6_41) hr
  · show Q11 Z p0 p0_b_vertices p0_k_vertices p0_x_vertices_0 p0_x_vertices_1 p0_x_vertices_2 p0_b_states p0_k_states p0_x_states_0 p0_x_states_1 p0_x_states_2 wSUSCEPTIBLE wRECOVERED wINFECTED hs h0 n0 _ T167.heap _
    rw [e167]
    exact ⟨by rw [f11], N0, rfl⟩
theorem d7_0 : decode prog_38_method_4_code 0 = .ok (.aload_n 0, 1) := by decide +kernel
theorem d7_1 : decode prog_38_method_4_code 1 = .ok (.getfield 17, 3) := by decide +kernel
theorem d7_4 : decode prog_38_method_4_code 4 = .ok (.ireturn, 1) := by decide +kernel
def f12 (p0 : Addr) (p0_b_vertices : Addr) (p0_k_vertices : ClassId) (p0_x_vertices_0 : Int32) (p0_x_vertices_1 : Int32) (p0_x_vertices_2 : Int32) (p0_b_states : Addr) (p0_k_states : ClassId) (p0_x_states_0 : Int32) (p0_x_states_1 : Int32) (p0_x_states_2 : Int32) (p0_v_count : Int32) (wSUSCEPTIBLE : Addr) (wRECOVERED : Addr) (wINFECTED : Addr) : Int32 := p0_v_count
theorem ef_12 (m : MethodId) (p0 : Addr) : entryFrame m #[(.ref p0)] 1 = mkF m 0 #[.val (.ref p0)] [] := by first | (simp [entryFrame, mkF, argsToLocals, Value.category]; done) | rfl
def Q12 (Z : State) (p0 : Addr) (p0_b_vertices : Addr) (p0_k_vertices : ClassId) (p0_x_vertices_0 : Int32) (p0_x_vertices_1 : Int32) (p0_x_vertices_2 : Int32) (p0_b_states : Addr) (p0_k_states : ClassId) (p0_x_states_0 : Int32) (p0_x_states_1 : Int32) (p0_x_states_2 : Int32) (p0_v_count : Int32) (wSUSCEPTIBLE : Addr) (wRECOVERED : Addr) (wINFECTED : Addr) (hs : Heap) (h0 : Heap) (n0 : Nat) (v : Option Value) (h : Heap) (L : List Loc) : Prop := v = some (.int (f12 p0 p0_b_vertices p0_k_vertices p0_x_vertices_0 p0_x_vertices_1 p0_x_vertices_2 p0_b_states p0_k_states p0_x_states_0 p0_x_states_1 p0_x_states_2 p0_v_count wSUSCEPTIBLE wRECOVERED wINFECTED)) ∧ Fr n0 L ∧ h = h0
set_option maxRecDepth 65536 in
set_option maxHeartbeats 40000000 in
theorem rm12 (l : Launch) (Z : State) (a0 : Array Value) (hw : ∀ d ∈ tables_1, d.before a0 Z = true) (ws : List Jvm.Cond) (p0 : Addr) (p0_b_vertices : Addr) (p0_k_vertices : ClassId) (p0_x_vertices_0 : Int32) (p0_x_vertices_1 : Int32) (p0_x_vertices_2 : Int32) (p0_b_states : Addr) (p0_k_states : ClassId) (p0_x_states_0 : Int32) (p0_x_states_1 : Int32) (p0_x_states_2 : Int32) (p0_v_count : Int32) (wSUSCEPTIBLE : Addr) (wRECOVERED : Addr) (wINFECTED : Addr) (hs : Heap) (h0 : Heap) (n0 : Nat) (Z0 : n0 ≤ h0.size) (WS : World Z hs wSUSCEPTIBLE wRECOVERED wINFECTED) (O0 : Ext hs h0) (Zs : hs.size ≤ n0) (OB_p0 : Obj Z h0 n0 p0 p0_b_vertices p0_k_vertices p0_x_vertices_0 p0_x_vertices_1 p0_x_vertices_2 p0_b_states p0_k_states p0_x_states_0 p0_x_states_1 p0_x_states_2 p0_v_count) :
    MetFree l (⟨"com/example/rippletide/rippletide/model/StateChanges", "count", "()I"⟩ : MethodName) (head1 (Jvm.Cond.code (⟨"com/example/rippletide/rippletide/model/StateChanges", "count", "()I"⟩ : MethodName) prog_38_method_4_code 1 (some .int) :: ws) ({ frames := 0, cells := 0, slots := 0, locals := 0 } : Room)) (fun a U => a = #[(.ref p0)] ∧ Z.Warmed39 U.vm ∧ U.heap = h0) (fun _ _ _ _ _ => True) (fun _ U o U' => ∃ v L, o = .returned v ∧ Q12 Z p0 p0_b_vertices p0_k_vertices p0_x_vertices_0 p0_x_vertices_1 p0_x_vertices_2 p0_b_states p0_k_states p0_x_states_0 p0_x_states_1 p0_x_states_2 p0_v_count wSUSCEPTIBLE wRECOVERED wINFECTED hs h0 n0 v U'.heap L ∧ FrameEnd U o U' L ({ frames := 0, cells := 0, slots := 0, locals := 0 } : Room).cells ({ frames := 0, cells := 0, slots := 0, locals := 0 } : Room).slots) := by
  refine MetFree.of_bodySF (plainFor_of_name pn_2) hisR ?_
  intro p e s m args below meth c s₁ Bd hml0 hP hK
  obtain ⟨rfl, hZ, hh⟩ := hP
  have hx := Bd.exec
  have hby := Bd.bytes
  have hml : c.maxLocals = 1 := hml0
  have hown : s.vm.findClass "com/example/rippletide/rippletide/model/StateChanges" = some m.cls := findClass_of_methodNamed Bd.named
  have hnm := (name_of_methodNamed Bd.named Bd.method).1
  have X0 : Stand p l e ({ frames := 0, cells := 0, slots := 0, locals := 0 } : Room) s m #[(.ref p0)] below meth c s₁ [] 0 0 := Stand.of_body Bd
  have e0 : s₁.heap = h0 := by rw [← hh, Bd.state]; rfl
  have N0 := Fr.nil n0
  have W1 := WS
  obtain ⟨SSUSCEPTIBLE, ESUSCEPTIBLE, FSUSCEPTIBLE_ordinal, SRECOVERED, ERECOVERED, FRECOVERED_ordinal, SINFECTED, EINFECTED, FINFECTED_ordinal, -⟩ := W1
  obtain ⟨E_p0, g_p0, G_p0_vertices, G_p0_states, G_p0_count, g_p0_vertices, ne_p0_vertices, V_p0_vertices, g_p0_states, ne_p0_states, V_p0_states, nn_p0_vertices_states, -⟩ := OB_p0
  have pre0 : ∀ t, Steps p.tables e below (s₁.setTop (mkF m 0 #[.val (.ref p0)] [])) t → Steps p.tables e below (s₁.setTop (entryFrame m #[(.ref p0)] 1)) t := fun t k => castTop (ef_12 m p0) k
  obtain ⟨T168, X168, e168, st168⟩ := getF X0 hx hZ hown (host := "") (Or.inl (hw _ (List.mem_of_getElem? (i := 27) rfl))) Via.refl e0 G_p0_count (g := (mkF m 1 #[.val (.ref p0)] [(.ref p0)])) rfl rfl (hb hby d7_1)
  obtain ⟨fs, hr, hrun, hended, hW, hsame⟩ := X168.leave (v := some (.int p0_v_count)) (fun h => by rw [Bd.returns] at h; cases h)
  refine ⟨_, _, pre0 _ ?_, hrun, hended, _, _, rfl, ?_, ⟨_, rfl⟩, hW, hsame.mono (by decide) (by decide)⟩
  · show Steps p.tables e below (s₁.setTop (mkF m 0 #[.val (.ref p0)] [])) _
    refine XS.aloadN X0.here hx rfl (hb hby d7_0) rfl rfl ?_
    show Steps p.tables e below (s₁.setTop (mkF m 1 #[.val (.ref p0)] [(.ref p0)])) _
    refine st168 _ ?_
    show Steps p.tables e below (T168.setTop (mkF m 4 #[.val (.ref p0)] [(.int p0_v_count)])) _
    exact own_retI X168 hx Bd.returns (hb hby d7_4) hr
  · show Q12 Z p0 p0_b_vertices p0_k_vertices p0_x_vertices_0 p0_x_vertices_1 p0_x_vertices_2 p0_b_states p0_k_states p0_x_states_0 p0_x_states_1 p0_x_states_2 p0_v_count wSUSCEPTIBLE wRECOVERED wINFECTED hs h0 n0 _ T168.heap _
    rw [e168]
    exact ⟨by rw [f12], N0, rfl⟩
theorem pd_1 : parseMethodDescriptor "()V" = some ⟨[], none⟩ := by decide +kernel
theorem pd_2 : parseMethodDescriptor "(I)Lcom/example/rippletide/rippletide/model/State;" = some ⟨[.int], some (.object "com/example/rippletide/rippletide/model/State")⟩ := by decide +kernel
theorem pd_3 : parseMethodDescriptor "(ILcom/example/rippletide/rippletide/model/State;)V" = some ⟨[.int, (.object "com/example/rippletide/rippletide/model/State")], none⟩ := by decide +kernel
theorem ef_0 (m : MethodId) (p0 : Int32) (p1 : Int32) (p2 : Int32) (p3 : Int32) (p4 : Int32) : entryFrame m #[(.int p0), (.int p1), (.int p2), (.int p3), (.int p4)] maxLocals = mkF m 0 #[.val (.int p0), .val (.int p1), .val (.int p2), .val (.int p3), .val (.int p4), .unset, .unset, .unset, .unset, .unset, .unset, .unset, .unset, .unset, .unset, .unset, .unset, .unset] [] := by first | (simp [entryFrame, mkF, argsToLocals, Value.category, maxLocals]; done) | rfl
def Q0 (Z : State) (p0 : Int32) (p1 : Int32) (p2 : Int32) (p3 : Int32) (p4 : Int32) (wSUSCEPTIBLE : Addr) (wRECOVERED : Addr) (wINFECTED : Addr) (h0 : Heap) (n0 : Nat) (v : Option Value) (h : Heap) (L : List Loc) : Prop := v = some (.int 1) ∧ Fr n0 L
set_option maxRecDepth 65536 in
set_option maxHeartbeats 40000000 in
theorem rm0 (l : Launch) (Z : State) (a0 : Array Value) (hw : ∀ d ∈ tables_1, d.before a0 Z = true) (ws : List Jvm.Cond) (p0 : Int32) (p1 : Int32) (p2 : Int32) (p3 : Int32) (p4 : Int32) (wSUSCEPTIBLE : Addr) (wRECOVERED : Addr) (wINFECTED : Addr) (h0 : Heap) (n0 : Nat) (Z0 : n0 ≤ h0.size) (W0 : World Z h0 wSUSCEPTIBLE wRECOVERED wINFECTED) (Zs : h0.size ≤ n0) :
    MetFree l x (head1 (Jvm.Cond.code x code maxLocals ret :: ws) room_1) (fun a U => a = #[(.int p0), (.int p1), (.int p2), (.int p3), (.int p4)] ∧ Z.Warmed39 U.vm ∧ U.heap = h0) (fun _ _ _ _ _ => True) (fun _ U o U' => ∃ v L, o = .returned v ∧ Q0 Z p0 p1 p2 p3 p4 wSUSCEPTIBLE wRECOVERED wINFECTED h0 n0 v U'.heap L ∧ FrameEnd U o U' L room_1.cells room_1.slots) := by
  refine MetFree.of_bodySF (plainFor_of_name pn_0) hisR ?_
  intro p e s m args below meth c s₁ Bd hml0 hP hK
  obtain ⟨rfl, hZ, hh⟩ := hP
  have hx := Bd.exec
  have hby := Bd.bytes
  have hml : c.maxLocals = 18 := hml0
  have hown : s.vm.findClass "com/example/rippletide/rippletide/model/StateChangesHashCodePinLaw" = some m.cls := findClass_of_methodNamed Bd.named
  have hnm := (name_of_methodNamed Bd.named Bd.method).1
  have X0 : Stand p l e room_1 s m #[(.int p0), (.int p1), (.int p2), (.int p3), (.int p4)] below meth c s₁ [] 0 0 := Stand.of_body Bd
  have e0 : s₁.heap = h0 := by rw [← hh, Bd.state]; rfl
  have N0 := Fr.nil n0
  have W1 := W0
  obtain ⟨SSUSCEPTIBLE, ESUSCEPTIBLE, FSUSCEPTIBLE_ordinal, SRECOVERED, ERECOVERED, FRECOVERED_ordinal, SINFECTED, EINFECTED, FINFECTED_ordinal, -⟩ := W1
  have pre0 : ∀ t, Steps p.tables e below (s₁.setTop (mkF m 0 #[.val (.int p0), .val (.int p1), .val (.int p2), .val (.int p3), .val (.int p4), .unset, .unset, .unset, .unset, .unset, .unset, .unset, .unset, .unset, .unset, .unset, .unset, .unset] [])) t → Steps p.tables e below (s₁.setTop (entryFrame m #[(.int p0), (.int p1), (.int p2), (.int p3), (.int p4)] maxLocals)) t := fun t k => castTop (ef_0 m p0 p1 p2 p3 p4) k
  obtain ⟨i169, hi169⟩ : ∃ z, z = (p3 &&& (3 : Int32)) := ⟨_, rfl⟩
  have k170 : ∀ t, Steps p.tables e below (s₁.setTop (mkF m 5 #[.val (.int p0), .val (.int p1), .val (.int p2), .val (.int p3), .val (.int p4), .val (.int i169), .unset, .unset, .unset, .unset, .unset, .unset, .unset, .unset, .unset, .unset, .unset, .unset] [])) t → Steps p.tables e below (s₁.setTop (entryFrame m #[(.int p0), (.int p1), (.int p2), (.int p3), (.int p4)] maxLocals)) t := fun t kt => pre0 t (by
    show Steps p.tables e below (s₁.setTop (mkF m 0 #[.val (.int p0), .val (.int p1), .val (.int p2), .val (.int p3), .val (.int p4), .unset, .unset, .unset, .unset, .unset, .unset, .unset, .unset, .unset, .unset, .unset, .unset, .unset] [])) _
    refine XS.iloadN X0.here hx rfl (hb hby at_0) rfl ?_
    show Steps p.tables e below (s₁.setTop (mkF m 1 #[.val (.int p0), .val (.int p1), .val (.int p2), .val (.int p3), .val (.int p4), .unset, .unset, .unset, .unset, .unset, .unset, .unset, .unset, .unset, .unset, .unset, .unset, .unset] [(.int p3)])) _
    refine XS.iconst X0.here hx rfl (hb hby at_1) ?_
    show Steps p.tables e below (s₁.setTop (mkF m 2 #[.val (.int p0), .val (.int p1), .val (.int p2), .val (.int p3), .val (.int p4), .unset, .unset, .unset, .unset, .unset, .unset, .unset, .unset, .unset, .unset, .unset, .unset, .unset] [(.int (3 : Int32)), (.int p3)])) _
    refine XS.iand X0.here hx rfl (hb hby at_2) rfl ?_
    rw [← hi169]
    show Steps p.tables e below (s₁.setTop (mkF m 3 #[.val (.int p0), .val (.int p1), .val (.int p2), .val (.int p3), .val (.int p4), .unset, .unset, .unset, .unset, .unset, .unset, .unset, .unset, .unset, .unset, .unset, .unset, .unset] [(.int i169)])) _
    refine XS.istore X0.here hx rfl (hb hby at_3) rfl (l' := #[.val (.int p0), .val (.int p1), .val (.int p2), .val (.int p3), .val (.int p4), .val (.int i169), .unset, .unset, .unset, .unset, .unset, .unset, .unset, .unset, .unset, .unset, .unset, .unset]) rfl ?_
    exact kt)
  rcases own_and3 hi169 with hv171 | hv171 | hv171 | hv171
  · subst hv171
    obtain ⟨i172, hi172⟩ : ∃ z, z = ((p0.toUInt32 >>> ((3 : Int32) &&& 31).toUInt32).toInt32) := ⟨_, rfl⟩
    obtain ⟨i173, hi173⟩ : ∃ z, z = ((i172 + (1 : Int32)) + ((p1.toUInt32 >>> ((3 : Int32) &&& 31).toUInt32).toInt32)) := ⟨_, rfl⟩
    obtain ⟨i174, hi174⟩ : ∃ z, z = ((i173 + (1 : Int32)) + ((p2.toUInt32 >>> ((2 : Int32) &&& 31).toUInt32).toInt32)) := ⟨_, rfl⟩
    obtain ⟨A1, A2, A3, A4, A5⟩ := own_arith hi172 hi173 hi174
    obtain ⟨i175, hi175⟩ : ∃ z, z = ((((p3.toUInt32 >>> ((2 : Int32) &&& 31).toUInt32).toInt32) &&& (3 : Int32)) % (3 : Int32)) := ⟨_, rfl⟩
    obtain ⟨i176, hi176⟩ : ∃ z, z = ((((p3.toUInt32 >>> ((4 : Int32) &&& 31).toUInt32).toInt32) &&& (3 : Int32)) % (3 : Int32)) := ⟨_, rfl⟩
    obtain ⟨i177, hi177⟩ : ∃ z, z = ((((p3.toUInt32 >>> ((6 : Int32) &&& 31).toUInt32).toInt32) &&& (3 : Int32)) % (3 : Int32)) := ⟨_, rfl⟩
    obtain ⟨i178, hi178⟩ : ∃ z, z = ((((p3.toUInt32 >>> ((8 : Int32) &&& 31).toUInt32).toInt32) &&& (3 : Int32)) % (3 : Int32)) := ⟨_, rfl⟩
    obtain ⟨T179, h179, X179, e179, E179, A179, D179, -, st179⟩ := newO X0 hx hZ hown (hw _ (List.mem_of_getElem? (i := 0) rfl)) (hw _ (List.mem_of_getElem? (i := 1) rfl)) (hw _ (List.mem_of_getElem? (i := 2) rfl)) e0 (g := (mkF m 68 #[.val (.int p0), .val (.int p1), .val (.int p2), .val (.int p3), .val (.int p4), .val (.int (0 : Int32)), .val (.int i172), .val (.int i173), .val (.int i174), .val (.int i175), .val (.int i176), .val (.int i177), .val (.int i178), .unset, .unset, .unset, .unset, .unset] [])) rfl (hb hby at_68) (by decide) (by decide)
    obtain ⟨b179, g179⟩ : ∃ z, z = h0.size := ⟨_, rfl⟩
    have g_b179 : n0 ≤ b179 := Nat.le_trans Z0 (Nat.le_of_eq g179.symm)
    have sz_b179 : h0.size ≤ b179 := Nat.le_of_eq g179.symm
    rw [← g179] at A179 D179 st179
    have EX179 : Ext h0 h179 := E179
    have KK179 : Keep h0 h179 ([] : List Addr) := Keep.ext (Keep.refl h0 ([] : List Addr)) E179
    have G179_vertices : Fld Z h179 b179 "com/example/rippletide/rippletide/model/StateChanges" "vertices" "[I" .null := D179 (Or.inl (hw _ (List.mem_of_getElem? (i := 11) rfl))) (ty := (.array .int)) (by decide)
    have G179_states : Fld Z h179 b179 "com/example/rippletide/rippletide/model/StateChanges" "states" "[B" .null := D179 (Or.inl (hw _ (List.mem_of_getElem? (i := 14) rfl))) (ty := (.array .byte)) (by decide)
    have G179_count : Fld Z h179 b179 "com/example/rippletide/rippletide/model/StateChanges" "count" "I" (.int (0 : Int32)) := D179 (Or.inl (hw _ (List.mem_of_getElem? (i := 28) rfl))) (ty := .int) (by decide)
    obtain ⟨_, _, ⟨T180, L180, k180, n180⟩, -, X180, ⟨Lc180, hQ180, l180, y180, z180⟩, st180⟩ := X179.specialBack hx (y := (⟨"com/example/rippletide/rippletide/model/StateChanges", "<init>", "()V"⟩ : MethodName)) rfl hown (mvT hZ (hw _ (List.mem_of_getElem? (i := 3) rfl))) (mvT hZ (hw _ (List.mem_of_getElem? (i := 4) rfl))) (mvT hZ (hw _ (List.mem_of_getElem? (i := 5) rfl))) (by decide) (backOf (W := 1) (rm3 l Z a0 hw [] b179 wSUSCEPTIBLE wRECOVERED wINFECTED h0 h179 n0 (Nat.le_trans Z0 KK179.1) W0 EX179 Zs A179 g_b179 G179_vertices G179_states G179_count ) hZ (hw _ (List.mem_of_getElem? (i := 5) rfl)) (hw _ (List.mem_of_getElem? (i := 2) rfl)) (by decide) (by decide)) (g := (mkF m 72 #[.val (.int p0), .val (.int p1), .val (.int p2), .val (.int p3), .val (.int p4), .val (.int (0 : Int32)), .val (.int i172), .val (.int i173), .val (.int i174), .val (.int i175), .val (.int i176), .val (.int i177), .val (.int i178), .unset, .unset, .unset, .unset, .unset] [(.ref b179), (.ref b179)])) rfl (by rw [hml]; rfl) (Steps.refl _) (a := b179) (argsL := []) (rest := [(.ref b179)]) (lenOf pd_1 rfl) rfl (by show 2 * 0 + _ ≤ _; exact Nat.le_of_eq rfl) (hb hby at_72) (fun _ _ => ⟨rfl, e179, (by decide : 1 + 2 ≤ _), (by decide : 3 + 32 ≤ _)⟩)
    dsimp only [Pt.U, Pt.locs, Pt.cells, Pt.slots] at X180 l180 y180 z180 st180 hQ180
    subst l180 y180 z180
    unfold Q3 at hQ180
    obtain ⟨b_vertices_180, k_vertices_180, b_states_180, k_states_180, rfl, N180q, EXc180, Kc180, OB180_p0⟩ := hQ180
    have N180 := Fr.app N0 N180q
    have EX180 : Ext h0 T180.heap := EXc180
    have KK180 : Keep h0 T180.heap ([] : List Addr) := Keep.trans KK179 Kc180 (allS (Or.inr (Nat.le_trans Zs g_b179)) all0)
    have OBx180_p0 : Obj Z T180.heap n0 b179 b_vertices_180 k_vertices_180 (0 : Int32) (0 : Int32) (0 : Int32) b_states_180 k_states_180 (0 : Int32) (0 : Int32) (0 : Int32) (0 : Int32) := OB180_p0
    obtain ⟨E_b179_180, g_b179_180, G_b179_vertices_180, G_b179_states_180, G_b179_count_180, g_b179_vertices_180, ne_b179_vertices_180, V_b179_vertices_180, g_b179_states_180, ne_b179_states_180, V_b179_states_180, nn_b179_vertices_states_180, -⟩ := OBx180_p0
    have k184 : ∀ t, Steps p.tables e below (T180.setTop (mkF m 81 #[.val (.int p0), .val (.int p1), .val (.int p2), .val (.int p3), .val (.int p4), .val (.int (0 : Int32)), .val (.int i172), .val (.int i173), .val (.int i174), .val (.int i175), .val (.int i176), .val (.int i177), .val (.int i178), .val (.ref b179), .unset, .unset, .unset, .unset] [(.int (p4 &&& (1 : Int32)))])) t → Steps p.tables e below (s₁.setTop (entryFrame m #[(.int p0), (.int p1), (.int p2), (.int p3), (.int p4)] maxLocals)) t := fun t kt => k170 t (by
      show Steps p.tables e below (s₁.setTop (mkF m 5 #[.val (.int p0), .val (.int p1), .val (.int p2), .val (.int p3), .val (.int p4), .val (.int (0 : Int32)), .unset, .unset, .unset, .unset, .unset, .unset, .unset, .unset, .unset, .unset, .unset, .unset] [])) _
      refine XS.iloadN X0.here hx rfl (hb hby at_5) rfl ?_
      show Steps p.tables e below (s₁.setTop (mkF m 6 #[.val (.int p0), .val (.int p1), .val (.int p2), .val (.int p3), .val (.int p4), .val (.int (0 : Int32)), .unset, .unset, .unset, .unset, .unset, .unset, .unset, .unset, .unset, .unset, .unset, .unset] [(.int p0)])) _
      refine XS.iconst X0.here hx rfl (hb hby at_6) ?_
      show Steps p.tables e below (s₁.setTop (mkF m 7 #[.val (.int p0), .val (.int p1), .val (.int p2), .val (.int p3), .val (.int p4), .val (.int (0 : Int32)), .unset, .unset, .unset, .unset, .unset, .unset, .unset, .unset, .unset, .unset, .unset, .unset] [(.int (3 : Int32)), (.int p0)])) _
      refine XS.iushr X0.here hx rfl (hb hby at_7) rfl ?_
      rw [← hi172]
      show Steps p.tables e below (s₁.setTop (mkF m 8 #[.val (.int p0), .val (.int p1), .val (.int p2), .val (.int p3), .val (.int p4), .val (.int (0 : Int32)), .unset, .unset, .unset, .unset, .unset, .unset, .unset, .unset, .unset, .unset, .unset, .unset] [(.int i172)])) _
      refine XS.istore X0.here hx rfl (hb hby at_8) rfl (l' := #[.val (.int p0), .val (.int p1), .val (.int p2), .val (.int p3), .val (.int p4), .val (.int (0 : Int32)), .val (.int i172), .unset, .unset, .unset, .unset, .unset, .unset, .unset, .unset, .unset, .unset, .unset]) rfl ?_
      show Steps p.tables e below (s₁.setTop (mkF m 10 #[.val (.int p0), .val (.int p1), .val (.int p2), .val (.int p3), .val (.int p4), .val (.int (0 : Int32)), .val (.int i172), .unset, .unset, .unset, .unset, .unset, .unset, .unset, .unset, .unset, .unset, .unset] [])) _
      refine XS.iload X0.here hx rfl (hb hby at_10) rfl ?_
      show Steps p.tables e below (s₁.setTop (mkF m 12 #[.val (.int p0), .val (.int p1), .val (.int p2), .val (.int p3), .val (.int p4), .val (.int (0 : Int32)), .val (.int i172), .unset, .unset, .unset, .unset, .unset, .unset, .unset, .unset, .unset, .unset, .unset] [(.int i172)])) _
      refine XS.iconst X0.here hx rfl (hb hby at_12) ?_
      show Steps p.tables e below (s₁.setTop (mkF m 13 #[.val (.int p0), .val (.int p1), .val (.int p2), .val (.int p3), .val (.int p4), .val (.int (0 : Int32)), .val (.int i172), .unset, .unset, .unset, .unset, .unset, .unset, .unset, .unset, .unset, .unset, .unset] [(.int (1 : Int32)), (.int i172)])) _
      refine XS.iadd X0.here hx rfl (hb hby at_13) rfl ?_
      show Steps p.tables e below (s₁.setTop (mkF m 14 #[.val (.int p0), .val (.int p1), .val (.int p2), .val (.int p3), .val (.int p4), .val (.int (0 : Int32)), .val (.int i172), .unset, .unset, .unset, .unset, .unset, .unset, .unset, .unset, .unset, .unset, .unset] [(.int (i172 + (1 : Int32)))])) _
      refine XS.iloadN X0.here hx rfl (hb hby at_14) rfl ?_
      show Steps p.tables e below (s₁.setTop (mkF m 15 #[.val (.int p0), .val (.int p1), .val (.int p2), .val (.int p3), .val (.int p4), .val (.int (0 : Int32)), .val (.int i172), .unset, .unset, .unset, .unset, .unset, .unset, .unset, .unset, .unset, .unset, .unset] [(.int p1), (.int (i172 + (1 : Int32)))])) _
      refine XS.iconst X0.here hx rfl (hb hby at_15) ?_
      show Steps p.tables e below (s₁.setTop (mkF m 16 #[.val (.int p0), .val (.int p1), .val (.int p2), .val (.int p3), .val (.int p4), .val (.int (0 : Int32)), .val (.int i172), .unset, .unset, .unset, .unset, .unset, .unset, .unset, .unset, .unset, .unset, .unset] [(.int (3 : Int32)), (.int p1), (.int (i172 + (1 : Int32)))])) _
      refine XS.iushr X0.here hx rfl (hb hby at_16) rfl ?_
      show Steps p.tables e below (s₁.setTop (mkF m 17 #[.val (.int p0), .val (.int p1), .val (.int p2), .val (.int p3), .val (.int p4), .val (.int (0 : Int32)), .val (.int i172), .unset, .unset, .unset, .unset, .unset, .unset, .unset, .unset, .unset, .unset, .unset] [(.int ((p1.toUInt32 >>> ((3 : Int32) &&& 31).toUInt32).toInt32)), (.int (i172 + (1 : Int32)))])) _
      refine XS.iadd X0.here hx rfl (hb hby at_17) rfl ?_
      rw [← hi173]
      show Steps p.tables e below (s₁.setTop (mkF m 18 #[.val (.int p0), .val (.int p1), .val (.int p2), .val (.int p3), .val (.int p4), .val (.int (0 : Int32)), .val (.int i172), .unset, .unset, .unset, .unset, .unset, .unset, .unset, .unset, .unset, .unset, .unset] [(.int i173)])) _
      refine XS.istore X0.here hx rfl (hb hby at_18) rfl (l' := #[.val (.int p0), .val (.int p1), .val (.int p2), .val (.int p3), .val (.int p4), .val (.int (0 : Int32)), .val (.int i172), .val (.int i173), .unset, .unset, .unset, .unset, .unset, .unset, .unset, .unset, .unset, .unset]) rfl ?_
      show Steps p.tables e below (s₁.setTop (mkF m 20 #[.val (.int p0), .val (.int p1), .val (.int p2), .val (.int p3), .val (.int p4), .val (.int (0 : Int32)), .val (.int i172), .val (.int i173), .unset, .unset, .unset, .unset, .unset, .unset, .unset, .unset, .unset, .unset] [])) _
      refine XS.iload X0.here hx rfl (hb hby at_20) rfl ?_
      show Steps p.tables e below (s₁.setTop (mkF m 22 #[.val (.int p0), .val (.int p1), .val (.int p2), .val (.int p3), .val (.int p4), .val (.int (0 : Int32)), .val (.int i172), .val (.int i173), .unset, .unset, .unset, .unset, .unset, .unset, .unset, .unset, .unset, .unset] [(.int i173)])) _
      refine XS.iconst X0.here hx rfl (hb hby at_22) ?_
      show Steps p.tables e below (s₁.setTop (mkF m 23 #[.val (.int p0), .val (.int p1), .val (.int p2), .val (.int p3), .val (.int p4), .val (.int (0 : Int32)), .val (.int i172), .val (.int i173), .unset, .unset, .unset, .unset, .unset, .unset, .unset, .unset, .unset, .unset] [(.int (1 : Int32)), (.int i173)])) _
      refine XS.iadd X0.here hx rfl (hb hby at_23) rfl ?_
      show Steps p.tables e below (s₁.setTop (mkF m 24 #[.val (.int p0), .val (.int p1), .val (.int p2), .val (.int p3), .val (.int p4), .val (.int (0 : Int32)), .val (.int i172), .val (.int i173), .unset, .unset, .unset, .unset, .unset, .unset, .unset, .unset, .unset, .unset] [(.int (i173 + (1 : Int32)))])) _
      refine XS.iloadN X0.here hx rfl (hb hby at_24) rfl ?_
      show Steps p.tables e below (s₁.setTop (mkF m 25 #[.val (.int p0), .val (.int p1), .val (.int p2), .val (.int p3), .val (.int p4), .val (.int (0 : Int32)), .val (.int i172), .val (.int i173), .unset, .unset, .unset, .unset, .unset, .unset, .unset, .unset, .unset, .unset] [(.int p2), (.int (i173 + (1 : Int32)))])) _
      refine XS.iconst X0.here hx rfl (hb hby at_25) ?_
      show Steps p.tables e below (s₁.setTop (mkF m 26 #[.val (.int p0), .val (.int p1), .val (.int p2), .val (.int p3), .val (.int p4), .val (.int (0 : Int32)), .val (.int i172), .val (.int i173), .unset, .unset, .unset, .unset, .unset, .unset, .unset, .unset, .unset, .unset] [(.int (2 : Int32)), (.int p2), (.int (i173 + (1 : Int32)))])) _
      refine XS.iushr X0.here hx rfl (hb hby at_26) rfl ?_
      show Steps p.tables e below (s₁.setTop (mkF m 27 #[.val (.int p0), .val (.int p1), .val (.int p2), .val (.int p3), .val (.int p4), .val (.int (0 : Int32)), .val (.int i172), .val (.int i173), .unset, .unset, .unset, .unset, .unset, .unset, .unset, .unset, .unset, .unset] [(.int ((p2.toUInt32 >>> ((2 : Int32) &&& 31).toUInt32).toInt32)), (.int (i173 + (1 : Int32)))])) _
      refine XS.iadd X0.here hx rfl (hb hby at_27) rfl ?_
      rw [← hi174]
      show Steps p.tables e below (s₁.setTop (mkF m 28 #[.val (.int p0), .val (.int p1), .val (.int p2), .val (.int p3), .val (.int p4), .val (.int (0 : Int32)), .val (.int i172), .val (.int i173), .unset, .unset, .unset, .unset, .unset, .unset, .unset, .unset, .unset, .unset] [(.int i174)])) _
      refine XS.istore X0.here hx rfl (hb hby at_28) rfl (l' := #[.val (.int p0), .val (.int p1), .val (.int p2), .val (.int p3), .val (.int p4), .val (.int (0 : Int32)), .val (.int i172), .val (.int i173), .val (.int i174), .unset, .unset, .unset, .unset, .unset, .unset, .unset, .unset, .unset]) rfl ?_
      show Steps p.tables e below (s₁.setTop (mkF m 30 #[.val (.int p0), .val (.int p1), .val (.int p2), .val (.int p3), .val (.int p4), .val (.int (0 : Int32)), .val (.int i172), .val (.int i173), .val (.int i174), .unset, .unset, .unset, .unset, .unset, .unset, .unset, .unset, .unset] [])) _
      refine XS.iloadN X0.here hx rfl (hb hby at_30) rfl ?_
      show Steps p.tables e below (s₁.setTop (mkF m 31 #[.val (.int p0), .val (.int p1), .val (.int p2), .val (.int p3), .val (.int p4), .val (.int (0 : Int32)), .val (.int i172), .val (.int i173), .val (.int i174), .unset, .unset, .unset, .unset, .unset, .unset, .unset, .unset, .unset] [(.int p3)])) _
      refine XS.iconst X0.here hx rfl (hb hby at_31) ?_
      show Steps p.tables e below (s₁.setTop (mkF m 32 #[.val (.int p0), .val (.int p1), .val (.int p2), .val (.int p3), .val (.int p4), .val (.int (0 : Int32)), .val (.int i172), .val (.int i173), .val (.int i174), .unset, .unset, .unset, .unset, .unset, .unset, .unset, .unset, .unset] [(.int (2 : Int32)), (.int p3)])) _
      refine XS.iushr X0.here hx rfl (hb hby at_32) rfl ?_
      show Steps p.tables e below (s₁.setTop (mkF m 33 #[.val (.int p0), .val (.int p1), .val (.int p2), .val (.int p3), .val (.int p4), .val (.int (0 : Int32)), .val (.int i172), .val (.int i173), .val (.int i174), .unset, .unset, .unset, .unset, .unset, .unset, .unset, .unset, .unset] [(.int ((p3.toUInt32 >>> ((2 : Int32) &&& 31).toUInt32).toInt32))])) _
      refine XS.iconst X0.here hx rfl (hb hby at_33) ?_
      show Steps p.tables e below (s₁.setTop (mkF m 34 #[.val (.int p0), .val (.int p1), .val (.int p2), .val (.int p3), .val (.int p4), .val (.int (0 : Int32)), .val (.int i172), .val (.int i173), .val (.int i174), .unset, .unset, .unset, .unset, .unset, .unset, .unset, .unset, .unset] [(.int (3 : Int32)), (.int ((p3.toUInt32 >>> ((2 : Int32) &&& 31).toUInt32).toInt32))])) _
      refine XS.iand X0.here hx rfl (hb hby at_34) rfl ?_
      show Steps p.tables e below (s₁.setTop (mkF m 35 #[.val (.int p0), .val (.int p1), .val (.int p2), .val (.int p3), .val (.int p4), .val (.int (0 : Int32)), .val (.int i172), .val (.int i173), .val (.int i174), .unset, .unset, .unset, .unset, .unset, .unset, .unset, .unset, .unset] [(.int (((p3.toUInt32 >>> ((2 : Int32) &&& 31).toUInt32).toInt32) &&& (3 : Int32)))])) _
      refine XS.iconst X0.here hx rfl (hb hby at_35) ?_
      show Steps p.tables e below (s₁.setTop (mkF m 36 #[.val (.int p0), .val (.int p1), .val (.int p2), .val (.int p3), .val (.int p4), .val (.int (0 : Int32)), .val (.int i172), .val (.int i173), .val (.int i174), .unset, .unset, .unset, .unset, .unset, .unset, .unset, .unset, .unset] [(.int (3 : Int32)), (.int (((p3.toUInt32 >>> ((2 : Int32) &&& 31).toUInt32).toInt32) &&& (3 : Int32)))])) _
      refine iremM X0 hx rfl (hb hby at_36) rfl (by decide) ?_
      rw [← hi175]
      show Steps p.tables e below (s₁.setTop (mkF m 37 #[.val (.int p0), .val (.int p1), .val (.int p2), .val (.int p3), .val (.int p4), .val (.int (0 : Int32)), .val (.int i172), .val (.int i173), .val (.int i174), .unset, .unset, .unset, .unset, .unset, .unset, .unset, .unset, .unset] [(.int i175)])) _
      refine XS.istore X0.here hx rfl (hb hby at_37) rfl (l' := #[.val (.int p0), .val (.int p1), .val (.int p2), .val (.int p3), .val (.int p4), .val (.int (0 : Int32)), .val (.int i172), .val (.int i173), .val (.int i174), .val (.int i175), .unset, .unset, .unset, .unset, .unset, .unset, .unset, .unset]) rfl ?_
      show Steps p.tables e below (s₁.setTop (mkF m 39 #[.val (.int p0), .val (.int p1), .val (.int p2), .val (.int p3), .val (.int p4), .val (.int (0 : Int32)), .val (.int i172), .val (.int i173), .val (.int i174), .val (.int i175), .unset, .unset, .unset, .unset, .unset, .unset, .unset, .unset] [])) _
      refine XS.iloadN X0.here hx rfl (hb hby at_39) rfl ?_
      show Steps p.tables e below (s₁.setTop (mkF m 40 #[.val (.int p0), .val (.int p1), .val (.int p2), .val (.int p3), .val (.int p4), .val (.int (0 : Int32)), .val (.int i172), .val (.int i173), .val (.int i174), .val (.int i175), .unset, .unset, .unset, .unset, .unset, .unset, .unset, .unset] [(.int p3)])) _
      refine XS.iconst X0.here hx rfl (hb hby at_40) ?_
      show Steps p.tables e below (s₁.setTop (mkF m 41 #[.val (.int p0), .val (.int p1), .val (.int p2), .val (.int p3), .val (.int p4), .val (.int (0 : Int32)), .val (.int i172), .val (.int i173), .val (.int i174), .val (.int i175), .unset, .unset, .unset, .unset, .unset, .unset, .unset, .unset] [(.int (4 : Int32)), (.int p3)])) _
      refine XS.iushr X0.here hx rfl (hb hby at_41) rfl ?_
      show Steps p.tables e below (s₁.setTop (mkF m 42 #[.val (.int p0), .val (.int p1), .val (.int p2), .val (.int p3), .val (.int p4), .val (.int (0 : Int32)), .val (.int i172), .val (.int i173), .val (.int i174), .val (.int i175), .unset, .unset, .unset, .unset, .unset, .unset, .unset, .unset] [(.int ((p3.toUInt32 >>> ((4 : Int32) &&& 31).toUInt32).toInt32))])) _
      refine XS.iconst X0.here hx rfl (hb hby at_42) ?_
      show Steps p.tables e below (s₁.setTop (mkF m 43 #[.val (.int p0), .val (.int p1), .val (.int p2), .val (.int p3), .val (.int p4), .val (.int (0 : Int32)), .val (.int i172), .val (.int i173), .val (.int i174), .val (.int i175), .unset, .unset, .unset, .unset, .unset, .unset, .unset, .unset] [(.int (3 : Int32)), (.int ((p3.toUInt32 >>> ((4 : Int32) &&& 31).toUInt32).toInt32))])) _
      refine XS.iand X0.here hx rfl (hb hby at_43) rfl ?_
      show Steps p.tables e below (s₁.setTop (mkF m 44 #[.val (.int p0), .val (.int p1), .val (.int p2), .val (.int p3), .val (.int p4), .val (.int (0 : Int32)), .val (.int i172), .val (.int i173), .val (.int i174), .val (.int i175), .unset, .unset, .unset, .unset, .unset, .unset, .unset, .unset] [(.int (((p3.toUInt32 >>> ((4 : Int32) &&& 31).toUInt32).toInt32) &&& (3 : Int32)))])) _
      refine XS.iconst X0.here hx rfl (hb hby at_44) ?_
      show Steps p.tables e below (s₁.setTop (mkF m 45 #[.val (.int p0), .val (.int p1), .val (.int p2), .val (.int p3), .val (.int p4), .val (.int (0 : Int32)), .val (.int i172), .val (.int i173), .val (.int i174), .val (.int i175), .unset, .unset, .unset, .unset, .unset, .unset, .unset, .unset] [(.int (3 : Int32)), (.int (((p3.toUInt32 >>> ((4 : Int32) &&& 31).toUInt32).toInt32) &&& (3 : Int32)))])) _
      refine iremM X0 hx rfl (hb hby at_45) rfl (by decide) ?_
      rw [← hi176]
      show Steps p.tables e below (s₁.setTop (mkF m 46 #[.val (.int p0), .val (.int p1), .val (.int p2), .val (.int p3), .val (.int p4), .val (.int (0 : Int32)), .val (.int i172), .val (.int i173), .val (.int i174), .val (.int i175), .unset, .unset, .unset, .unset, .unset, .unset, .unset, .unset] [(.int i176)])) _
      refine XS.istore X0.here hx rfl (hb hby at_46) rfl (l' := #[.val (.int p0), .val (.int p1), .val (.int p2), .val (.int p3), .val (.int p4), .val (.int (0 : Int32)), .val (.int i172), .val (.int i173), .val (.int i174), .val (.int i175), .val (.int i176), .unset, .unset, .unset, .unset, .unset, .unset, .unset]) rfl ?_
      show Steps p.tables e below (s₁.setTop (mkF m 48 #[.val (.int p0), .val (.int p1), .val (.int p2), .val (.int p3), .val (.int p4), .val (.int (0 : Int32)), .val (.int i172), .val (.int i173), .val (.int i174), .val (.int i175), .val (.int i176), .unset, .unset, .unset, .unset, .unset, .unset, .unset] [])) _
      refine XS.iloadN X0.here hx rfl (hb hby at_48) rfl ?_
      show Steps p.tables e below (s₁.setTop (mkF m 49 #[.val (.int p0), .val (.int p1), .val (.int p2), .val (.int p3), .val (.int p4), .val (.int (0 : Int32)), .val (.int i172), .val (.int i173), .val (.int i174), .val (.int i175), .val (.int i176), .unset, .unset, .unset, .unset, .unset, .unset, .unset] [(.int p3)])) _
      refine XS.bipush X0.here hx rfl (hb hby at_49) ?_
      show Steps p.tables e below (s₁.setTop (mkF m 51 #[.val (.int p0), .val (.int p1), .val (.int p2), .val (.int p3), .val (.int p4), .val (.int (0 : Int32)), .val (.int i172), .val (.int i173), .val (.int i174), .val (.int i175), .val (.int i176), .unset, .unset, .unset, .unset, .unset, .unset, .unset] [(.int (6 : Int32)), (.int p3)])) _
      refine XS.iushr X0.here hx rfl (hb hby at_51) rfl ?_
      show Steps p.tables e below (s₁.setTop (mkF m 52 #[.val (.int p0), .val (.int p1), .val (.int p2), .val (.int p3), .val (.int p4), .val (.int (0 : Int32)), .val (.int i172), .val (.int i173), .val (.int i174), .val (.int i175), .val (.int i176), .unset, .unset, .unset, .unset, .unset, .unset, .unset] [(.int ((p3.toUInt32 >>> ((6 : Int32) &&& 31).toUInt32).toInt32))])) _
      refine XS.iconst X0.here hx rfl (hb hby at_52) ?_
      show Steps p.tables e below (s₁.setTop (mkF m 53 #[.val (.int p0), .val (.int p1), .val (.int p2), .val (.int p3), .val (.int p4), .val (.int (0 : Int32)), .val (.int i172), .val (.int i173), .val (.int i174), .val (.int i175), .val (.int i176), .unset, .unset, .unset, .unset, .unset, .unset, .unset] [(.int (3 : Int32)), (.int ((p3.toUInt32 >>> ((6 : Int32) &&& 31).toUInt32).toInt32))])) _
      refine XS.iand X0.here hx rfl (hb hby at_53) rfl ?_
      show Steps p.tables e below (s₁.setTop (mkF m 54 #[.val (.int p0), .val (.int p1), .val (.int p2), .val (.int p3), .val (.int p4), .val (.int (0 : Int32)), .val (.int i172), .val (.int i173), .val (.int i174), .val (.int i175), .val (.int i176), .unset, .unset, .unset, .unset, .unset, .unset, .unset] [(.int (((p3.toUInt32 >>> ((6 : Int32) &&& 31).toUInt32).toInt32) &&& (3 : Int32)))])) _
      refine XS.iconst X0.here hx rfl (hb hby at_54) ?_
      show Steps p.tables e below (s₁.setTop (mkF m 55 #[.val (.int p0), .val (.int p1), .val (.int p2), .val (.int p3), .val (.int p4), .val (.int (0 : Int32)), .val (.int i172), .val (.int i173), .val (.int i174), .val (.int i175), .val (.int i176), .unset, .unset, .unset, .unset, .unset, .unset, .unset] [(.int (3 : Int32)), (.int (((p3.toUInt32 >>> ((6 : Int32) &&& 31).toUInt32).toInt32) &&& (3 : Int32)))])) _
      refine iremM X0 hx rfl (hb hby at_55) rfl (by decide) ?_
      rw [← hi177]
      show Steps p.tables e below (s₁.setTop (mkF m 56 #[.val (.int p0), .val (.int p1), .val (.int p2), .val (.int p3), .val (.int p4), .val (.int (0 : Int32)), .val (.int i172), .val (.int i173), .val (.int i174), .val (.int i175), .val (.int i176), .unset, .unset, .unset, .unset, .unset, .unset, .unset] [(.int i177)])) _
      refine XS.istore X0.here hx rfl (hb hby at_56) rfl (l' := #[.val (.int p0), .val (.int p1), .val (.int p2), .val (.int p3), .val (.int p4), .val (.int (0 : Int32)), .val (.int i172), .val (.int i173), .val (.int i174), .val (.int i175), .val (.int i176), .val (.int i177), .unset, .unset, .unset, .unset, .unset, .unset]) rfl ?_
      show Steps p.tables e below (s₁.setTop (mkF m 58 #[.val (.int p0), .val (.int p1), .val (.int p2), .val (.int p3), .val (.int p4), .val (.int (0 : Int32)), .val (.int i172), .val (.int i173), .val (.int i174), .val (.int i175), .val (.int i176), .val (.int i177), .unset, .unset, .unset, .unset, .unset, .unset] [])) _
      refine XS.iloadN X0.here hx rfl (hb hby at_58) rfl ?_
      show Steps p.tables e below (s₁.setTop (mkF m 59 #[.val (.int p0), .val (.int p1), .val (.int p2), .val (.int p3), .val (.int p4), .val (.int (0 : Int32)), .val (.int i172), .val (.int i173), .val (.int i174), .val (.int i175), .val (.int i176), .val (.int i177), .unset, .unset, .unset, .unset, .unset, .unset] [(.int p3)])) _
      refine XS.bipush X0.here hx rfl (hb hby at_59) ?_
      show Steps p.tables e below (s₁.setTop (mkF m 61 #[.val (.int p0), .val (.int p1), .val (.int p2), .val (.int p3), .val (.int p4), .val (.int (0 : Int32)), .val (.int i172), .val (.int i173), .val (.int i174), .val (.int i175), .val (.int i176), .val (.int i177), .unset, .unset, .unset, .unset, .unset, .unset] [(.int (8 : Int32)), (.int p3)])) _
      refine XS.iushr X0.here hx rfl (hb hby at_61) rfl ?_
      show Steps p.tables e below (s₁.setTop (mkF m 62 #[.val (.int p0), .val (.int p1), .val (.int p2), .val (.int p3), .val (.int p4), .val (.int (0 : Int32)), .val (.int i172), .val (.int i173), .val (.int i174), .val (.int i175), .val (.int i176), .val (.int i177), .unset, .unset, .unset, .unset, .unset, .unset] [(.int ((p3.toUInt32 >>> ((8 : Int32) &&& 31).toUInt32).toInt32))])) _
      refine XS.iconst X0.here hx rfl (hb hby at_62) ?_
      show Steps p.tables e below (s₁.setTop (mkF m 63 #[.val (.int p0), .val (.int p1), .val (.int p2), .val (.int p3), .val (.int p4), .val (.int (0 : Int32)), .val (.int i172), .val (.int i173), .val (.int i174), .val (.int i175), .val (.int i176), .val (.int i177), .unset, .unset, .unset, .unset, .unset, .unset] [(.int (3 : Int32)), (.int ((p3.toUInt32 >>> ((8 : Int32) &&& 31).toUInt32).toInt32))])) _
      refine XS.iand X0.here hx rfl (hb hby at_63) rfl ?_
      show Steps p.tables e below (s₁.setTop (mkF m 64 #[.val (.int p0), .val (.int p1), .val (.int p2), .val (.int p3), .val (.int p4), .val (.int (0 : Int32)), .val (.int i172), .val (.int i173), .val (.int i174), .val (.int i175), .val (.int i176), .val (.int i177), .unset, .unset, .unset, .unset, .unset, .unset] [(.int (((p3.toUInt32 >>> ((8 : Int32) &&& 31).toUInt32).toInt32) &&& (3 : Int32)))])) _
      refine XS.iconst X0.here hx rfl (hb hby at_64) ?_
      show Steps p.tables e below (s₁.setTop (mkF m 65 #[.val (.int p0), .val (.int p1), .val (.int p2), .val (.int p3), .val (.int p4), .val (.int (0 : Int32)), .val (.int i172), .val (.int i173), .val (.int i174), .val (.int i175), .val (.int i176), .val (.int i177), .unset, .unset, .unset, .unset, .unset, .unset] [(.int (3 : Int32)), (.int (((p3.toUInt32 >>> ((8 : Int32) &&& 31).toUInt32).toInt32) &&& (3 : Int32)))])) _
      refine iremM X0 hx rfl (hb hby at_65) rfl (by decide) ?_
      rw [← hi178]
      show Steps p.tables e below (s₁.setTop (mkF m 66 #[.val (.int p0), .val (.int p1), .val (.int p2), .val (.int p3), .val (.int p4), .val (.int (0 : Int32)), .val (.int i172), .val (.int i173), .val (.int i174), .val (.int i175), .val (.int i176), .val (.int i177), .unset, .unset, .unset, .unset, .unset, .unset] [(.int i178)])) _
      refine XS.istore X0.here hx rfl (hb hby at_66) rfl (l' := #[.val (.int p0), .val (.int p1), .val (.int p2), .val (.int p3), .val (.int p4), .val (.int (0 : Int32)), .val (.int i172), .val (.int i173), .val (.int i174), .val (.int i175), .val (.int i176), .val (.int i177), .val (.int i178), .unset, .unset, .unset, .unset, .unset]) rfl ?_
      show Steps p.tables e below (s₁.setTop (mkF m 68 #[.val (.int p0), .val (.int p1), .val (.int p2), .val (.int p3), .val (.int p4), .val (.int (0 : Int32)), .val (.int i172), .val (.int i173), .val (.int i174), .val (.int i175), .val (.int i176), .val (.int i177), .val (.int i178), .unset, .unset, .unset, .unset, .unset] [])) _
      refine st179 _ ?_
      show Steps p.tables e below (T179.setTop (mkF m 71 #[.val (.int p0), .val (.int p1), .val (.int p2), .val (.int p3), .val (.int p4), .val (.int (0 : Int32)), .val (.int i172), .val (.int i173), .val (.int i174), .val (.int i175), .val (.int i176), .val (.int i177), .val (.int i178), .unset, .unset, .unset, .unset, .unset] [(.ref b179)])) _
      refine XS.dup X179.here hx rfl (hb hby at_71) rfl rfl ?_
      show Steps p.tables e below (T179.setTop (mkF m 72 #[.val (.int p0), .val (.int p1), .val (.int p2), .val (.int p3), .val (.int p4), .val (.int (0 : Int32)), .val (.int i172), .val (.int i173), .val (.int i174), .val (.int i175), .val (.int i176), .val (.int i177), .val (.int i178), .unset, .unset, .unset, .unset, .unset] [(.ref b179), (.ref b179)])) _
      refine st180.trans ?_
      show Steps p.tables e below (T180.setTop (mkF m 75 #[.val (.int p0), .val (.int p1), .val (.int p2), .val (.int p3), .val (.int p4), .val (.int (0 : Int32)), .val (.int i172), .val (.int i173), .val (.int i174), .val (.int i175), .val (.int i176), .val (.int i177), .val (.int i178), .unset, .unset, .unset, .unset, .unset] [(.ref b179)])) _
      refine XS.astore X180.here hx rfl (hb hby at_75) rfl rfl (l' := #[.val (.int p0), .val (.int p1), .val (.int p2), .val (.int p3), .val (.int p4), .val (.int (0 : Int32)), .val (.int i172), .val (.int i173), .val (.int i174), .val (.int i175), .val (.int i176), .val (.int i177), .val (.int i178), .val (.ref b179), .unset, .unset, .unset, .unset]) rfl ?_
      show Steps p.tables e below (T180.setTop (mkF m 77 #[.val (.int p0), .val (.int p1), .val (.int p2), .val (.int p3), .val (.int p4), .val (.int (0 : Int32)), .val (.int i172), .val (.int i173), .val (.int i174), .val (.int i175), .val (.int i176), .val (.int i177), .val (.int i178), .val (.ref b179), .unset, .unset, .unset, .unset] [])) _
      refine XS.iload X180.here hx rfl (hb hby at_77) rfl ?_
      show Steps p.tables e below (T180.setTop (mkF m 79 #[.val (.int p0), .val (.int p1), .val (.int p2), .val (.int p3), .val (.int p4), .val (.int (0 : Int32)), .val (.int i172), .val (.int i173), .val (.int i174), .val (.int i175), .val (.int i176), .val (.int i177), .val (.int i178), .val (.ref b179), .unset, .unset, .unset, .unset] [(.int p4)])) _
      refine XS.iconst X180.here hx rfl (hb hby at_79) ?_
      show Steps p.tables e below (T180.setTop (mkF m 80 #[.val (.int p0), .val (.int p1), .val (.int p2), .val (.int p3), .val (.int p4), .val (.int (0 : Int32)), .val (.int i172), .val (.int i173), .val (.int i174), .val (.int i175), .val (.int i176), .val (.int i177), .val (.int i178), .val (.ref b179), .unset, .unset, .unset, .unset] [(.int (1 : Int32)), (.int p4)])) _
      refine XS.iand X180.here hx rfl (hb hby at_80) rfl ?_
      exact kt)
    by_cases hc185 : (p4 &&& (1 : Int32)) = (0 : Int32)
    · obtain ⟨i186, hi186⟩ : ∃ z, z = (((31 : Int32) * i172) + i175) := ⟨_, rfl⟩
      obtain ⟨i187, hi187⟩ : ∃ z, z = (((31 : Int32) * i173) + i176) := ⟨_, rfl⟩
      obtain ⟨i188, hi188⟩ : ∃ z, z = (((31 : Int32) * i174) + i177) := ⟨_, rfl⟩
      obtain ⟨cq189, kq189, q189a, q189b, q189c⟩ := isOf hZ rfl E_b179_180
      obtain ⟨_, _, ⟨T189, L189, k189, n189⟩, -, X189, ⟨Lc189, hQ189, l189, y189, z189⟩, st189⟩ := X180.virtualBack hx (y := (⟨"com/example/rippletide/rippletide/model/StateChanges", "hashCode", "()I"⟩ : MethodName)) (z := (⟨"com/example/rippletide/rippletide/model/StateChanges", "hashCode", "()I"⟩ : MethodName)) hown (mvT hZ (hw _ (List.mem_of_getElem? (i := 38) rfl))) (mvT hZ (hw _ (List.mem_of_getElem? (i := 39) rfl))) (notFace_of_selects (args := #[]) (mvT hZ (hw _ (List.mem_of_getElem? (i := 41) rfl)))) (mvT hZ (hw _ (List.mem_of_getElem? (i := 41) rfl))) (mvT hZ (hw _ (List.mem_of_getElem? (i := 40) rfl))) (by decide) (backOf (W := 0) (rm8 l Z a0 hw [] b179 b_vertices_180 k_vertices_180 (0 : Int32) (0 : Int32) (0 : Int32) b_states_180 k_states_180 (0 : Int32) (0 : Int32) (0 : Int32) wSUSCEPTIBLE wRECOVERED wINFECTED h0 T180.heap n0 (Nat.le_trans Z0 KK180.1) W0 EX180 Zs ⟨E_b179_180, g_b179_180, G_b179_vertices_180, G_b179_states_180, G_b179_count_180, g_b179_vertices_180, ne_b179_vertices_180, V_b179_vertices_180, g_b179_states_180, ne_b179_states_180, V_b179_states_180, nn_b179_vertices_states_180, trivial⟩ ) hZ (hw _ (List.mem_of_getElem? (i := 42) rfl)) (hw _ (List.mem_of_getElem? (i := 2) rfl)) (by decide) (by decide)) q189a q189c (g := (mkF m 260 #[.val (.int p0), .val (.int p1), .val (.int p2), .val (.int p3), .val (.int p4), .val (.int (0 : Int32)), .val (.int i172), .val (.int i173), .val (.int i174), .val (.int i175), .val (.int i176), .val (.int i177), .val (.int i178), .val (.ref b179), .val (.int i186), .val (.int i187), .val (.int i188), .val (.int (1 : Int32))] [(.ref b179)])) rfl (by rw [hml]; rfl) (Steps.refl _) (argsL := []) (rest := []) (lenOf pd_0 rfl) rfl (by show 2 * 0 + _ ≤ _; exact Nat.le_of_eq rfl) (hb hby at_260) (fun _ _ => ⟨rfl, rfl, (by decide : 3 + 0 ≤ _), (by decide : 35 + 0 ≤ _)⟩)
      dsimp only [Pt.U, Pt.locs, Pt.cells, Pt.slots] at X189 l189 y189 z189 st189 hQ189
      subst l189 y189 z189
      unfold Q8 at hQ189
      have k190 : ∀ t, Steps p.tables e below (T180.setTop (mkF m 260 #[.val (.int p0), .val (.int p1), .val (.int p2), .val (.int p3), .val (.int p4), .val (.int (0 : Int32)), .val (.int i172), .val (.int i173), .val (.int i174), .val (.int i175), .val (.int i176), .val (.int i177), .val (.int i178), .val (.ref b179), .val (.int i186), .val (.int i187), .val (.int i188), .val (.int (1 : Int32))] [(.ref b179)])) t → Steps p.tables e below (s₁.setTop (entryFrame m #[(.int p0), (.int p1), (.int p2), (.int p3), (.int p4)] maxLocals)) t := fun t kt => k184 t (by
        show Steps p.tables e below (T180.setTop (mkF m 81 #[.val (.int p0), .val (.int p1), .val (.int p2), .val (.int p3), .val (.int p4), .val (.int (0 : Int32)), .val (.int i172), .val (.int i173), .val (.int i174), .val (.int i175), .val (.int i176), .val (.int i177), .val (.int i178), .val (.ref b179), .unset, .unset, .unset, .unset] [(.int (p4 &&& (1 : Int32)))])) _
        refine XS.ifYes X180.here hx rfl (pc0 := 81) (pc' := 103) rfl (hb hby at_81) rfl ((if0 _ _).trans (teq (hc185 : (p4 &&& (1 : Int32)) = (0 : Int32))).1) (by decide) (by decide) ?_
        show Steps p.tables e below (T180.setTop (mkF m 103 #[.val (.int p0), .val (.int p1), .val (.int p2), .val (.int p3), .val (.int p4), .val (.int (0 : Int32)), .val (.int i172), .val (.int i173), .val (.int i174), .val (.int i175), .val (.int i176), .val (.int i177), .val (.int i178), .val (.ref b179), .unset, .unset, .unset, .unset] [])) _
        refine XS.iload X180.here hx rfl (hb hby at_103) rfl ?_
        show Steps p.tables e below (T180.setTop (mkF m 105 #[.val (.int p0), .val (.int p1), .val (.int p2), .val (.int p3), .val (.int p4), .val (.int (0 : Int32)), .val (.int i172), .val (.int i173), .val (.int i174), .val (.int i175), .val (.int i176), .val (.int i177), .val (.int i178), .val (.ref b179), .unset, .unset, .unset, .unset] [(.int (0 : Int32))])) _
        refine XS.iconst X180.here hx rfl (hb hby at_105) ?_
        show Steps p.tables e below (T180.setTop (mkF m 106 #[.val (.int p0), .val (.int p1), .val (.int p2), .val (.int p3), .val (.int p4), .val (.int (0 : Int32)), .val (.int i172), .val (.int i173), .val (.int i174), .val (.int i175), .val (.int i176), .val (.int i177), .val (.int i178), .val (.ref b179), .unset, .unset, .unset, .unset] [(.int (1 : Int32)), (.int (0 : Int32))])) _
        refine XS.icmpYes X180.here hx rfl (pc0 := 106) (pc' := 121) rfl (hb hby at_106) rfl (tlt ((by decide) : (0 : Int32) < (1 : Int32))).1 (by decide) (by decide) ?_
        show Steps p.tables e below (T180.setTop (mkF m 121 #[.val (.int p0), .val (.int p1), .val (.int p2), .val (.int p3), .val (.int p4), .val (.int (0 : Int32)), .val (.int i172), .val (.int i173), .val (.int i174), .val (.int i175), .val (.int i176), .val (.int i177), .val (.int i178), .val (.ref b179), .unset, .unset, .unset, .unset] [])) _
        refine XS.iload X180.here hx rfl (hb hby at_121) rfl ?_
        show Steps p.tables e below (T180.setTop (mkF m 123 #[.val (.int p0), .val (.int p1), .val (.int p2), .val (.int p3), .val (.int p4), .val (.int (0 : Int32)), .val (.int i172), .val (.int i173), .val (.int i174), .val (.int i175), .val (.int i176), .val (.int i177), .val (.int i178), .val (.ref b179), .unset, .unset, .unset, .unset] [(.int (0 : Int32))])) _
        refine XS.iconst X180.here hx rfl (hb hby at_123) ?_
        show Steps p.tables e below (T180.setTop (mkF m 124 #[.val (.int p0), .val (.int p1), .val (.int p2), .val (.int p3), .val (.int p4), .val (.int (0 : Int32)), .val (.int i172), .val (.int i173), .val (.int i174), .val (.int i175), .val (.int i176), .val (.int i177), .val (.int i178), .val (.ref b179), .unset, .unset, .unset, .unset] [(.int (2 : Int32)), (.int (0 : Int32))])) _
        refine XS.icmpYes X180.here hx rfl (pc0 := 124) (pc' := 139) rfl (hb hby at_124) rfl (tlt ((by decide) : (0 : Int32) < (2 : Int32))).1 (by decide) (by decide) ?_
        show Steps p.tables e below (T180.setTop (mkF m 139 #[.val (.int p0), .val (.int p1), .val (.int p2), .val (.int p3), .val (.int p4), .val (.int (0 : Int32)), .val (.int i172), .val (.int i173), .val (.int i174), .val (.int i175), .val (.int i176), .val (.int i177), .val (.int i178), .val (.ref b179), .unset, .unset, .unset, .unset] [])) _
        refine XS.iload X180.here hx rfl (hb hby at_139) rfl ?_
        show Steps p.tables e below (T180.setTop (mkF m 141 #[.val (.int p0), .val (.int p1), .val (.int p2), .val (.int p3), .val (.int p4), .val (.int (0 : Int32)), .val (.int i172), .val (.int i173), .val (.int i174), .val (.int i175), .val (.int i176), .val (.int i177), .val (.int i178), .val (.ref b179), .unset, .unset, .unset, .unset] [(.int (0 : Int32))])) _
        refine XS.iconst X180.here hx rfl (hb hby at_141) ?_
        show Steps p.tables e below (T180.setTop (mkF m 142 #[.val (.int p0), .val (.int p1), .val (.int p2), .val (.int p3), .val (.int p4), .val (.int (0 : Int32)), .val (.int i172), .val (.int i173), .val (.int i174), .val (.int i175), .val (.int i176), .val (.int i177), .val (.int i178), .val (.ref b179), .unset, .unset, .unset, .unset] [(.int (3 : Int32)), (.int (0 : Int32))])) _
        refine XS.icmpYes X180.here hx rfl (pc0 := 142) (pc' := 157) rfl (hb hby at_142) rfl (tlt ((by decide) : (0 : Int32) < (3 : Int32))).1 (by decide) (by decide) ?_
        show Steps p.tables e below (T180.setTop (mkF m 157 #[.val (.int p0), .val (.int p1), .val (.int p2), .val (.int p3), .val (.int p4), .val (.int (0 : Int32)), .val (.int i172), .val (.int i173), .val (.int i174), .val (.int i175), .val (.int i176), .val (.int i177), .val (.int i178), .val (.ref b179), .unset, .unset, .unset, .unset] [])) _
        refine XS.bipush X180.here hx rfl (hb hby at_157) ?_
        show Steps p.tables e below (T180.setTop (mkF m 159 #[.val (.int p0), .val (.int p1), .val (.int p2), .val (.int p3), .val (.int p4), .val (.int (0 : Int32)), .val (.int i172), .val (.int i173), .val (.int i174), .val (.int i175), .val (.int i176), .val (.int i177), .val (.int i178), .val (.ref b179), .unset, .unset, .unset, .unset] [(.int (31 : Int32))])) _
        refine XS.iload X180.here hx rfl (hb hby at_159) rfl ?_
        show Steps p.tables e below (T180.setTop (mkF m 161 #[.val (.int p0), .val (.int p1), .val (.int p2), .val (.int p3), .val (.int p4), .val (.int (0 : Int32)), .val (.int i172), .val (.int i173), .val (.int i174), .val (.int i175), .val (.int i176), .val (.int i177), .val (.int i178), .val (.ref b179), .unset, .unset, .unset, .unset] [(.int i172), (.int (31 : Int32))])) _
        refine XS.imul X180.here hx rfl (hb hby at_161) rfl ?_
        show Steps p.tables e below (T180.setTop (mkF m 162 #[.val (.int p0), .val (.int p1), .val (.int p2), .val (.int p3), .val (.int p4), .val (.int (0 : Int32)), .val (.int i172), .val (.int i173), .val (.int i174), .val (.int i175), .val (.int i176), .val (.int i177), .val (.int i178), .val (.ref b179), .unset, .unset, .unset, .unset] [(.int ((31 : Int32) * i172))])) _
        refine XS.iload X180.here hx rfl (hb hby at_162) rfl ?_
        show Steps p.tables e below (T180.setTop (mkF m 164 #[.val (.int p0), .val (.int p1), .val (.int p2), .val (.int p3), .val (.int p4), .val (.int (0 : Int32)), .val (.int i172), .val (.int i173), .val (.int i174), .val (.int i175), .val (.int i176), .val (.int i177), .val (.int i178), .val (.ref b179), .unset, .unset, .unset, .unset] [(.int i175), (.int ((31 : Int32) * i172))])) _
        refine XS.iadd X180.here hx rfl (hb hby at_164) rfl ?_
        rw [← hi186]
        show Steps p.tables e below (T180.setTop (mkF m 165 #[.val (.int p0), .val (.int p1), .val (.int p2), .val (.int p3), .val (.int p4), .val (.int (0 : Int32)), .val (.int i172), .val (.int i173), .val (.int i174), .val (.int i175), .val (.int i176), .val (.int i177), .val (.int i178), .val (.ref b179), .unset, .unset, .unset, .unset] [(.int i186)])) _
        refine XS.istore X180.here hx rfl (hb hby at_165) rfl (l' := #[.val (.int p0), .val (.int p1), .val (.int p2), .val (.int p3), .val (.int p4), .val (.int (0 : Int32)), .val (.int i172), .val (.int i173), .val (.int i174), .val (.int i175), .val (.int i176), .val (.int i177), .val (.int i178), .val (.ref b179), .val (.int i186), .unset, .unset, .unset]) rfl ?_
        show Steps p.tables e below (T180.setTop (mkF m 167 #[.val (.int p0), .val (.int p1), .val (.int p2), .val (.int p3), .val (.int p4), .val (.int (0 : Int32)), .val (.int i172), .val (.int i173), .val (.int i174), .val (.int i175), .val (.int i176), .val (.int i177), .val (.int i178), .val (.ref b179), .val (.int i186), .unset, .unset, .unset] [])) _
        refine XS.bipush X180.here hx rfl (hb hby at_167) ?_
        show Steps p.tables e below (T180.setTop (mkF m 169 #[.val (.int p0), .val (.int p1), .val (.int p2), .val (.int p3), .val (.int p4), .val (.int (0 : Int32)), .val (.int i172), .val (.int i173), .val (.int i174), .val (.int i175), .val (.int i176), .val (.int i177), .val (.int i178), .val (.ref b179), .val (.int i186), .unset, .unset, .unset] [(.int (31 : Int32))])) _
        refine XS.iload X180.here hx rfl (hb hby at_169) rfl ?_
        show Steps p.tables e below (T180.setTop (mkF m 171 #[.val (.int p0), .val (.int p1), .val (.int p2), .val (.int p3), .val (.int p4), .val (.int (0 : Int32)), .val (.int i172), .val (.int i173), .val (.int i174), .val (.int i175), .val (.int i176), .val (.int i177), .val (.int i178), .val (.ref b179), .val (.int i186), .unset, .unset, .unset] [(.int i173), (.int (31 : Int32))])) _
        refine XS.imul X180.here hx rfl (hb hby at_171) rfl ?_
        show Steps p.tables e below (T180.setTop (mkF m 172 #[.val (.int p0), .val (.int p1), .val (.int p2), .val (.int p3), .val (.int p4), .val (.int (0 : Int32)), .val (.int i172), .val (.int i173), .val (.int i174), .val (.int i175), .val (.int i176), .val (.int i177), .val (.int i178), .val (.ref b179), .val (.int i186), .unset, .unset, .unset] [(.int ((31 : Int32) * i173))])) _
        refine XS.iload X180.here hx rfl (hb hby at_172) rfl ?_
        show Steps p.tables e below (T180.setTop (mkF m 174 #[.val (.int p0), .val (.int p1), .val (.int p2), .val (.int p3), .val (.int p4), .val (.int (0 : Int32)), .val (.int i172), .val (.int i173), .val (.int i174), .val (.int i175), .val (.int i176), .val (.int i177), .val (.int i178), .val (.ref b179), .val (.int i186), .unset, .unset, .unset] [(.int i176), (.int ((31 : Int32) * i173))])) _
        refine XS.iadd X180.here hx rfl (hb hby at_174) rfl ?_
        rw [← hi187]
        show Steps p.tables e below (T180.setTop (mkF m 175 #[.val (.int p0), .val (.int p1), .val (.int p2), .val (.int p3), .val (.int p4), .val (.int (0 : Int32)), .val (.int i172), .val (.int i173), .val (.int i174), .val (.int i175), .val (.int i176), .val (.int i177), .val (.int i178), .val (.ref b179), .val (.int i186), .unset, .unset, .unset] [(.int i187)])) _
        refine XS.istore X180.here hx rfl (hb hby at_175) rfl (l' := #[.val (.int p0), .val (.int p1), .val (.int p2), .val (.int p3), .val (.int p4), .val (.int (0 : Int32)), .val (.int i172), .val (.int i173), .val (.int i174), .val (.int i175), .val (.int i176), .val (.int i177), .val (.int i178), .val (.ref b179), .val (.int i186), .val (.int i187), .unset, .unset]) rfl ?_
        show Steps p.tables e below (T180.setTop (mkF m 177 #[.val (.int p0), .val (.int p1), .val (.int p2), .val (.int p3), .val (.int p4), .val (.int (0 : Int32)), .val (.int i172), .val (.int i173), .val (.int i174), .val (.int i175), .val (.int i176), .val (.int i177), .val (.int i178), .val (.ref b179), .val (.int i186), .val (.int i187), .unset, .unset] [])) _
        refine XS.bipush X180.here hx rfl (hb hby at_177) ?_
        show Steps p.tables e below (T180.setTop (mkF m 179 #[.val (.int p0), .val (.int p1), .val (.int p2), .val (.int p3), .val (.int p4), .val (.int (0 : Int32)), .val (.int i172), .val (.int i173), .val (.int i174), .val (.int i175), .val (.int i176), .val (.int i177), .val (.int i178), .val (.ref b179), .val (.int i186), .val (.int i187), .unset, .unset] [(.int (31 : Int32))])) _
        refine XS.iload X180.here hx rfl (hb hby at_179) rfl ?_
        show Steps p.tables e below (T180.setTop (mkF m 181 #[.val (.int p0), .val (.int p1), .val (.int p2), .val (.int p3), .val (.int p4), .val (.int (0 : Int32)), .val (.int i172), .val (.int i173), .val (.int i174), .val (.int i175), .val (.int i176), .val (.int i177), .val (.int i178), .val (.ref b179), .val (.int i186), .val (.int i187), .unset, .unset] [(.int i174), (.int (31 : Int32))])) _
        refine XS.imul X180.here hx rfl (hb hby at_181) rfl ?_
        show Steps p.tables e below (T180.setTop (mkF m 182 #[.val (.int p0), .val (.int p1), .val (.int p2), .val (.int p3), .val (.int p4), .val (.int (0 : Int32)), .val (.int i172), .val (.int i173), .val (.int i174), .val (.int i175), .val (.int i176), .val (.int i177), .val (.int i178), .val (.ref b179), .val (.int i186), .val (.int i187), .unset, .unset] [(.int ((31 : Int32) * i174))])) _
        refine XS.iload X180.here hx rfl (hb hby at_182) rfl ?_
        show Steps p.tables e below (T180.setTop (mkF m 184 #[.val (.int p0), .val (.int p1), .val (.int p2), .val (.int p3), .val (.int p4), .val (.int (0 : Int32)), .val (.int i172), .val (.int i173), .val (.int i174), .val (.int i175), .val (.int i176), .val (.int i177), .val (.int i178), .val (.ref b179), .val (.int i186), .val (.int i187), .unset, .unset] [(.int i177), (.int ((31 : Int32) * i174))])) _
        refine XS.iadd X180.here hx rfl (hb hby at_184) rfl ?_
        rw [← hi188]
        show Steps p.tables e below (T180.setTop (mkF m 185 #[.val (.int p0), .val (.int p1), .val (.int p2), .val (.int p3), .val (.int p4), .val (.int (0 : Int32)), .val (.int i172), .val (.int i173), .val (.int i174), .val (.int i175), .val (.int i176), .val (.int i177), .val (.int i178), .val (.ref b179), .val (.int i186), .val (.int i187), .unset, .unset] [(.int i188)])) _
        refine XS.istore X180.here hx rfl (hb hby at_185) rfl (l' := #[.val (.int p0), .val (.int p1), .val (.int p2), .val (.int p3), .val (.int p4), .val (.int (0 : Int32)), .val (.int i172), .val (.int i173), .val (.int i174), .val (.int i175), .val (.int i176), .val (.int i177), .val (.int i178), .val (.ref b179), .val (.int i186), .val (.int i187), .val (.int i188), .unset]) rfl ?_
        show Steps p.tables e below (T180.setTop (mkF m 187 #[.val (.int p0), .val (.int p1), .val (.int p2), .val (.int p3), .val (.int p4), .val (.int (0 : Int32)), .val (.int i172), .val (.int i173), .val (.int i174), .val (.int i175), .val (.int i176), .val (.int i177), .val (.int i178), .val (.ref b179), .val (.int i186), .val (.int i187), .val (.int i188), .unset] [])) _
        refine XS.iload X180.here hx rfl (hb hby at_187) rfl ?_
        show Steps p.tables e below (T180.setTop (mkF m 189 #[.val (.int p0), .val (.int p1), .val (.int p2), .val (.int p3), .val (.int p4), .val (.int (0 : Int32)), .val (.int i172), .val (.int i173), .val (.int i174), .val (.int i175), .val (.int i176), .val (.int i177), .val (.int i178), .val (.ref b179), .val (.int i186), .val (.int i187), .val (.int i188), .unset] [(.int (0 : Int32))])) _
        refine XS.ifNo X180.here hx rfl (hb hby at_189) rfl ((if0 _ _).trans (teq (rfl : (0 : Int32) = (0 : Int32))).2) ?_
        show Steps p.tables e below (T180.setTop (mkF m 192 #[.val (.int p0), .val (.int p1), .val (.int p2), .val (.int p3), .val (.int p4), .val (.int (0 : Int32)), .val (.int i172), .val (.int i173), .val (.int i174), .val (.int i175), .val (.int i176), .val (.int i177), .val (.int i178), .val (.ref b179), .val (.int i186), .val (.int i187), .val (.int i188), .unset] [])) _
        refine XS.iconst X180.here hx rfl (hb hby at_192) ?_
        show Steps p.tables e below (T180.setTop (mkF m 193 #[.val (.int p0), .val (.int p1), .val (.int p2), .val (.int p3), .val (.int p4), .val (.int (0 : Int32)), .val (.int i172), .val (.int i173), .val (.int i174), .val (.int i175), .val (.int i176), .val (.int i177), .val (.int i178), .val (.ref b179), .val (.int i186), .val (.int i187), .val (.int i188), .unset] [(.int (1 : Int32))])) _
        refine XS.istore X180.here hx rfl (hb hby at_193) rfl (l' := #[.val (.int p0), .val (.int p1), .val (.int p2), .val (.int p3), .val (.int p4), .val (.int (0 : Int32)), .val (.int i172), .val (.int i173), .val (.int i174), .val (.int i175), .val (.int i176), .val (.int i177), .val (.int i178), .val (.ref b179), .val (.int i186), .val (.int i187), .val (.int i188), .val (.int (1 : Int32))]) rfl ?_
        show Steps p.tables e below (T180.setTop (mkF m 195 #[.val (.int p0), .val (.int p1), .val (.int p2), .val (.int p3), .val (.int p4), .val (.int (0 : Int32)), .val (.int i172), .val (.int i173), .val (.int i174), .val (.int i175), .val (.int i176), .val (.int i177), .val (.int i178), .val (.ref b179), .val (.int i186), .val (.int i187), .val (.int i188), .val (.int (1 : Int32))] [])) _
        refine XS.goto X180.here hx rfl (pc0 := 195) (pc' := 258) rfl (hb hby at_195) (by decide) (by decide) ?_
        show Steps p.tables e below (T180.setTop (mkF m 258 #[.val (.int p0), .val (.int p1), .val (.int p2), .val (.int p3), .val (.int p4), .val (.int (0 : Int32)), .val (.int i172), .val (.int i173), .val (.int i174), .val (.int i175), .val (.int i176), .val (.int i177), .val (.int i178), .val (.ref b179), .val (.int i186), .val (.int i187), .val (.int i188), .val (.int (1 : Int32))] [])) _
        refine XS.aload X180.here hx rfl (hb hby at_258) rfl rfl ?_
        exact kt)
      rw [((by rw [f8]) : (f8 b179 b_vertices_180 k_vertices_180 (0 : Int32) (0 : Int32) (0 : Int32) b_states_180 k_states_180 (0 : Int32) (0 : Int32) (0 : Int32) wSUSCEPTIBLE wRECOVERED wINFECTED) = (1 : Int32))] at hQ189
      obtain ⟨rfl, N189q, e189⟩ := hQ189
      have N189 := Fr.app N180 N189q
      obtain ⟨cq191, kq191, q191a, q191b, q191c⟩ := isOf hZ e189 E_b179_180
      obtain ⟨_, _, ⟨T191, L191, k191, n191⟩, -, X191, ⟨Lc191, hQ191, l191, y191, z191⟩, st191⟩ := X189.virtualBack hx (y := (⟨"com/example/rippletide/rippletide/model/StateChanges", "count", "()I"⟩ : MethodName)) (z := (⟨"com/example/rippletide/rippletide/model/StateChanges", "count", "()I"⟩ : MethodName)) hown (mvT hZ (hw _ (List.mem_of_getElem? (i := 43) rfl))) (mvT hZ (hw _ (List.mem_of_getElem? (i := 44) rfl))) (notFace_of_selects (args := #[]) (mvT hZ (hw _ (List.mem_of_getElem? (i := 46) rfl)))) (mvT hZ (hw _ (List.mem_of_getElem? (i := 46) rfl))) (mvT hZ (hw _ (List.mem_of_getElem? (i := 45) rfl))) (by decide) (backOf (W := 0) (rm12 l Z a0 hw [] b179 b_vertices_180 k_vertices_180 (0 : Int32) (0 : Int32) (0 : Int32) b_states_180 k_states_180 (0 : Int32) (0 : Int32) (0 : Int32) (0 : Int32) wSUSCEPTIBLE wRECOVERED wINFECTED h0 T180.heap n0 (Nat.le_trans Z0 KK180.1) W0 EX180 Zs ⟨E_b179_180, g_b179_180, G_b179_vertices_180, G_b179_states_180, G_b179_count_180, g_b179_vertices_180, ne_b179_vertices_180, V_b179_vertices_180, g_b179_states_180, ne_b179_states_180, V_b179_states_180, nn_b179_vertices_states_180, trivial⟩ ) hZ (hw _ (List.mem_of_getElem? (i := 47) rfl)) (hw _ (List.mem_of_getElem? (i := 2) rfl)) (by decide) (by decide)) q191a q191c (g := (mkF m 270 #[.val (.int p0), .val (.int p1), .val (.int p2), .val (.int p3), .val (.int p4), .val (.int (0 : Int32)), .val (.int i172), .val (.int i173), .val (.int i174), .val (.int i175), .val (.int i176), .val (.int i177), .val (.int i178), .val (.ref b179), .val (.int i186), .val (.int i187), .val (.int i188), .val (.int (1 : Int32))] [(.ref b179)])) rfl (by rw [hml]; rfl) (Steps.refl _) (argsL := []) (rest := []) (lenOf pd_0 rfl) rfl (by show 2 * 0 + _ ≤ _; exact Nat.le_of_eq rfl) (hb hby at_270) (fun _ _ => ⟨rfl, e189, (by decide : 3 + 0 ≤ _), (by decide : 35 + 0 ≤ _)⟩)
      dsimp only [Pt.U, Pt.locs, Pt.cells, Pt.slots] at X191 l191 y191 z191 st191 hQ191
      subst l191 y191 z191
      unfold Q12 at hQ191
      have k192 : ∀ t, Steps p.tables e below (T189.setTop (mkF m 270 #[.val (.int p0), .val (.int p1), .val (.int p2), .val (.int p3), .val (.int p4), .val (.int (0 : Int32)), .val (.int i172), .val (.int i173), .val (.int i174), .val (.int i175), .val (.int i176), .val (.int i177), .val (.int i178), .val (.ref b179), .val (.int i186), .val (.int i187), .val (.int i188), .val (.int (1 : Int32))] [(.ref b179)])) t → Steps p.tables e below (s₁.setTop (entryFrame m #[(.int p0), (.int p1), (.int p2), (.int p3), (.int p4)] maxLocals)) t := fun t kt => k190 t (by
        show Steps p.tables e below (T180.setTop (mkF m 260 #[.val (.int p0), .val (.int p1), .val (.int p2), .val (.int p3), .val (.int p4), .val (.int (0 : Int32)), .val (.int i172), .val (.int i173), .val (.int i174), .val (.int i175), .val (.int i176), .val (.int i177), .val (.int i178), .val (.ref b179), .val (.int i186), .val (.int i187), .val (.int i188), .val (.int (1 : Int32))] [(.ref b179)])) _
        refine st189.trans ?_
        show Steps p.tables e below (T189.setTop (mkF m 263 #[.val (.int p0), .val (.int p1), .val (.int p2), .val (.int p3), .val (.int p4), .val (.int (0 : Int32)), .val (.int i172), .val (.int i173), .val (.int i174), .val (.int i175), .val (.int i176), .val (.int i177), .val (.int i178), .val (.ref b179), .val (.int i186), .val (.int i187), .val (.int i188), .val (.int (1 : Int32))] [(.int (1 : Int32))])) _
        refine XS.iload X189.here hx rfl (hb hby at_263) rfl ?_
        show Steps p.tables e below (T189.setTop (mkF m 265 #[.val (.int p0), .val (.int p1), .val (.int p2), .val (.int p3), .val (.int p4), .val (.int (0 : Int32)), .val (.int i172), .val (.int i173), .val (.int i174), .val (.int i175), .val (.int i176), .val (.int i177), .val (.int i178), .val (.ref b179), .val (.int i186), .val (.int i187), .val (.int i188), .val (.int (1 : Int32))] [(.int (1 : Int32)), (.int (1 : Int32))])) _
        refine XS.icmpNo X189.here hx rfl (hb hby at_265) rfl (teq (rfl : (1 : Int32) = (1 : Int32))).2 ?_
        show Steps p.tables e below (T189.setTop (mkF m 268 #[.val (.int p0), .val (.int p1), .val (.int p2), .val (.int p3), .val (.int p4), .val (.int (0 : Int32)), .val (.int i172), .val (.int i173), .val (.int i174), .val (.int i175), .val (.int i176), .val (.int i177), .val (.int i178), .val (.ref b179), .val (.int i186), .val (.int i187), .val (.int i188), .val (.int (1 : Int32))] [])) _
        refine XS.aload X189.here hx rfl (hb hby at_268) rfl rfl ?_
        exact kt)
      rw [((by rw [f12]) : (f12 b179 b_vertices_180 k_vertices_180 (0 : Int32) (0 : Int32) (0 : Int32) b_states_180 k_states_180 (0 : Int32) (0 : Int32) (0 : Int32) (0 : Int32) wSUSCEPTIBLE wRECOVERED wINFECTED) = (0 : Int32))] at hQ191
      obtain ⟨rfl, N191q, e191⟩ := hQ191
      have N191 := Fr.app N189 N191q
      obtain ⟨fs, hr, hrun, hended, hW, hsame⟩ := X191.leave (v := some (.int (1 : Int32))) (fun h => by rw [Bd.returns] at h; cases h)
      refine ⟨_, _, k192 _ ?_, hrun, hended, _, _, rfl, ?_, ⟨_, rfl⟩, hW, hsame.mono (by decide) (by decide)⟩
      · show Steps p.tables e below (T189.setTop (mkF m 270 #[.val (.int p0), .val (.int p1), .val (.int p2), .val (.int p3), .val (.int p4), .val (.int (0 : Int32)), .val (.int i172), .val (.int i173), .val (.int i174), .val (.int i175), .val (.int i176), .val (.int i177), .val (.int i178), .val (.ref b179), .val (.int i186), .val (.int i187), .val (.int i188), .val (.int (1 : Int32))] [(.ref b179)])) _
        refine st191.trans ?_
        show Steps p.tables e below (T191.setTop (mkF m 273 #[.val (.int p0), .val (.int p1), .val (.int p2), .val (.int p3), .val (.int p4), .val (.int (0 : Int32)), .val (.int i172), .val (.int i173), .val (.int i174), .val (.int i175), .val (.int i176), .val (.int i177), .val (.int i178), .val (.ref b179), .val (.int i186), .val (.int i187), .val (.int i188), .val (.int (1 : Int32))] [(.int (0 : Int32))])) _
        refine XS.iload X191.here hx rfl (hb hby at_273) rfl ?_
        show Steps p.tables e below (T191.setTop (mkF m 275 #[.val (.int p0), .val (.int p1), .val (.int p2), .val (.int p3), .val (.int p4), .val (.int (0 : Int32)), .val (.int i172), .val (.int i173), .val (.int i174), .val (.int i175), .val (.int i176), .val (.int i177), .val (.int i178), .val (.ref b179), .val (.int i186), .val (.int i187), .val (.int i188), .val (.int (1 : Int32))] [(.int (0 : Int32)), (.int (0 : Int32))])) _
        refine XS.icmpNo X191.here hx rfl (hb hby at_275) rfl (teq (rfl : (0 : Int32) = (0 : Int32))).2 ?_
        show Steps p.tables e below (T191.setTop (mkF m 278 #[.val (.int p0), .val (.int p1), .val (.int p2), .val (.int p3), .val (.int p4), .val (.int (0 : Int32)), .val (.int i172), .val (.int i173), .val (.int i174), .val (.int i175), .val (.int i176), .val (.int i177), .val (.int i178), .val (.ref b179), .val (.int i186), .val (.int i187), .val (.int i188), .val (.int (1 : Int32))] [])) _
        refine XS.iconst X191.here hx rfl (hb hby at_278) ?_
        show Steps p.tables e below (T191.setTop (mkF m 279 #[.val (.int p0), .val (.int p1), .val (.int p2), .val (.int p3), .val (.int p4), .val (.int (0 : Int32)), .val (.int i172), .val (.int i173), .val (.int i174), .val (.int i175), .val (.int i176), .val (.int i177), .val (.int i178), .val (.ref b179), .val (.int i186), .val (.int i187), .val (.int i188), .val (.int (1 : Int32))] [(.int (1 : Int32))])) _
        refine XS.goto X191.here hx rfl (pc0 := 279) (pc' := 283) rfl (hb hby at_279) (by decide) (by decide) ?_
        show Steps p.tables e below (T191.setTop (mkF m 283 #[.val (.int p0), .val (.int p1), .val (.int p2), .val (.int p3), .val (.int p4), .val (.int (0 : Int32)), .val (.int i172), .val (.int i173), .val (.int i174), .val (.int i175), .val (.int i176), .val (.int i177), .val (.int i178), .val (.ref b179), .val (.int i186), .val (.int i187), .val (.int i188), .val (.int (1 : Int32))] [(.int (1 : Int32))])) _
        exact retN X191 hx (t := .boolean) Bd.returns (by simp) (hb hby at_283) hr
      · show Q0 Z p0 p1 p2 p3 p4 wSUSCEPTIBLE wRECOVERED wINFECTED h0 n0 _ T191.heap _
        rw [e191]
        exact ⟨rfl, N191⟩
    · obtain ⟨_, _, ⟨T193, L193, k193, n193⟩, -, X193, ⟨Lc193, hQ193, l193, y193, z193⟩, st193⟩ := Jvm.LawKit.callS X180 hx (y := (⟨"com/example/rippletide/rippletide/model/StateChangesHashCodePinLaw", "state", "(I)Lcom/example/rippletide/rippletide/model/State;"⟩ : MethodName)) hown (mvT hZ (hw _ (List.mem_of_getElem? (i := 15) rfl))) (mvT hZ (hw _ (List.mem_of_getElem? (i := 16) rfl))) (mvT hZ (hw _ (List.mem_of_getElem? (i := 17) rfl))) (mvT hZ (hw _ (List.mem_of_getElem? (i := 18) rfl))) (by decide) (backOf (W := 2) (rm1 l Z a0 hw [] i178 wSUSCEPTIBLE wRECOVERED wINFECTED T180.heap n0 (Nat.le_trans Z0 KK180.1) (W0.ext EX180) ) hZ (hw _ (List.mem_of_getElem? (i := 18) rfl)) (hw _ (List.mem_of_getElem? (i := 17) rfl)) (by decide) (by decide)) (g := (mkF m 92 #[.val (.int p0), .val (.int p1), .val (.int p2), .val (.int p3), .val (.int p4), .val (.int (0 : Int32)), .val (.int i172), .val (.int i173), .val (.int i174), .val (.int i175), .val (.int i176), .val (.int i177), .val (.int i178), .val (.ref b179), .unset, .unset, .unset, .unset] [(.int i178), (.int ((p4.toUInt32 >>> ((1 : Int32) &&& 31).toUInt32).toInt32)), (.ref b179)])) rfl (by rw [hml]; rfl) (argsL := [(.int i178)]) (rest := [(.int ((p4.toUInt32 >>> ((1 : Int32) &&& 31).toUInt32).toInt32)), (.ref b179)]) (lenOf pd_2 rfl) rfl (by show 2 * 0 + _ ≤ _; exact Nat.le_of_eq rfl) (hb hby at_92) (fun _ _ => ⟨rfl, rfl, (by decide : 3 + 0 ≤ _), (by decide : 35 + 0 ≤ _)⟩)
      dsimp only [Pt.U, Pt.locs, Pt.cells, Pt.slots] at X193 l193 y193 z193 st193 hQ193
      subst l193 y193 z193
      unfold Q1 at hQ193
      have k194 : ∀ t, Steps p.tables e below (T180.setTop (mkF m 92 #[.val (.int p0), .val (.int p1), .val (.int p2), .val (.int p3), .val (.int p4), .val (.int (0 : Int32)), .val (.int i172), .val (.int i173), .val (.int i174), .val (.int i175), .val (.int i176), .val (.int i177), .val (.int i178), .val (.ref b179), .unset, .unset, .unset, .unset] [(.int i178), (.int ((p4.toUInt32 >>> ((1 : Int32) &&& 31).toUInt32).toInt32)), (.ref b179)])) t → Steps p.tables e below (s₁.setTop (entryFrame m #[(.int p0), (.int p1), (.int p2), (.int p3), (.int p4)] maxLocals)) t := fun t kt => k184 t (by
        show Steps p.tables e below (T180.setTop (mkF m 81 #[.val (.int p0), .val (.int p1), .val (.int p2), .val (.int p3), .val (.int p4), .val (.int (0 : Int32)), .val (.int i172), .val (.int i173), .val (.int i174), .val (.int i175), .val (.int i176), .val (.int i177), .val (.int i178), .val (.ref b179), .unset, .unset, .unset, .unset] [(.int (p4 &&& (1 : Int32)))])) _
        refine XS.ifNo X180.here hx rfl (hb hby at_81) rfl ((if0 _ _).trans (feq (hc185 : ¬ ((p4 &&& (1 : Int32)) = (0 : Int32)))).1) ?_
        show Steps p.tables e below (T180.setTop (mkF m 84 #[.val (.int p0), .val (.int p1), .val (.int p2), .val (.int p3), .val (.int p4), .val (.int (0 : Int32)), .val (.int i172), .val (.int i173), .val (.int i174), .val (.int i175), .val (.int i176), .val (.int i177), .val (.int i178), .val (.ref b179), .unset, .unset, .unset, .unset] [])) _
        refine XS.aload X180.here hx rfl (hb hby at_84) rfl rfl ?_
        show Steps p.tables e below (T180.setTop (mkF m 86 #[.val (.int p0), .val (.int p1), .val (.int p2), .val (.int p3), .val (.int p4), .val (.int (0 : Int32)), .val (.int i172), .val (.int i173), .val (.int i174), .val (.int i175), .val (.int i176), .val (.int i177), .val (.int i178), .val (.ref b179), .unset, .unset, .unset, .unset] [(.ref b179)])) _
        refine XS.iload X180.here hx rfl (hb hby at_86) rfl ?_
        show Steps p.tables e below (T180.setTop (mkF m 88 #[.val (.int p0), .val (.int p1), .val (.int p2), .val (.int p3), .val (.int p4), .val (.int (0 : Int32)), .val (.int i172), .val (.int i173), .val (.int i174), .val (.int i175), .val (.int i176), .val (.int i177), .val (.int i178), .val (.ref b179), .unset, .unset, .unset, .unset] [(.int p4), (.ref b179)])) _
        refine XS.iconst X180.here hx rfl (hb hby at_88) ?_
        show Steps p.tables e below (T180.setTop (mkF m 89 #[.val (.int p0), .val (.int p1), .val (.int p2), .val (.int p3), .val (.int p4), .val (.int (0 : Int32)), .val (.int i172), .val (.int i173), .val (.int i174), .val (.int i175), .val (.int i176), .val (.int i177), .val (.int i178), .val (.ref b179), .unset, .unset, .unset, .unset] [(.int (1 : Int32)), (.int p4), (.ref b179)])) _
        refine XS.iushr X180.here hx rfl (hb hby at_89) rfl ?_
        show Steps p.tables e below (T180.setTop (mkF m 90 #[.val (.int p0), .val (.int p1), .val (.int p2), .val (.int p3), .val (.int p4), .val (.int (0 : Int32)), .val (.int i172), .val (.int i173), .val (.int i174), .val (.int i175), .val (.int i176), .val (.int i177), .val (.int i178), .val (.ref b179), .unset, .unset, .unset, .unset] [(.int ((p4.toUInt32 >>> ((1 : Int32) &&& 31).toUInt32).toInt32)), (.ref b179)])) _
        refine XS.iload X180.here hx rfl (hb hby at_90) rfl ?_
        exact kt)
      obtain ⟨r195, hr195⟩ : ∃ z, z = (f1 i178 wSUSCEPTIBLE wRECOVERED wINFECTED) := ⟨_, rfl⟩
      rw [← hr195] at hQ193
      obtain ⟨rfl, N193q, e193⟩ := hQ193
      have N193 := Fr.app N180 N193q
      have PFr195 := own_state W0 (own_cs3 hi178)
      rw [← hr195] at PFr195
      obtain ⟨E_r195, F_r195⟩ := PFr195
      obtain ⟨cq196, kq196, q196a, q196b, q196c⟩ := isOf hZ e193 E_b179_180
      obtain ⟨_, _, ⟨T196, L196, k196, n196⟩, -, X196, ⟨Lc196, hQ196, l196, y196, z196⟩, st196⟩ := X193.virtualBack hx (y := (⟨"com/example/rippletide/rippletide/model/StateChanges", "add", "(ILcom/example/rippletide/rippletide/model/State;)V"⟩ : MethodName)) (z := (⟨"com/example/rippletide/rippletide/model/StateChanges", "add", "(ILcom/example/rippletide/rippletide/model/State;)V"⟩ : MethodName)) hown (mvT hZ (hw _ (List.mem_of_getElem? (i := 22) rfl))) (mvT hZ (hw _ (List.mem_of_getElem? (i := 23) rfl))) (notFace_of_selects (args := #[]) (mvT hZ (hw _ (List.mem_of_getElem? (i := 25) rfl)))) (mvT hZ (hw _ (List.mem_of_getElem? (i := 25) rfl))) (mvT hZ (hw _ (List.mem_of_getElem? (i := 24) rfl))) (by decide) (backOf (W := 0) (rm4 l Z a0 hw [] b179 ((p4.toUInt32 >>> ((1 : Int32) &&& 31).toUInt32).toInt32) r195 b_vertices_180 k_vertices_180 (0 : Int32) (0 : Int32) (0 : Int32) b_states_180 k_states_180 (0 : Int32) (0 : Int32) (0 : Int32) i178 wSUSCEPTIBLE wRECOVERED wINFECTED h0 T180.heap n0 (Nat.le_trans Z0 KK180.1) W0 EX180 Zs ⟨E_b179_180, g_b179_180, G_b179_vertices_180, G_b179_states_180, G_b179_count_180, g_b179_vertices_180, ne_b179_vertices_180, V_b179_vertices_180, g_b179_states_180, ne_b179_states_180, V_b179_states_180, nn_b179_vertices_states_180, trivial⟩ F_r195 E_r195 (own_nn (n := 1) (by decide) (by decide) (by decide))) hZ (hw _ (List.mem_of_getElem? (i := 26) rfl)) (hw _ (List.mem_of_getElem? (i := 2) rfl)) (by decide) (by decide)) q196a q196c (g := (mkF m 95 #[.val (.int p0), .val (.int p1), .val (.int p2), .val (.int p3), .val (.int p4), .val (.int (0 : Int32)), .val (.int i172), .val (.int i173), .val (.int i174), .val (.int i175), .val (.int i176), .val (.int i177), .val (.int i178), .val (.ref b179), .unset, .unset, .unset, .unset] [(.ref r195), (.int ((p4.toUInt32 >>> ((1 : Int32) &&& 31).toUInt32).toInt32)), (.ref b179)])) rfl (by rw [hml]; rfl) (Steps.refl _) (argsL := [(.int ((p4.toUInt32 >>> ((1 : Int32) &&& 31).toUInt32).toInt32)), (.ref r195)]) (rest := []) (lenOf pd_3 rfl) rfl (by show 2 * 0 + _ ≤ _; exact Nat.le_of_eq rfl) (hb hby at_95) (fun _ _ => ⟨rfl, e193, (by decide : 3 + 0 ≤ _), (by decide : 35 + 0 ≤ _)⟩)
      dsimp only [Pt.U, Pt.locs, Pt.cells, Pt.slots] at X196 l196 y196 z196 st196 hQ196
      subst l196 y196 z196
      unfold Q4 at hQ196
      have k197 : ∀ t, Steps p.tables e below (T193.setTop (mkF m 95 #[.val (.int p0), .val (.int p1), .val (.int p2), .val (.int p3), .val (.int p4), .val (.int (0 : Int32)), .val (.int i172), .val (.int i173), .val (.int i174), .val (.int i175), .val (.int i176), .val (.int i177), .val (.int i178), .val (.ref b179), .unset, .unset, .unset, .unset] [(.ref r195), (.int ((p4.toUInt32 >>> ((1 : Int32) &&& 31).toUInt32).toInt32)), (.ref b179)])) t → Steps p.tables e below (s₁.setTop (entryFrame m #[(.int p0), (.int p1), (.int p2), (.int p3), (.int p4)] maxLocals)) t := fun t kt => k194 t (by
        show Steps p.tables e below (T180.setTop (mkF m 92 #[.val (.int p0), .val (.int p1), .val (.int p2), .val (.int p3), .val (.int p4), .val (.int (0 : Int32)), .val (.int i172), .val (.int i173), .val (.int i174), .val (.int i175), .val (.int i176), .val (.int i177), .val (.int i178), .val (.ref b179), .unset, .unset, .unset, .unset] [(.int i178), (.int ((p4.toUInt32 >>> ((1 : Int32) &&& 31).toUInt32).toInt32)), (.ref b179)])) _
        refine st193 _ ?_
        exact kt)
      obtain ⟨rfl, N196q, EXc196, Kc196, OB196_p0⟩ := hQ196
      have N196 := Fr.app N193 N196q
      have EX196 : Ext h0 T196.heap := EXc196
      have KK196 : Keep h0 T196.heap ([] : List Addr) := Keep.trans KK180 Kc196 (allS (Or.inr (Nat.le_trans Zs g_b179_vertices_180)) (allS (Or.inr (Nat.le_trans Zs g_b179_states_180)) (allS (Or.inr (Nat.le_trans Zs g_b179_180)) all0)))
      have OBx196_p0 : Obj Z T196.heap n0 b179 b_vertices_180 k_vertices_180 ((p4.toUInt32 >>> ((1 : Int32) &&& 31).toUInt32).toInt32) (0 : Int32) (0 : Int32) b_states_180 k_states_180 (i178.toInt8.toInt32) (0 : Int32) (0 : Int32) (1 : Int32) := OB196_p0
      obtain ⟨E_b179_196, g_b179_196, G_b179_vertices_196, G_b179_states_196, G_b179_count_196, g_b179_vertices_196, ne_b179_vertices_196, V_b179_vertices_196, g_b179_states_196, ne_b179_states_196, V_b179_states_196, nn_b179_vertices_states_196, -⟩ := OBx196_p0
      obtain ⟨cq199, kq199, q199a, q199b, q199c⟩ := isOf hZ rfl E_b179_196
      obtain ⟨_, _, ⟨T199, L199, k199, n199⟩, -, X199, ⟨Lc199, hQ199, l199, y199, z199⟩, st199⟩ := X196.virtualBack hx (y := (⟨"com/example/rippletide/rippletide/model/StateChanges", "clear", "()V"⟩ : MethodName)) (z := (⟨"com/example/rippletide/rippletide/model/StateChanges", "clear", "()V"⟩ : MethodName)) hown (mvT hZ (hw _ (List.mem_of_getElem? (i := 48) rfl))) (mvT hZ (hw _ (List.mem_of_getElem? (i := 49) rfl))) (notFace_of_selects (args := #[]) (mvT hZ (hw _ (List.mem_of_getElem? (i := 51) rfl)))) (mvT hZ (hw _ (List.mem_of_getElem? (i := 51) rfl))) (mvT hZ (hw _ (List.mem_of_getElem? (i := 50) rfl))) (by decide) (backOf (W := 0) (rm7 l Z a0 hw [] b179 b_vertices_180 k_vertices_180 ((p4.toUInt32 >>> ((1 : Int32) &&& 31).toUInt32).toInt32) (0 : Int32) (0 : Int32) b_states_180 k_states_180 (i178.toInt8.toInt32) (0 : Int32) (0 : Int32) (1 : Int32) wSUSCEPTIBLE wRECOVERED wINFECTED h0 T196.heap n0 (Nat.le_trans Z0 KK196.1) W0 EX196 Zs ⟨E_b179_196, g_b179_196, G_b179_vertices_196, G_b179_states_196, G_b179_count_196, g_b179_vertices_196, ne_b179_vertices_196, V_b179_vertices_196, g_b179_states_196, ne_b179_states_196, V_b179_states_196, nn_b179_vertices_states_196, trivial⟩ ) hZ (hw _ (List.mem_of_getElem? (i := 52) rfl)) (hw _ (List.mem_of_getElem? (i := 2) rfl)) (by decide) (by decide)) q199a q199c (g := (mkF m 100 #[.val (.int p0), .val (.int p1), .val (.int p2), .val (.int p3), .val (.int p4), .val (.int (0 : Int32)), .val (.int i172), .val (.int i173), .val (.int i174), .val (.int i175), .val (.int i176), .val (.int i177), .val (.int i178), .val (.ref b179), .unset, .unset, .unset, .unset] [(.ref b179)])) rfl (by rw [hml]; rfl) (Steps.refl _) (argsL := []) (rest := []) (lenOf pd_1 rfl) rfl (by show 2 * 0 + _ ≤ _; exact Nat.le_of_eq rfl) (hb hby at_100) (fun _ _ => ⟨rfl, rfl, (by decide : 3 + 0 ≤ _), (by decide : 35 + 0 ≤ _)⟩)
      dsimp only [Pt.U, Pt.locs, Pt.cells, Pt.slots] at X199 l199 y199 z199 st199 hQ199
      subst l199 y199 z199
      unfold Q7 at hQ199
      have k200 : ∀ t, Steps p.tables e below (T196.setTop (mkF m 100 #[.val (.int p0), .val (.int p1), .val (.int p2), .val (.int p3), .val (.int p4), .val (.int (0 : Int32)), .val (.int i172), .val (.int i173), .val (.int i174), .val (.int i175), .val (.int i176), .val (.int i177), .val (.int i178), .val (.ref b179), .unset, .unset, .unset, .unset] [(.ref b179)])) t → Steps p.tables e below (s₁.setTop (entryFrame m #[(.int p0), (.int p1), (.int p2), (.int p3), (.int p4)] maxLocals)) t := fun t kt => k197 t (by
        show Steps p.tables e below (T193.setTop (mkF m 95 #[.val (.int p0), .val (.int p1), .val (.int p2), .val (.int p3), .val (.int p4), .val (.int (0 : Int32)), .val (.int i172), .val (.int i173), .val (.int i174), .val (.int i175), .val (.int i176), .val (.int i177), .val (.int i178), .val (.ref b179), .unset, .unset, .unset, .unset] [(.ref r195), (.int ((p4.toUInt32 >>> ((1 : Int32) &&& 31).toUInt32).toInt32)), (.ref b179)])) _
        refine st196.trans ?_
        show Steps p.tables e below (T196.setTop (mkF m 98 #[.val (.int p0), .val (.int p1), .val (.int p2), .val (.int p3), .val (.int p4), .val (.int (0 : Int32)), .val (.int i172), .val (.int i173), .val (.int i174), .val (.int i175), .val (.int i176), .val (.int i177), .val (.int i178), .val (.ref b179), .unset, .unset, .unset, .unset] [])) _
        refine XS.aload X196.here hx rfl (hb hby at_98) rfl rfl ?_
        exact kt)
      obtain ⟨rfl, N199q, EXc199, Kc199, OB199_p0⟩ := hQ199
      have N199 := Fr.app N196 N199q
      have EX199 : Ext h0 T199.heap := EXc199
      have KK199 : Keep h0 T199.heap ([] : List Addr) := Keep.trans KK196 Kc199 (allS (Or.inr (Nat.le_trans Zs g_b179_196)) all0)
      have OBx199_p0 : Obj Z T199.heap n0 b179 b_vertices_180 k_vertices_180 ((p4.toUInt32 >>> ((1 : Int32) &&& 31).toUInt32).toInt32) (0 : Int32) (0 : Int32) b_states_180 k_states_180 (i178.toInt8.toInt32) (0 : Int32) (0 : Int32) (0 : Int32) := OB199_p0
      obtain ⟨E_b179_199, g_b179_199, G_b179_vertices_199, G_b179_states_199, G_b179_count_199, g_b179_vertices_199, ne_b179_vertices_199, V_b179_vertices_199, g_b179_states_199, ne_b179_states_199, V_b179_states_199, nn_b179_vertices_states_199, -⟩ := OBx199_p0
      obtain ⟨i202, hi202⟩ : ∃ z, z = (((31 : Int32) * i172) + i175) := ⟨_, rfl⟩
      obtain ⟨i203, hi203⟩ : ∃ z, z = (((31 : Int32) * i173) + i176) := ⟨_, rfl⟩
      obtain ⟨i204, hi204⟩ : ∃ z, z = (((31 : Int32) * i174) + i177) := ⟨_, rfl⟩
      obtain ⟨cq205, kq205, q205a, q205b, q205c⟩ := isOf hZ rfl E_b179_199
      obtain ⟨_, _, ⟨T205, L205, k205, n205⟩, -, X205, ⟨Lc205, hQ205, l205, y205, z205⟩, st205⟩ := X199.virtualBack hx (y := (⟨"com/example/rippletide/rippletide/model/StateChanges", "hashCode", "()I"⟩ : MethodName)) (z := (⟨"com/example/rippletide/rippletide/model/StateChanges", "hashCode", "()I"⟩ : MethodName)) hown (mvT hZ (hw _ (List.mem_of_getElem? (i := 38) rfl))) (mvT hZ (hw _ (List.mem_of_getElem? (i := 39) rfl))) (notFace_of_selects (args := #[]) (mvT hZ (hw _ (List.mem_of_getElem? (i := 41) rfl)))) (mvT hZ (hw _ (List.mem_of_getElem? (i := 41) rfl))) (mvT hZ (hw _ (List.mem_of_getElem? (i := 40) rfl))) (by decide) (backOf (W := 0) (rm8 l Z a0 hw [] b179 b_vertices_180 k_vertices_180 ((p4.toUInt32 >>> ((1 : Int32) &&& 31).toUInt32).toInt32) (0 : Int32) (0 : Int32) b_states_180 k_states_180 (i178.toInt8.toInt32) (0 : Int32) (0 : Int32) wSUSCEPTIBLE wRECOVERED wINFECTED h0 T199.heap n0 (Nat.le_trans Z0 KK199.1) W0 EX199 Zs ⟨E_b179_199, g_b179_199, G_b179_vertices_199, G_b179_states_199, G_b179_count_199, g_b179_vertices_199, ne_b179_vertices_199, V_b179_vertices_199, g_b179_states_199, ne_b179_states_199, V_b179_states_199, nn_b179_vertices_states_199, trivial⟩ ) hZ (hw _ (List.mem_of_getElem? (i := 42) rfl)) (hw _ (List.mem_of_getElem? (i := 2) rfl)) (by decide) (by decide)) q205a q205c (g := (mkF m 260 #[.val (.int p0), .val (.int p1), .val (.int p2), .val (.int p3), .val (.int p4), .val (.int (0 : Int32)), .val (.int i172), .val (.int i173), .val (.int i174), .val (.int i175), .val (.int i176), .val (.int i177), .val (.int i178), .val (.ref b179), .val (.int i202), .val (.int i203), .val (.int i204), .val (.int (1 : Int32))] [(.ref b179)])) rfl (by rw [hml]; rfl) (Steps.refl _) (argsL := []) (rest := []) (lenOf pd_0 rfl) rfl (by show 2 * 0 + _ ≤ _; exact Nat.le_of_eq rfl) (hb hby at_260) (fun _ _ => ⟨rfl, rfl, (by decide : 3 + 0 ≤ _), (by decide : 35 + 0 ≤ _)⟩)
      dsimp only [Pt.U, Pt.locs, Pt.cells, Pt.slots] at X205 l205 y205 z205 st205 hQ205
      subst l205 y205 z205
      unfold Q8 at hQ205
      have k206 : ∀ t, Steps p.tables e below (T199.setTop (mkF m 260 #[.val (.int p0), .val (.int p1), .val (.int p2), .val (.int p3), .val (.int p4), .val (.int (0 : Int32)), .val (.int i172), .val (.int i173), .val (.int i174), .val (.int i175), .val (.int i176), .val (.int i177), .val (.int i178), .val (.ref b179), .val (.int i202), .val (.int i203), .val (.int i204), .val (.int (1 : Int32))] [(.ref b179)])) t → Steps p.tables e below (s₁.setTop (entryFrame m #[(.int p0), (.int p1), (.int p2), (.int p3), (.int p4)] maxLocals)) t := fun t kt => k200 t (by
        show Steps p.tables e below (T196.setTop (mkF m 100 #[.val (.int p0), .val (.int p1), .val (.int p2), .val (.int p3), .val (.int p4), .val (.int (0 : Int32)), .val (.int i172), .val (.int i173), .val (.int i174), .val (.int i175), .val (.int i176), .val (.int i177), .val (.int i178), .val (.ref b179), .unset, .unset, .unset, .unset] [(.ref b179)])) _
        refine st199.trans ?_
        show Steps p.tables e below (T199.setTop (mkF m 103 #[.val (.int p0), .val (.int p1), .val (.int p2), .val (.int p3), .val (.int p4), .val (.int (0 : Int32)), .val (.int i172), .val (.int i173), .val (.int i174), .val (.int i175), .val (.int i176), .val (.int i177), .val (.int i178), .val (.ref b179), .unset, .unset, .unset, .unset] [])) _
        refine XS.iload X199.here hx rfl (hb hby at_103) rfl ?_
        show Steps p.tables e below (T199.setTop (mkF m 105 #[.val (.int p0), .val (.int p1), .val (.int p2), .val (.int p3), .val (.int p4), .val (.int (0 : Int32)), .val (.int i172), .val (.int i173), .val (.int i174), .val (.int i175), .val (.int i176), .val (.int i177), .val (.int i178), .val (.ref b179), .unset, .unset, .unset, .unset] [(.int (0 : Int32))])) _
        refine XS.iconst X199.here hx rfl (hb hby at_105) ?_
        show Steps p.tables e below (T199.setTop (mkF m 106 #[.val (.int p0), .val (.int p1), .val (.int p2), .val (.int p3), .val (.int p4), .val (.int (0 : Int32)), .val (.int i172), .val (.int i173), .val (.int i174), .val (.int i175), .val (.int i176), .val (.int i177), .val (.int i178), .val (.ref b179), .unset, .unset, .unset, .unset] [(.int (1 : Int32)), (.int (0 : Int32))])) _
        refine XS.icmpYes X199.here hx rfl (pc0 := 106) (pc' := 121) rfl (hb hby at_106) rfl (tlt ((by decide) : (0 : Int32) < (1 : Int32))).1 (by decide) (by decide) ?_
        show Steps p.tables e below (T199.setTop (mkF m 121 #[.val (.int p0), .val (.int p1), .val (.int p2), .val (.int p3), .val (.int p4), .val (.int (0 : Int32)), .val (.int i172), .val (.int i173), .val (.int i174), .val (.int i175), .val (.int i176), .val (.int i177), .val (.int i178), .val (.ref b179), .unset, .unset, .unset, .unset] [])) _
        refine XS.iload X199.here hx rfl (hb hby at_121) rfl ?_
        show Steps p.tables e below (T199.setTop (mkF m 123 #[.val (.int p0), .val (.int p1), .val (.int p2), .val (.int p3), .val (.int p4), .val (.int (0 : Int32)), .val (.int i172), .val (.int i173), .val (.int i174), .val (.int i175), .val (.int i176), .val (.int i177), .val (.int i178), .val (.ref b179), .unset, .unset, .unset, .unset] [(.int (0 : Int32))])) _
        refine XS.iconst X199.here hx rfl (hb hby at_123) ?_
        show Steps p.tables e below (T199.setTop (mkF m 124 #[.val (.int p0), .val (.int p1), .val (.int p2), .val (.int p3), .val (.int p4), .val (.int (0 : Int32)), .val (.int i172), .val (.int i173), .val (.int i174), .val (.int i175), .val (.int i176), .val (.int i177), .val (.int i178), .val (.ref b179), .unset, .unset, .unset, .unset] [(.int (2 : Int32)), (.int (0 : Int32))])) _
        refine XS.icmpYes X199.here hx rfl (pc0 := 124) (pc' := 139) rfl (hb hby at_124) rfl (tlt ((by decide) : (0 : Int32) < (2 : Int32))).1 (by decide) (by decide) ?_
        show Steps p.tables e below (T199.setTop (mkF m 139 #[.val (.int p0), .val (.int p1), .val (.int p2), .val (.int p3), .val (.int p4), .val (.int (0 : Int32)), .val (.int i172), .val (.int i173), .val (.int i174), .val (.int i175), .val (.int i176), .val (.int i177), .val (.int i178), .val (.ref b179), .unset, .unset, .unset, .unset] [])) _
        refine XS.iload X199.here hx rfl (hb hby at_139) rfl ?_
        show Steps p.tables e below (T199.setTop (mkF m 141 #[.val (.int p0), .val (.int p1), .val (.int p2), .val (.int p3), .val (.int p4), .val (.int (0 : Int32)), .val (.int i172), .val (.int i173), .val (.int i174), .val (.int i175), .val (.int i176), .val (.int i177), .val (.int i178), .val (.ref b179), .unset, .unset, .unset, .unset] [(.int (0 : Int32))])) _
        refine XS.iconst X199.here hx rfl (hb hby at_141) ?_
        show Steps p.tables e below (T199.setTop (mkF m 142 #[.val (.int p0), .val (.int p1), .val (.int p2), .val (.int p3), .val (.int p4), .val (.int (0 : Int32)), .val (.int i172), .val (.int i173), .val (.int i174), .val (.int i175), .val (.int i176), .val (.int i177), .val (.int i178), .val (.ref b179), .unset, .unset, .unset, .unset] [(.int (3 : Int32)), (.int (0 : Int32))])) _
        refine XS.icmpYes X199.here hx rfl (pc0 := 142) (pc' := 157) rfl (hb hby at_142) rfl (tlt ((by decide) : (0 : Int32) < (3 : Int32))).1 (by decide) (by decide) ?_
        show Steps p.tables e below (T199.setTop (mkF m 157 #[.val (.int p0), .val (.int p1), .val (.int p2), .val (.int p3), .val (.int p4), .val (.int (0 : Int32)), .val (.int i172), .val (.int i173), .val (.int i174), .val (.int i175), .val (.int i176), .val (.int i177), .val (.int i178), .val (.ref b179), .unset, .unset, .unset, .unset] [])) _
        refine XS.bipush X199.here hx rfl (hb hby at_157) ?_
        show Steps p.tables e below (T199.setTop (mkF m 159 #[.val (.int p0), .val (.int p1), .val (.int p2), .val (.int p3), .val (.int p4), .val (.int (0 : Int32)), .val (.int i172), .val (.int i173), .val (.int i174), .val (.int i175), .val (.int i176), .val (.int i177), .val (.int i178), .val (.ref b179), .unset, .unset, .unset, .unset] [(.int (31 : Int32))])) _
        refine XS.iload X199.here hx rfl (hb hby at_159) rfl ?_
        show Steps p.tables e below (T199.setTop (mkF m 161 #[.val (.int p0), .val (.int p1), .val (.int p2), .val (.int p3), .val (.int p4), .val (.int (0 : Int32)), .val (.int i172), .val (.int i173), .val (.int i174), .val (.int i175), .val (.int i176), .val (.int i177), .val (.int i178), .val (.ref b179), .unset, .unset, .unset, .unset] [(.int i172), (.int (31 : Int32))])) _
        refine XS.imul X199.here hx rfl (hb hby at_161) rfl ?_
        show Steps p.tables e below (T199.setTop (mkF m 162 #[.val (.int p0), .val (.int p1), .val (.int p2), .val (.int p3), .val (.int p4), .val (.int (0 : Int32)), .val (.int i172), .val (.int i173), .val (.int i174), .val (.int i175), .val (.int i176), .val (.int i177), .val (.int i178), .val (.ref b179), .unset, .unset, .unset, .unset] [(.int ((31 : Int32) * i172))])) _
        refine XS.iload X199.here hx rfl (hb hby at_162) rfl ?_
        show Steps p.tables e below (T199.setTop (mkF m 164 #[.val (.int p0), .val (.int p1), .val (.int p2), .val (.int p3), .val (.int p4), .val (.int (0 : Int32)), .val (.int i172), .val (.int i173), .val (.int i174), .val (.int i175), .val (.int i176), .val (.int i177), .val (.int i178), .val (.ref b179), .unset, .unset, .unset, .unset] [(.int i175), (.int ((31 : Int32) * i172))])) _
        refine XS.iadd X199.here hx rfl (hb hby at_164) rfl ?_
        rw [← hi202]
        show Steps p.tables e below (T199.setTop (mkF m 165 #[.val (.int p0), .val (.int p1), .val (.int p2), .val (.int p3), .val (.int p4), .val (.int (0 : Int32)), .val (.int i172), .val (.int i173), .val (.int i174), .val (.int i175), .val (.int i176), .val (.int i177), .val (.int i178), .val (.ref b179), .unset, .unset, .unset, .unset] [(.int i202)])) _
        refine XS.istore X199.here hx rfl (hb hby at_165) rfl (l' := #[.val (.int p0), .val (.int p1), .val (.int p2), .val (.int p3), .val (.int p4), .val (.int (0 : Int32)), .val (.int i172), .val (.int i173), .val (.int i174), .val (.int i175), .val (.int i176), .val (.int i177), .val (.int i178), .val (.ref b179), .val (.int i202), .unset, .unset, .unset]) rfl ?_
        show Steps p.tables e below (T199.setTop (mkF m 167 #[.val (.int p0), .val (.int p1), .val (.int p2), .val (.int p3), .val (.int p4), .val (.int (0 : Int32)), .val (.int i172), .val (.int i173), .val (.int i174), .val (.int i175), .val (.int i176), .val (.int i177), .val (.int i178), .val (.ref b179), .val (.int i202), .unset, .unset, .unset] [])) _
        refine XS.bipush X199.here hx rfl (hb hby at_167) ?_
        show Steps p.tables e below (T199.setTop (mkF m 169 #[.val (.int p0), .val (.int p1), .val (.int p2), .val (.int p3), .val (.int p4), .val (.int (0 : Int32)), .val (.int i172), .val (.int i173), .val (.int i174), .val (.int i175), .val (.int i176), .val (.int i177), .val (.int i178), .val (.ref b179), .val (.int i202), .unset, .unset, .unset] [(.int (31 : Int32))])) _
        refine XS.iload X199.here hx rfl (hb hby at_169) rfl ?_
        show Steps p.tables e below (T199.setTop (mkF m 171 #[.val (.int p0), .val (.int p1), .val (.int p2), .val (.int p3), .val (.int p4), .val (.int (0 : Int32)), .val (.int i172), .val (.int i173), .val (.int i174), .val (.int i175), .val (.int i176), .val (.int i177), .val (.int i178), .val (.ref b179), .val (.int i202), .unset, .unset, .unset] [(.int i173), (.int (31 : Int32))])) _
        refine XS.imul X199.here hx rfl (hb hby at_171) rfl ?_
        show Steps p.tables e below (T199.setTop (mkF m 172 #[.val (.int p0), .val (.int p1), .val (.int p2), .val (.int p3), .val (.int p4), .val (.int (0 : Int32)), .val (.int i172), .val (.int i173), .val (.int i174), .val (.int i175), .val (.int i176), .val (.int i177), .val (.int i178), .val (.ref b179), .val (.int i202), .unset, .unset, .unset] [(.int ((31 : Int32) * i173))])) _
        refine XS.iload X199.here hx rfl (hb hby at_172) rfl ?_
        show Steps p.tables e below (T199.setTop (mkF m 174 #[.val (.int p0), .val (.int p1), .val (.int p2), .val (.int p3), .val (.int p4), .val (.int (0 : Int32)), .val (.int i172), .val (.int i173), .val (.int i174), .val (.int i175), .val (.int i176), .val (.int i177), .val (.int i178), .val (.ref b179), .val (.int i202), .unset, .unset, .unset] [(.int i176), (.int ((31 : Int32) * i173))])) _
        refine XS.iadd X199.here hx rfl (hb hby at_174) rfl ?_
        rw [← hi203]
        show Steps p.tables e below (T199.setTop (mkF m 175 #[.val (.int p0), .val (.int p1), .val (.int p2), .val (.int p3), .val (.int p4), .val (.int (0 : Int32)), .val (.int i172), .val (.int i173), .val (.int i174), .val (.int i175), .val (.int i176), .val (.int i177), .val (.int i178), .val (.ref b179), .val (.int i202), .unset, .unset, .unset] [(.int i203)])) _
        refine XS.istore X199.here hx rfl (hb hby at_175) rfl (l' := #[.val (.int p0), .val (.int p1), .val (.int p2), .val (.int p3), .val (.int p4), .val (.int (0 : Int32)), .val (.int i172), .val (.int i173), .val (.int i174), .val (.int i175), .val (.int i176), .val (.int i177), .val (.int i178), .val (.ref b179), .val (.int i202), .val (.int i203), .unset, .unset]) rfl ?_
        show Steps p.tables e below (T199.setTop (mkF m 177 #[.val (.int p0), .val (.int p1), .val (.int p2), .val (.int p3), .val (.int p4), .val (.int (0 : Int32)), .val (.int i172), .val (.int i173), .val (.int i174), .val (.int i175), .val (.int i176), .val (.int i177), .val (.int i178), .val (.ref b179), .val (.int i202), .val (.int i203), .unset, .unset] [])) _
        refine XS.bipush X199.here hx rfl (hb hby at_177) ?_
        show Steps p.tables e below (T199.setTop (mkF m 179 #[.val (.int p0), .val (.int p1), .val (.int p2), .val (.int p3), .val (.int p4), .val (.int (0 : Int32)), .val (.int i172), .val (.int i173), .val (.int i174), .val (.int i175), .val (.int i176), .val (.int i177), .val (.int i178), .val (.ref b179), .val (.int i202), .val (.int i203), .unset, .unset] [(.int (31 : Int32))])) _
        refine XS.iload X199.here hx rfl (hb hby at_179) rfl ?_
        show Steps p.tables e below (T199.setTop (mkF m 181 #[.val (.int p0), .val (.int p1), .val (.int p2), .val (.int p3), .val (.int p4), .val (.int (0 : Int32)), .val (.int i172), .val (.int i173), .val (.int i174), .val (.int i175), .val (.int i176), .val (.int i177), .val (.int i178), .val (.ref b179), .val (.int i202), .val (.int i203), .unset, .unset] [(.int i174), (.int (31 : Int32))])) _
        refine XS.imul X199.here hx rfl (hb hby at_181) rfl ?_
        show Steps p.tables e below (T199.setTop (mkF m 182 #[.val (.int p0), .val (.int p1), .val (.int p2), .val (.int p3), .val (.int p4), .val (.int (0 : Int32)), .val (.int i172), .val (.int i173), .val (.int i174), .val (.int i175), .val (.int i176), .val (.int i177), .val (.int i178), .val (.ref b179), .val (.int i202), .val (.int i203), .unset, .unset] [(.int ((31 : Int32) * i174))])) _
        refine XS.iload X199.here hx rfl (hb hby at_182) rfl ?_
        show Steps p.tables e below (T199.setTop (mkF m 184 #[.val (.int p0), .val (.int p1), .val (.int p2), .val (.int p3), .val (.int p4), .val (.int (0 : Int32)), .val (.int i172), .val (.int i173), .val (.int i174), .val (.int i175), .val (.int i176), .val (.int i177), .val (.int i178), .val (.ref b179), .val (.int i202), .val (.int i203), .unset, .unset] [(.int i177), (.int ((31 : Int32) * i174))])) _
        refine XS.iadd X199.here hx rfl (hb hby at_184) rfl ?_
        rw [← hi204]
        show Steps p.tables e below (T199.setTop (mkF m 185 #[.val (.int p0), .val (.int p1), .val (.int p2), .val (.int p3), .val (.int p4), .val (.int (0 : Int32)), .val (.int i172), .val (.int i173), .val (.int i174), .val (.int i175), .val (.int i176), .val (.int i177), .val (.int i178), .val (.ref b179), .val (.int i202), .val (.int i203), .unset, .unset] [(.int i204)])) _
        refine XS.istore X199.here hx rfl (hb hby at_185) rfl (l' := #[.val (.int p0), .val (.int p1), .val (.int p2), .val (.int p3), .val (.int p4), .val (.int (0 : Int32)), .val (.int i172), .val (.int i173), .val (.int i174), .val (.int i175), .val (.int i176), .val (.int i177), .val (.int i178), .val (.ref b179), .val (.int i202), .val (.int i203), .val (.int i204), .unset]) rfl ?_
        show Steps p.tables e below (T199.setTop (mkF m 187 #[.val (.int p0), .val (.int p1), .val (.int p2), .val (.int p3), .val (.int p4), .val (.int (0 : Int32)), .val (.int i172), .val (.int i173), .val (.int i174), .val (.int i175), .val (.int i176), .val (.int i177), .val (.int i178), .val (.ref b179), .val (.int i202), .val (.int i203), .val (.int i204), .unset] [])) _
        refine XS.iload X199.here hx rfl (hb hby at_187) rfl ?_
        show Steps p.tables e below (T199.setTop (mkF m 189 #[.val (.int p0), .val (.int p1), .val (.int p2), .val (.int p3), .val (.int p4), .val (.int (0 : Int32)), .val (.int i172), .val (.int i173), .val (.int i174), .val (.int i175), .val (.int i176), .val (.int i177), .val (.int i178), .val (.ref b179), .val (.int i202), .val (.int i203), .val (.int i204), .unset] [(.int (0 : Int32))])) _
        refine XS.ifNo X199.here hx rfl (hb hby at_189) rfl ((if0 _ _).trans (teq (rfl : (0 : Int32) = (0 : Int32))).2) ?_
        show Steps p.tables e below (T199.setTop (mkF m 192 #[.val (.int p0), .val (.int p1), .val (.int p2), .val (.int p3), .val (.int p4), .val (.int (0 : Int32)), .val (.int i172), .val (.int i173), .val (.int i174), .val (.int i175), .val (.int i176), .val (.int i177), .val (.int i178), .val (.ref b179), .val (.int i202), .val (.int i203), .val (.int i204), .unset] [])) _
        refine XS.iconst X199.here hx rfl (hb hby at_192) ?_
        show Steps p.tables e below (T199.setTop (mkF m 193 #[.val (.int p0), .val (.int p1), .val (.int p2), .val (.int p3), .val (.int p4), .val (.int (0 : Int32)), .val (.int i172), .val (.int i173), .val (.int i174), .val (.int i175), .val (.int i176), .val (.int i177), .val (.int i178), .val (.ref b179), .val (.int i202), .val (.int i203), .val (.int i204), .unset] [(.int (1 : Int32))])) _
        refine XS.istore X199.here hx rfl (hb hby at_193) rfl (l' := #[.val (.int p0), .val (.int p1), .val (.int p2), .val (.int p3), .val (.int p4), .val (.int (0 : Int32)), .val (.int i172), .val (.int i173), .val (.int i174), .val (.int i175), .val (.int i176), .val (.int i177), .val (.int i178), .val (.ref b179), .val (.int i202), .val (.int i203), .val (.int i204), .val (.int (1 : Int32))]) rfl ?_
        show Steps p.tables e below (T199.setTop (mkF m 195 #[.val (.int p0), .val (.int p1), .val (.int p2), .val (.int p3), .val (.int p4), .val (.int (0 : Int32)), .val (.int i172), .val (.int i173), .val (.int i174), .val (.int i175), .val (.int i176), .val (.int i177), .val (.int i178), .val (.ref b179), .val (.int i202), .val (.int i203), .val (.int i204), .val (.int (1 : Int32))] [])) _
        refine XS.goto X199.here hx rfl (pc0 := 195) (pc' := 258) rfl (hb hby at_195) (by decide) (by decide) ?_
        show Steps p.tables e below (T199.setTop (mkF m 258 #[.val (.int p0), .val (.int p1), .val (.int p2), .val (.int p3), .val (.int p4), .val (.int (0 : Int32)), .val (.int i172), .val (.int i173), .val (.int i174), .val (.int i175), .val (.int i176), .val (.int i177), .val (.int i178), .val (.ref b179), .val (.int i202), .val (.int i203), .val (.int i204), .val (.int (1 : Int32))] [])) _
        refine XS.aload X199.here hx rfl (hb hby at_258) rfl rfl ?_
        exact kt)
      rw [((by rw [f8]) : (f8 b179 b_vertices_180 k_vertices_180 ((p4.toUInt32 >>> ((1 : Int32) &&& 31).toUInt32).toInt32) (0 : Int32) (0 : Int32) b_states_180 k_states_180 (i178.toInt8.toInt32) (0 : Int32) (0 : Int32) wSUSCEPTIBLE wRECOVERED wINFECTED) = (1 : Int32))] at hQ205
      obtain ⟨rfl, N205q, e205⟩ := hQ205
      have N205 := Fr.app N199 N205q
      obtain ⟨cq207, kq207, q207a, q207b, q207c⟩ := isOf hZ e205 E_b179_199
      obtain ⟨_, _, ⟨T207, L207, k207, n207⟩, -, X207, ⟨Lc207, hQ207, l207, y207, z207⟩, st207⟩ := X205.virtualBack hx (y := (⟨"com/example/rippletide/rippletide/model/StateChanges", "count", "()I"⟩ : MethodName)) (z := (⟨"com/example/rippletide/rippletide/model/StateChanges", "count", "()I"⟩ : MethodName)) hown (mvT hZ (hw _ (List.mem_of_getElem? (i := 43) rfl))) (mvT hZ (hw _ (List.mem_of_getElem? (i := 44) rfl))) (notFace_of_selects (args := #[]) (mvT hZ (hw _ (List.mem_of_getElem? (i := 46) rfl)))) (mvT hZ (hw _ (List.mem_of_getElem? (i := 46) rfl))) (mvT hZ (hw _ (List.mem_of_getElem? (i := 45) rfl))) (by decide) (backOf (W := 0) (rm12 l Z a0 hw [] b179 b_vertices_180 k_vertices_180 ((p4.toUInt32 >>> ((1 : Int32) &&& 31).toUInt32).toInt32) (0 : Int32) (0 : Int32) b_states_180 k_states_180 (i178.toInt8.toInt32) (0 : Int32) (0 : Int32) (0 : Int32) wSUSCEPTIBLE wRECOVERED wINFECTED h0 T199.heap n0 (Nat.le_trans Z0 KK199.1) W0 EX199 Zs ⟨E_b179_199, g_b179_199, G_b179_vertices_199, G_b179_states_199, G_b179_count_199, g_b179_vertices_199, ne_b179_vertices_199, V_b179_vertices_199, g_b179_states_199, ne_b179_states_199, V_b179_states_199, nn_b179_vertices_states_199, trivial⟩ ) hZ (hw _ (List.mem_of_getElem? (i := 47) rfl)) (hw _ (List.mem_of_getElem? (i := 2) rfl)) (by decide) (by decide)) q207a q207c (g := (mkF m 270 #[.val (.int p0), .val (.int p1), .val (.int p2), .val (.int p3), .val (.int p4), .val (.int (0 : Int32)), .val (.int i172), .val (.int i173), .val (.int i174), .val (.int i175), .val (.int i176), .val (.int i177), .val (.int i178), .val (.ref b179), .val (.int i202), .val (.int i203), .val (.int i204), .val (.int (1 : Int32))] [(.ref b179)])) rfl (by rw [hml]; rfl) (Steps.refl _) (argsL := []) (rest := []) (lenOf pd_0 rfl) rfl (by show 2 * 0 + _ ≤ _; exact Nat.le_of_eq rfl) (hb hby at_270) (fun _ _ => ⟨rfl, e205, (by decide : 3 + 0 ≤ _), (by decide : 35 + 0 ≤ _)⟩)
      dsimp only [Pt.U, Pt.locs, Pt.cells, Pt.slots] at X207 l207 y207 z207 st207 hQ207
      subst l207 y207 z207
      unfold Q12 at hQ207
      have k208 : ∀ t, Steps p.tables e below (T205.setTop (mkF m 270 #[.val (.int p0), .val (.int p1), .val (.int p2), .val (.int p3), .val (.int p4), .val (.int (0 : Int32)), .val (.int i172), .val (.int i173), .val (.int i174), .val (.int i175), .val (.int i176), .val (.int i177), .val (.int i178), .val (.ref b179), .val (.int i202), .val (.int i203), .val (.int i204), .val (.int (1 : Int32))] [(.ref b179)])) t → Steps p.tables e below (s₁.setTop (entryFrame m #[(.int p0), (.int p1), (.int p2), (.int p3), (.int p4)] maxLocals)) t := fun t kt => k206 t (by
        show Steps p.tables e below (T199.setTop (mkF m 260 #[.val (.int p0), .val (.int p1), .val (.int p2), .val (.int p3), .val (.int p4), .val (.int (0 : Int32)), .val (.int i172), .val (.int i173), .val (.int i174), .val (.int i175), .val (.int i176), .val (.int i177), .val (.int i178), .val (.ref b179), .val (.int i202), .val (.int i203), .val (.int i204), .val (.int (1 : Int32))] [(.ref b179)])) _
        refine st205.trans ?_
        show Steps p.tables e below (T205.setTop (mkF m 263 #[.val (.int p0), .val (.int p1), .val (.int p2), .val (.int p3), .val (.int p4), .val (.int (0 : Int32)), .val (.int i172), .val (.int i173), .val (.int i174), .val (.int i175), .val (.int i176), .val (.int i177), .val (.int i178), .val (.ref b179), .val (.int i202), .val (.int i203), .val (.int i204), .val (.int (1 : Int32))] [(.int (1 : Int32))])) _
        refine XS.iload X205.here hx rfl (hb hby at_263) rfl ?_
        show Steps p.tables e below (T205.setTop (mkF m 265 #[.val (.int p0), .val (.int p1), .val (.int p2), .val (.int p3), .val (.int p4), .val (.int (0 : Int32)), .val (.int i172), .val (.int i173), .val (.int i174), .val (.int i175), .val (.int i176), .val (.int i177), .val (.int i178), .val (.ref b179), .val (.int i202), .val (.int i203), .val (.int i204), .val (.int (1 : Int32))] [(.int (1 : Int32)), (.int (1 : Int32))])) _
        refine XS.icmpNo X205.here hx rfl (hb hby at_265) rfl (teq (rfl : (1 : Int32) = (1 : Int32))).2 ?_
        show Steps p.tables e below (T205.setTop (mkF m 268 #[.val (.int p0), .val (.int p1), .val (.int p2), .val (.int p3), .val (.int p4), .val (.int (0 : Int32)), .val (.int i172), .val (.int i173), .val (.int i174), .val (.int i175), .val (.int i176), .val (.int i177), .val (.int i178), .val (.ref b179), .val (.int i202), .val (.int i203), .val (.int i204), .val (.int (1 : Int32))] [])) _
        refine XS.aload X205.here hx rfl (hb hby at_268) rfl rfl ?_
        exact kt)
      rw [((by rw [f12]) : (f12 b179 b_vertices_180 k_vertices_180 ((p4.toUInt32 >>> ((1 : Int32) &&& 31).toUInt32).toInt32) (0 : Int32) (0 : Int32) b_states_180 k_states_180 (i178.toInt8.toInt32) (0 : Int32) (0 : Int32) (0 : Int32) wSUSCEPTIBLE wRECOVERED wINFECTED) = (0 : Int32))] at hQ207
      obtain ⟨rfl, N207q, e207⟩ := hQ207
      have N207 := Fr.app N205 N207q
      obtain ⟨fs, hr, hrun, hended, hW, hsame⟩ := X207.leave (v := some (.int (1 : Int32))) (fun h => by rw [Bd.returns] at h; cases h)
      refine ⟨_, _, k208 _ ?_, hrun, hended, _, _, rfl, ?_, ⟨_, rfl⟩, hW, hsame.mono (by decide) (by decide)⟩
      · show Steps p.tables e below (T205.setTop (mkF m 270 #[.val (.int p0), .val (.int p1), .val (.int p2), .val (.int p3), .val (.int p4), .val (.int (0 : Int32)), .val (.int i172), .val (.int i173), .val (.int i174), .val (.int i175), .val (.int i176), .val (.int i177), .val (.int i178), .val (.ref b179), .val (.int i202), .val (.int i203), .val (.int i204), .val (.int (1 : Int32))] [(.ref b179)])) _
        refine st207.trans ?_
        show Steps p.tables e below (T207.setTop (mkF m 273 #[.val (.int p0), .val (.int p1), .val (.int p2), .val (.int p3), .val (.int p4), .val (.int (0 : Int32)), .val (.int i172), .val (.int i173), .val (.int i174), .val (.int i175), .val (.int i176), .val (.int i177), .val (.int i178), .val (.ref b179), .val (.int i202), .val (.int i203), .val (.int i204), .val (.int (1 : Int32))] [(.int (0 : Int32))])) _
        refine XS.iload X207.here hx rfl (hb hby at_273) rfl ?_
        show Steps p.tables e below (T207.setTop (mkF m 275 #[.val (.int p0), .val (.int p1), .val (.int p2), .val (.int p3), .val (.int p4), .val (.int (0 : Int32)), .val (.int i172), .val (.int i173), .val (.int i174), .val (.int i175), .val (.int i176), .val (.int i177), .val (.int i178), .val (.ref b179), .val (.int i202), .val (.int i203), .val (.int i204), .val (.int (1 : Int32))] [(.int (0 : Int32)), (.int (0 : Int32))])) _
        refine XS.icmpNo X207.here hx rfl (hb hby at_275) rfl (teq (rfl : (0 : Int32) = (0 : Int32))).2 ?_
        show Steps p.tables e below (T207.setTop (mkF m 278 #[.val (.int p0), .val (.int p1), .val (.int p2), .val (.int p3), .val (.int p4), .val (.int (0 : Int32)), .val (.int i172), .val (.int i173), .val (.int i174), .val (.int i175), .val (.int i176), .val (.int i177), .val (.int i178), .val (.ref b179), .val (.int i202), .val (.int i203), .val (.int i204), .val (.int (1 : Int32))] [])) _
        refine XS.iconst X207.here hx rfl (hb hby at_278) ?_
        show Steps p.tables e below (T207.setTop (mkF m 279 #[.val (.int p0), .val (.int p1), .val (.int p2), .val (.int p3), .val (.int p4), .val (.int (0 : Int32)), .val (.int i172), .val (.int i173), .val (.int i174), .val (.int i175), .val (.int i176), .val (.int i177), .val (.int i178), .val (.ref b179), .val (.int i202), .val (.int i203), .val (.int i204), .val (.int (1 : Int32))] [(.int (1 : Int32))])) _
        refine XS.goto X207.here hx rfl (pc0 := 279) (pc' := 283) rfl (hb hby at_279) (by decide) (by decide) ?_
        show Steps p.tables e below (T207.setTop (mkF m 283 #[.val (.int p0), .val (.int p1), .val (.int p2), .val (.int p3), .val (.int p4), .val (.int (0 : Int32)), .val (.int i172), .val (.int i173), .val (.int i174), .val (.int i175), .val (.int i176), .val (.int i177), .val (.int i178), .val (.ref b179), .val (.int i202), .val (.int i203), .val (.int i204), .val (.int (1 : Int32))] [(.int (1 : Int32))])) _
        exact retN X207 hx (t := .boolean) Bd.returns (by simp) (hb hby at_283) hr
      · show Q0 Z p0 p1 p2 p3 p4 wSUSCEPTIBLE wRECOVERED wINFECTED h0 n0 _ T207.heap _
        rw [e207]
        exact ⟨rfl, N207⟩
  · subst hv171
    obtain ⟨i209, hi209⟩ : ∃ z, z = ((p0.toUInt32 >>> ((3 : Int32) &&& 31).toUInt32).toInt32) := ⟨_, rfl⟩
    obtain ⟨i210, hi210⟩ : ∃ z, z = ((i209 + (1 : Int32)) + ((p1.toUInt32 >>> ((3 : Int32) &&& 31).toUInt32).toInt32)) := ⟨_, rfl⟩
    obtain ⟨i211, hi211⟩ : ∃ z, z = ((i210 + (1 : Int32)) + ((p2.toUInt32 >>> ((2 : Int32) &&& 31).toUInt32).toInt32)) := ⟨_, rfl⟩
    obtain ⟨A1, A2, A3, A4, A5⟩ := own_arith hi209 hi210 hi211
    obtain ⟨i212, hi212⟩ : ∃ z, z = ((((p3.toUInt32 >>> ((2 : Int32) &&& 31).toUInt32).toInt32) &&& (3 : Int32)) % (3 : Int32)) := ⟨_, rfl⟩
    obtain ⟨i213, hi213⟩ : ∃ z, z = ((((p3.toUInt32 >>> ((4 : Int32) &&& 31).toUInt32).toInt32) &&& (3 : Int32)) % (3 : Int32)) := ⟨_, rfl⟩
    obtain ⟨i214, hi214⟩ : ∃ z, z = ((((p3.toUInt32 >>> ((6 : Int32) &&& 31).toUInt32).toInt32) &&& (3 : Int32)) % (3 : Int32)) := ⟨_, rfl⟩
    obtain ⟨i215, hi215⟩ : ∃ z, z = ((((p3.toUInt32 >>> ((8 : Int32) &&& 31).toUInt32).toInt32) &&& (3 : Int32)) % (3 : Int32)) := ⟨_, rfl⟩
    obtain ⟨T216, h216, X216, e216, E216, A216, D216, -, st216⟩ := newO X0 hx hZ hown (hw _ (List.mem_of_getElem? (i := 0) rfl)) (hw _ (List.mem_of_getElem? (i := 1) rfl)) (hw _ (List.mem_of_getElem? (i := 2) rfl)) e0 (g := (mkF m 68 #[.val (.int p0), .val (.int p1), .val (.int p2), .val (.int p3), .val (.int p4), .val (.int (1 : Int32)), .val (.int i209), .val (.int i210), .val (.int i211), .val (.int i212), .val (.int i213), .val (.int i214), .val (.int i215), .unset, .unset, .unset, .unset, .unset] [])) rfl (hb hby at_68) (by decide) (by decide)
    obtain ⟨b216, g216⟩ : ∃ z, z = h0.size := ⟨_, rfl⟩
    have g_b216 : n0 ≤ b216 := Nat.le_trans Z0 (Nat.le_of_eq g216.symm)
    have sz_b216 : h0.size ≤ b216 := Nat.le_of_eq g216.symm
    rw [← g216] at A216 D216 st216
    have EX216 : Ext h0 h216 := E216
    have KK216 : Keep h0 h216 ([] : List Addr) := Keep.ext (Keep.refl h0 ([] : List Addr)) E216
    have G216_vertices : Fld Z h216 b216 "com/example/rippletide/rippletide/model/StateChanges" "vertices" "[I" .null := D216 (Or.inl (hw _ (List.mem_of_getElem? (i := 11) rfl))) (ty := (.array .int)) (by decide)
    have G216_states : Fld Z h216 b216 "com/example/rippletide/rippletide/model/StateChanges" "states" "[B" .null := D216 (Or.inl (hw _ (List.mem_of_getElem? (i := 14) rfl))) (ty := (.array .byte)) (by decide)
    have G216_count : Fld Z h216 b216 "com/example/rippletide/rippletide/model/StateChanges" "count" "I" (.int (0 : Int32)) := D216 (Or.inl (hw _ (List.mem_of_getElem? (i := 28) rfl))) (ty := .int) (by decide)
    obtain ⟨_, _, ⟨T217, L217, k217, n217⟩, -, X217, ⟨Lc217, hQ217, l217, y217, z217⟩, st217⟩ := X216.specialBack hx (y := (⟨"com/example/rippletide/rippletide/model/StateChanges", "<init>", "()V"⟩ : MethodName)) rfl hown (mvT hZ (hw _ (List.mem_of_getElem? (i := 3) rfl))) (mvT hZ (hw _ (List.mem_of_getElem? (i := 4) rfl))) (mvT hZ (hw _ (List.mem_of_getElem? (i := 5) rfl))) (by decide) (backOf (W := 1) (rm3 l Z a0 hw [] b216 wSUSCEPTIBLE wRECOVERED wINFECTED h0 h216 n0 (Nat.le_trans Z0 KK216.1) W0 EX216 Zs A216 g_b216 G216_vertices G216_states G216_count ) hZ (hw _ (List.mem_of_getElem? (i := 5) rfl)) (hw _ (List.mem_of_getElem? (i := 2) rfl)) (by decide) (by decide)) (g := (mkF m 72 #[.val (.int p0), .val (.int p1), .val (.int p2), .val (.int p3), .val (.int p4), .val (.int (1 : Int32)), .val (.int i209), .val (.int i210), .val (.int i211), .val (.int i212), .val (.int i213), .val (.int i214), .val (.int i215), .unset, .unset, .unset, .unset, .unset] [(.ref b216), (.ref b216)])) rfl (by rw [hml]; rfl) (Steps.refl _) (a := b216) (argsL := []) (rest := [(.ref b216)]) (lenOf pd_1 rfl) rfl (by show 2 * 0 + _ ≤ _; exact Nat.le_of_eq rfl) (hb hby at_72) (fun _ _ => ⟨rfl, e216, (by decide : 1 + 2 ≤ _), (by decide : 3 + 32 ≤ _)⟩)
    dsimp only [Pt.U, Pt.locs, Pt.cells, Pt.slots] at X217 l217 y217 z217 st217 hQ217
    subst l217 y217 z217
    unfold Q3 at hQ217
    obtain ⟨b_vertices_217, k_vertices_217, b_states_217, k_states_217, rfl, N217q, EXc217, Kc217, OB217_p0⟩ := hQ217
    have N217 := Fr.app N0 N217q
    have EX217 : Ext h0 T217.heap := EXc217
    have KK217 : Keep h0 T217.heap ([] : List Addr) := Keep.trans KK216 Kc217 (allS (Or.inr (Nat.le_trans Zs g_b216)) all0)
    have OBx217_p0 : Obj Z T217.heap n0 b216 b_vertices_217 k_vertices_217 (0 : Int32) (0 : Int32) (0 : Int32) b_states_217 k_states_217 (0 : Int32) (0 : Int32) (0 : Int32) (0 : Int32) := OB217_p0
    obtain ⟨E_b216_217, g_b216_217, G_b216_vertices_217, G_b216_states_217, G_b216_count_217, g_b216_vertices_217, ne_b216_vertices_217, V_b216_vertices_217, g_b216_states_217, ne_b216_states_217, V_b216_states_217, nn_b216_vertices_states_217, -⟩ := OBx217_p0
    have k221 : ∀ t, Steps p.tables e below (T217.setTop (mkF m 81 #[.val (.int p0), .val (.int p1), .val (.int p2), .val (.int p3), .val (.int p4), .val (.int (1 : Int32)), .val (.int i209), .val (.int i210), .val (.int i211), .val (.int i212), .val (.int i213), .val (.int i214), .val (.int i215), .val (.ref b216), .unset, .unset, .unset, .unset] [(.int (p4 &&& (1 : Int32)))])) t → Steps p.tables e below (s₁.setTop (entryFrame m #[(.int p0), (.int p1), (.int p2), (.int p3), (.int p4)] maxLocals)) t := fun t kt => k170 t (by
      show Steps p.tables e below (s₁.setTop (mkF m 5 #[.val (.int p0), .val (.int p1), .val (.int p2), .val (.int p3), .val (.int p4), .val (.int (1 : Int32)), .unset, .unset, .unset, .unset, .unset, .unset, .unset, .unset, .unset, .unset, .unset, .unset] [])) _
      refine XS.iloadN X0.here hx rfl (hb hby at_5) rfl ?_
      show Steps p.tables e below (s₁.setTop (mkF m 6 #[.val (.int p0), .val (.int p1), .val (.int p2), .val (.int p3), .val (.int p4), .val (.int (1 : Int32)), .unset, .unset, .unset, .unset, .unset, .unset, .unset, .unset, .unset, .unset, .unset, .unset] [(.int p0)])) _
      refine XS.iconst X0.here hx rfl (hb hby at_6) ?_
      show Steps p.tables e below (s₁.setTop (mkF m 7 #[.val (.int p0), .val (.int p1), .val (.int p2), .val (.int p3), .val (.int p4), .val (.int (1 : Int32)), .unset, .unset, .unset, .unset, .unset, .unset, .unset, .unset, .unset, .unset, .unset, .unset] [(.int (3 : Int32)), (.int p0)])) _
      refine XS.iushr X0.here hx rfl (hb hby at_7) rfl ?_
      rw [← hi209]
      show Steps p.tables e below (s₁.setTop (mkF m 8 #[.val (.int p0), .val (.int p1), .val (.int p2), .val (.int p3), .val (.int p4), .val (.int (1 : Int32)), .unset, .unset, .unset, .unset, .unset, .unset, .unset, .unset, .unset, .unset, .unset, .unset] [(.int i209)])) _
      refine XS.istore X0.here hx rfl (hb hby at_8) rfl (l' := #[.val (.int p0), .val (.int p1), .val (.int p2), .val (.int p3), .val (.int p4), .val (.int (1 : Int32)), .val (.int i209), .unset, .unset, .unset, .unset, .unset, .unset, .unset, .unset, .unset, .unset, .unset]) rfl ?_
      show Steps p.tables e below (s₁.setTop (mkF m 10 #[.val (.int p0), .val (.int p1), .val (.int p2), .val (.int p3), .val (.int p4), .val (.int (1 : Int32)), .val (.int i209), .unset, .unset, .unset, .unset, .unset, .unset, .unset, .unset, .unset, .unset, .unset] [])) _
      refine XS.iload X0.here hx rfl (hb hby at_10) rfl ?_
      show Steps p.tables e below (s₁.setTop (mkF m 12 #[.val (.int p0), .val (.int p1), .val (.int p2), .val (.int p3), .val (.int p4), .val (.int (1 : Int32)), .val (.int i209), .unset, .unset, .unset, .unset, .unset, .unset, .unset, .unset, .unset, .unset, .unset] [(.int i209)])) _
      refine XS.iconst X0.here hx rfl (hb hby at_12) ?_
      show Steps p.tables e below (s₁.setTop (mkF m 13 #[.val (.int p0), .val (.int p1), .val (.int p2), .val (.int p3), .val (.int p4), .val (.int (1 : Int32)), .val (.int i209), .unset, .unset, .unset, .unset, .unset, .unset, .unset, .unset, .unset, .unset, .unset] [(.int (1 : Int32)), (.int i209)])) _
      refine XS.iadd X0.here hx rfl (hb hby at_13) rfl ?_
      show Steps p.tables e below (s₁.setTop (mkF m 14 #[.val (.int p0), .val (.int p1), .val (.int p2), .val (.int p3), .val (.int p4), .val (.int (1 : Int32)), .val (.int i209), .unset, .unset, .unset, .unset, .unset, .unset, .unset, .unset, .unset, .unset, .unset] [(.int (i209 + (1 : Int32)))])) _
      refine XS.iloadN X0.here hx rfl (hb hby at_14) rfl ?_
      show Steps p.tables e below (s₁.setTop (mkF m 15 #[.val (.int p0), .val (.int p1), .val (.int p2), .val (.int p3), .val (.int p4), .val (.int (1 : Int32)), .val (.int i209), .unset, .unset, .unset, .unset, .unset, .unset, .unset, .unset, .unset, .unset, .unset] [(.int p1), (.int (i209 + (1 : Int32)))])) _
      refine XS.iconst X0.here hx rfl (hb hby at_15) ?_
      show Steps p.tables e below (s₁.setTop (mkF m 16 #[.val (.int p0), .val (.int p1), .val (.int p2), .val (.int p3), .val (.int p4), .val (.int (1 : Int32)), .val (.int i209), .unset, .unset, .unset, .unset, .unset, .unset, .unset, .unset, .unset, .unset, .unset] [(.int (3 : Int32)), (.int p1), (.int (i209 + (1 : Int32)))])) _
      refine XS.iushr X0.here hx rfl (hb hby at_16) rfl ?_
      show Steps p.tables e below (s₁.setTop (mkF m 17 #[.val (.int p0), .val (.int p1), .val (.int p2), .val (.int p3), .val (.int p4), .val (.int (1 : Int32)), .val (.int i209), .unset, .unset, .unset, .unset, .unset, .unset, .unset, .unset, .unset, .unset, .unset] [(.int ((p1.toUInt32 >>> ((3 : Int32) &&& 31).toUInt32).toInt32)), (.int (i209 + (1 : Int32)))])) _
      refine XS.iadd X0.here hx rfl (hb hby at_17) rfl ?_
      rw [← hi210]
      show Steps p.tables e below (s₁.setTop (mkF m 18 #[.val (.int p0), .val (.int p1), .val (.int p2), .val (.int p3), .val (.int p4), .val (.int (1 : Int32)), .val (.int i209), .unset, .unset, .unset, .unset, .unset, .unset, .unset, .unset, .unset, .unset, .unset] [(.int i210)])) _
      refine XS.istore X0.here hx rfl (hb hby at_18) rfl (l' := #[.val (.int p0), .val (.int p1), .val (.int p2), .val (.int p3), .val (.int p4), .val (.int (1 : Int32)), .val (.int i209), .val (.int i210), .unset, .unset, .unset, .unset, .unset, .unset, .unset, .unset, .unset, .unset]) rfl ?_
      show Steps p.tables e below (s₁.setTop (mkF m 20 #[.val (.int p0), .val (.int p1), .val (.int p2), .val (.int p3), .val (.int p4), .val (.int (1 : Int32)), .val (.int i209), .val (.int i210), .unset, .unset, .unset, .unset, .unset, .unset, .unset, .unset, .unset, .unset] [])) _
      refine XS.iload X0.here hx rfl (hb hby at_20) rfl ?_
      show Steps p.tables e below (s₁.setTop (mkF m 22 #[.val (.int p0), .val (.int p1), .val (.int p2), .val (.int p3), .val (.int p4), .val (.int (1 : Int32)), .val (.int i209), .val (.int i210), .unset, .unset, .unset, .unset, .unset, .unset, .unset, .unset, .unset, .unset] [(.int i210)])) _
      refine XS.iconst X0.here hx rfl (hb hby at_22) ?_
      show Steps p.tables e below (s₁.setTop (mkF m 23 #[.val (.int p0), .val (.int p1), .val (.int p2), .val (.int p3), .val (.int p4), .val (.int (1 : Int32)), .val (.int i209), .val (.int i210), .unset, .unset, .unset, .unset, .unset, .unset, .unset, .unset, .unset, .unset] [(.int (1 : Int32)), (.int i210)])) _
      refine XS.iadd X0.here hx rfl (hb hby at_23) rfl ?_
      show Steps p.tables e below (s₁.setTop (mkF m 24 #[.val (.int p0), .val (.int p1), .val (.int p2), .val (.int p3), .val (.int p4), .val (.int (1 : Int32)), .val (.int i209), .val (.int i210), .unset, .unset, .unset, .unset, .unset, .unset, .unset, .unset, .unset, .unset] [(.int (i210 + (1 : Int32)))])) _
      refine XS.iloadN X0.here hx rfl (hb hby at_24) rfl ?_
      show Steps p.tables e below (s₁.setTop (mkF m 25 #[.val (.int p0), .val (.int p1), .val (.int p2), .val (.int p3), .val (.int p4), .val (.int (1 : Int32)), .val (.int i209), .val (.int i210), .unset, .unset, .unset, .unset, .unset, .unset, .unset, .unset, .unset, .unset] [(.int p2), (.int (i210 + (1 : Int32)))])) _
      refine XS.iconst X0.here hx rfl (hb hby at_25) ?_
      show Steps p.tables e below (s₁.setTop (mkF m 26 #[.val (.int p0), .val (.int p1), .val (.int p2), .val (.int p3), .val (.int p4), .val (.int (1 : Int32)), .val (.int i209), .val (.int i210), .unset, .unset, .unset, .unset, .unset, .unset, .unset, .unset, .unset, .unset] [(.int (2 : Int32)), (.int p2), (.int (i210 + (1 : Int32)))])) _
      refine XS.iushr X0.here hx rfl (hb hby at_26) rfl ?_
      show Steps p.tables e below (s₁.setTop (mkF m 27 #[.val (.int p0), .val (.int p1), .val (.int p2), .val (.int p3), .val (.int p4), .val (.int (1 : Int32)), .val (.int i209), .val (.int i210), .unset, .unset, .unset, .unset, .unset, .unset, .unset, .unset, .unset, .unset] [(.int ((p2.toUInt32 >>> ((2 : Int32) &&& 31).toUInt32).toInt32)), (.int (i210 + (1 : Int32)))])) _
      refine XS.iadd X0.here hx rfl (hb hby at_27) rfl ?_
      rw [← hi211]
      show Steps p.tables e below (s₁.setTop (mkF m 28 #[.val (.int p0), .val (.int p1), .val (.int p2), .val (.int p3), .val (.int p4), .val (.int (1 : Int32)), .val (.int i209), .val (.int i210), .unset, .unset, .unset, .unset, .unset, .unset, .unset, .unset, .unset, .unset] [(.int i211)])) _
      refine XS.istore X0.here hx rfl (hb hby at_28) rfl (l' := #[.val (.int p0), .val (.int p1), .val (.int p2), .val (.int p3), .val (.int p4), .val (.int (1 : Int32)), .val (.int i209), .val (.int i210), .val (.int i211), .unset, .unset, .unset, .unset, .unset, .unset, .unset, .unset, .unset]) rfl ?_
      show Steps p.tables e below (s₁.setTop (mkF m 30 #[.val (.int p0), .val (.int p1), .val (.int p2), .val (.int p3), .val (.int p4), .val (.int (1 : Int32)), .val (.int i209), .val (.int i210), .val (.int i211), .unset, .unset, .unset, .unset, .unset, .unset, .unset, .unset, .unset] [])) _
      refine XS.iloadN X0.here hx rfl (hb hby at_30) rfl ?_
      show Steps p.tables e below (s₁.setTop (mkF m 31 #[.val (.int p0), .val (.int p1), .val (.int p2), .val (.int p3), .val (.int p4), .val (.int (1 : Int32)), .val (.int i209), .val (.int i210), .val (.int i211), .unset, .unset, .unset, .unset, .unset, .unset, .unset, .unset, .unset] [(.int p3)])) _
      refine XS.iconst X0.here hx rfl (hb hby at_31) ?_
      show Steps p.tables e below (s₁.setTop (mkF m 32 #[.val (.int p0), .val (.int p1), .val (.int p2), .val (.int p3), .val (.int p4), .val (.int (1 : Int32)), .val (.int i209), .val (.int i210), .val (.int i211), .unset, .unset, .unset, .unset, .unset, .unset, .unset, .unset, .unset] [(.int (2 : Int32)), (.int p3)])) _
      refine XS.iushr X0.here hx rfl (hb hby at_32) rfl ?_
      show Steps p.tables e below (s₁.setTop (mkF m 33 #[.val (.int p0), .val (.int p1), .val (.int p2), .val (.int p3), .val (.int p4), .val (.int (1 : Int32)), .val (.int i209), .val (.int i210), .val (.int i211), .unset, .unset, .unset, .unset, .unset, .unset, .unset, .unset, .unset] [(.int ((p3.toUInt32 >>> ((2 : Int32) &&& 31).toUInt32).toInt32))])) _
      refine XS.iconst X0.here hx rfl (hb hby at_33) ?_
      show Steps p.tables e below (s₁.setTop (mkF m 34 #[.val (.int p0), .val (.int p1), .val (.int p2), .val (.int p3), .val (.int p4), .val (.int (1 : Int32)), .val (.int i209), .val (.int i210), .val (.int i211), .unset, .unset, .unset, .unset, .unset, .unset, .unset, .unset, .unset] [(.int (3 : Int32)), (.int ((p3.toUInt32 >>> ((2 : Int32) &&& 31).toUInt32).toInt32))])) _
      refine XS.iand X0.here hx rfl (hb hby at_34) rfl ?_
      show Steps p.tables e below (s₁.setTop (mkF m 35 #[.val (.int p0), .val (.int p1), .val (.int p2), .val (.int p3), .val (.int p4), .val (.int (1 : Int32)), .val (.int i209), .val (.int i210), .val (.int i211), .unset, .unset, .unset, .unset, .unset, .unset, .unset, .unset, .unset] [(.int (((p3.toUInt32 >>> ((2 : Int32) &&& 31).toUInt32).toInt32) &&& (3 : Int32)))])) _
      refine XS.iconst X0.here hx rfl (hb hby at_35) ?_
      show Steps p.tables e below (s₁.setTop (mkF m 36 #[.val (.int p0), .val (.int p1), .val (.int p2), .val (.int p3), .val (.int p4), .val (.int (1 : Int32)), .val (.int i209), .val (.int i210), .val (.int i211), .unset, .unset, .unset, .unset, .unset, .unset, .unset, .unset, .unset] [(.int (3 : Int32)), (.int (((p3.toUInt32 >>> ((2 : Int32) &&& 31).toUInt32).toInt32) &&& (3 : Int32)))])) _
      refine iremM X0 hx rfl (hb hby at_36) rfl (by decide) ?_
      rw [← hi212]
      show Steps p.tables e below (s₁.setTop (mkF m 37 #[.val (.int p0), .val (.int p1), .val (.int p2), .val (.int p3), .val (.int p4), .val (.int (1 : Int32)), .val (.int i209), .val (.int i210), .val (.int i211), .unset, .unset, .unset, .unset, .unset, .unset, .unset, .unset, .unset] [(.int i212)])) _
      refine XS.istore X0.here hx rfl (hb hby at_37) rfl (l' := #[.val (.int p0), .val (.int p1), .val (.int p2), .val (.int p3), .val (.int p4), .val (.int (1 : Int32)), .val (.int i209), .val (.int i210), .val (.int i211), .val (.int i212), .unset, .unset, .unset, .unset, .unset, .unset, .unset, .unset]) rfl ?_
      show Steps p.tables e below (s₁.setTop (mkF m 39 #[.val (.int p0), .val (.int p1), .val (.int p2), .val (.int p3), .val (.int p4), .val (.int (1 : Int32)), .val (.int i209), .val (.int i210), .val (.int i211), .val (.int i212), .unset, .unset, .unset, .unset, .unset, .unset, .unset, .unset] [])) _
      refine XS.iloadN X0.here hx rfl (hb hby at_39) rfl ?_
      show Steps p.tables e below (s₁.setTop (mkF m 40 #[.val (.int p0), .val (.int p1), .val (.int p2), .val (.int p3), .val (.int p4), .val (.int (1 : Int32)), .val (.int i209), .val (.int i210), .val (.int i211), .val (.int i212), .unset, .unset, .unset, .unset, .unset, .unset, .unset, .unset] [(.int p3)])) _
      refine XS.iconst X0.here hx rfl (hb hby at_40) ?_
      show Steps p.tables e below (s₁.setTop (mkF m 41 #[.val (.int p0), .val (.int p1), .val (.int p2), .val (.int p3), .val (.int p4), .val (.int (1 : Int32)), .val (.int i209), .val (.int i210), .val (.int i211), .val (.int i212), .unset, .unset, .unset, .unset, .unset, .unset, .unset, .unset] [(.int (4 : Int32)), (.int p3)])) _
      refine XS.iushr X0.here hx rfl (hb hby at_41) rfl ?_
      show Steps p.tables e below (s₁.setTop (mkF m 42 #[.val (.int p0), .val (.int p1), .val (.int p2), .val (.int p3), .val (.int p4), .val (.int (1 : Int32)), .val (.int i209), .val (.int i210), .val (.int i211), .val (.int i212), .unset, .unset, .unset, .unset, .unset, .unset, .unset, .unset] [(.int ((p3.toUInt32 >>> ((4 : Int32) &&& 31).toUInt32).toInt32))])) _
      refine XS.iconst X0.here hx rfl (hb hby at_42) ?_
      show Steps p.tables e below (s₁.setTop (mkF m 43 #[.val (.int p0), .val (.int p1), .val (.int p2), .val (.int p3), .val (.int p4), .val (.int (1 : Int32)), .val (.int i209), .val (.int i210), .val (.int i211), .val (.int i212), .unset, .unset, .unset, .unset, .unset, .unset, .unset, .unset] [(.int (3 : Int32)), (.int ((p3.toUInt32 >>> ((4 : Int32) &&& 31).toUInt32).toInt32))])) _
      refine XS.iand X0.here hx rfl (hb hby at_43) rfl ?_
      show Steps p.tables e below (s₁.setTop (mkF m 44 #[.val (.int p0), .val (.int p1), .val (.int p2), .val (.int p3), .val (.int p4), .val (.int (1 : Int32)), .val (.int i209), .val (.int i210), .val (.int i211), .val (.int i212), .unset, .unset, .unset, .unset, .unset, .unset, .unset, .unset] [(.int (((p3.toUInt32 >>> ((4 : Int32) &&& 31).toUInt32).toInt32) &&& (3 : Int32)))])) _
      refine XS.iconst X0.here hx rfl (hb hby at_44) ?_
      show Steps p.tables e below (s₁.setTop (mkF m 45 #[.val (.int p0), .val (.int p1), .val (.int p2), .val (.int p3), .val (.int p4), .val (.int (1 : Int32)), .val (.int i209), .val (.int i210), .val (.int i211), .val (.int i212), .unset, .unset, .unset, .unset, .unset, .unset, .unset, .unset] [(.int (3 : Int32)), (.int (((p3.toUInt32 >>> ((4 : Int32) &&& 31).toUInt32).toInt32) &&& (3 : Int32)))])) _
      refine iremM X0 hx rfl (hb hby at_45) rfl (by decide) ?_
      rw [← hi213]
      show Steps p.tables e below (s₁.setTop (mkF m 46 #[.val (.int p0), .val (.int p1), .val (.int p2), .val (.int p3), .val (.int p4), .val (.int (1 : Int32)), .val (.int i209), .val (.int i210), .val (.int i211), .val (.int i212), .unset, .unset, .unset, .unset, .unset, .unset, .unset, .unset] [(.int i213)])) _
      refine XS.istore X0.here hx rfl (hb hby at_46) rfl (l' := #[.val (.int p0), .val (.int p1), .val (.int p2), .val (.int p3), .val (.int p4), .val (.int (1 : Int32)), .val (.int i209), .val (.int i210), .val (.int i211), .val (.int i212), .val (.int i213), .unset, .unset, .unset, .unset, .unset, .unset, .unset]) rfl ?_
      show Steps p.tables e below (s₁.setTop (mkF m 48 #[.val (.int p0), .val (.int p1), .val (.int p2), .val (.int p3), .val (.int p4), .val (.int (1 : Int32)), .val (.int i209), .val (.int i210), .val (.int i211), .val (.int i212), .val (.int i213), .unset, .unset, .unset, .unset, .unset, .unset, .unset] [])) _
      refine XS.iloadN X0.here hx rfl (hb hby at_48) rfl ?_
      show Steps p.tables e below (s₁.setTop (mkF m 49 #[.val (.int p0), .val (.int p1), .val (.int p2), .val (.int p3), .val (.int p4), .val (.int (1 : Int32)), .val (.int i209), .val (.int i210), .val (.int i211), .val (.int i212), .val (.int i213), .unset, .unset, .unset, .unset, .unset, .unset, .unset] [(.int p3)])) _
      refine XS.bipush X0.here hx rfl (hb hby at_49) ?_
      show Steps p.tables e below (s₁.setTop (mkF m 51 #[.val (.int p0), .val (.int p1), .val (.int p2), .val (.int p3), .val (.int p4), .val (.int (1 : Int32)), .val (.int i209), .val (.int i210), .val (.int i211), .val (.int i212), .val (.int i213), .unset, .unset, .unset, .unset, .unset, .unset, .unset] [(.int (6 : Int32)), (.int p3)])) _
      refine XS.iushr X0.here hx rfl (hb hby at_51) rfl ?_
      show Steps p.tables e below (s₁.setTop (mkF m 52 #[.val (.int p0), .val (.int p1), .val (.int p2), .val (.int p3), .val (.int p4), .val (.int (1 : Int32)), .val (.int i209), .val (.int i210), .val (.int i211), .val (.int i212), .val (.int i213), .unset, .unset, .unset, .unset, .unset, .unset, .unset] [(.int ((p3.toUInt32 >>> ((6 : Int32) &&& 31).toUInt32).toInt32))])) _
      refine XS.iconst X0.here hx rfl (hb hby at_52) ?_
      show Steps p.tables e below (s₁.setTop (mkF m 53 #[.val (.int p0), .val (.int p1), .val (.int p2), .val (.int p3), .val (.int p4), .val (.int (1 : Int32)), .val (.int i209), .val (.int i210), .val (.int i211), .val (.int i212), .val (.int i213), .unset, .unset, .unset, .unset, .unset, .unset, .unset] [(.int (3 : Int32)), (.int ((p3.toUInt32 >>> ((6 : Int32) &&& 31).toUInt32).toInt32))])) _
      refine XS.iand X0.here hx rfl (hb hby at_53) rfl ?_
      show Steps p.tables e below (s₁.setTop (mkF m 54 #[.val (.int p0), .val (.int p1), .val (.int p2), .val (.int p3), .val (.int p4), .val (.int (1 : Int32)), .val (.int i209), .val (.int i210), .val (.int i211), .val (.int i212), .val (.int i213), .unset, .unset, .unset, .unset, .unset, .unset, .unset] [(.int (((p3.toUInt32 >>> ((6 : Int32) &&& 31).toUInt32).toInt32) &&& (3 : Int32)))])) _
      refine XS.iconst X0.here hx rfl (hb hby at_54) ?_
      show Steps p.tables e below (s₁.setTop (mkF m 55 #[.val (.int p0), .val (.int p1), .val (.int p2), .val (.int p3), .val (.int p4), .val (.int (1 : Int32)), .val (.int i209), .val (.int i210), .val (.int i211), .val (.int i212), .val (.int i213), .unset, .unset, .unset, .unset, .unset, .unset, .unset] [(.int (3 : Int32)), (.int (((p3.toUInt32 >>> ((6 : Int32) &&& 31).toUInt32).toInt32) &&& (3 : Int32)))])) _
      refine iremM X0 hx rfl (hb hby at_55) rfl (by decide) ?_
      rw [← hi214]
      show Steps p.tables e below (s₁.setTop (mkF m 56 #[.val (.int p0), .val (.int p1), .val (.int p2), .val (.int p3), .val (.int p4), .val (.int (1 : Int32)), .val (.int i209), .val (.int i210), .val (.int i211), .val (.int i212), .val (.int i213), .unset, .unset, .unset, .unset, .unset, .unset, .unset] [(.int i214)])) _
      refine XS.istore X0.here hx rfl (hb hby at_56) rfl (l' := #[.val (.int p0), .val (.int p1), .val (.int p2), .val (.int p3), .val (.int p4), .val (.int (1 : Int32)), .val (.int i209), .val (.int i210), .val (.int i211), .val (.int i212), .val (.int i213), .val (.int i214), .unset, .unset, .unset, .unset, .unset, .unset]) rfl ?_
      show Steps p.tables e below (s₁.setTop (mkF m 58 #[.val (.int p0), .val (.int p1), .val (.int p2), .val (.int p3), .val (.int p4), .val (.int (1 : Int32)), .val (.int i209), .val (.int i210), .val (.int i211), .val (.int i212), .val (.int i213), .val (.int i214), .unset, .unset, .unset, .unset, .unset, .unset] [])) _
      refine XS.iloadN X0.here hx rfl (hb hby at_58) rfl ?_
      show Steps p.tables e below (s₁.setTop (mkF m 59 #[.val (.int p0), .val (.int p1), .val (.int p2), .val (.int p3), .val (.int p4), .val (.int (1 : Int32)), .val (.int i209), .val (.int i210), .val (.int i211), .val (.int i212), .val (.int i213), .val (.int i214), .unset, .unset, .unset, .unset, .unset, .unset] [(.int p3)])) _
      refine XS.bipush X0.here hx rfl (hb hby at_59) ?_
      show Steps p.tables e below (s₁.setTop (mkF m 61 #[.val (.int p0), .val (.int p1), .val (.int p2), .val (.int p3), .val (.int p4), .val (.int (1 : Int32)), .val (.int i209), .val (.int i210), .val (.int i211), .val (.int i212), .val (.int i213), .val (.int i214), .unset, .unset, .unset, .unset, .unset, .unset] [(.int (8 : Int32)), (.int p3)])) _
      refine XS.iushr X0.here hx rfl (hb hby at_61) rfl ?_
      show Steps p.tables e below (s₁.setTop (mkF m 62 #[.val (.int p0), .val (.int p1), .val (.int p2), .val (.int p3), .val (.int p4), .val (.int (1 : Int32)), .val (.int i209), .val (.int i210), .val (.int i211), .val (.int i212), .val (.int i213), .val (.int i214), .unset, .unset, .unset, .unset, .unset, .unset] [(.int ((p3.toUInt32 >>> ((8 : Int32) &&& 31).toUInt32).toInt32))])) _
      refine XS.iconst X0.here hx rfl (hb hby at_62) ?_
      show Steps p.tables e below (s₁.setTop (mkF m 63 #[.val (.int p0), .val (.int p1), .val (.int p2), .val (.int p3), .val (.int p4), .val (.int (1 : Int32)), .val (.int i209), .val (.int i210), .val (.int i211), .val (.int i212), .val (.int i213), .val (.int i214), .unset, .unset, .unset, .unset, .unset, .unset] [(.int (3 : Int32)), (.int ((p3.toUInt32 >>> ((8 : Int32) &&& 31).toUInt32).toInt32))])) _
      refine XS.iand X0.here hx rfl (hb hby at_63) rfl ?_
      show Steps p.tables e below (s₁.setTop (mkF m 64 #[.val (.int p0), .val (.int p1), .val (.int p2), .val (.int p3), .val (.int p4), .val (.int (1 : Int32)), .val (.int i209), .val (.int i210), .val (.int i211), .val (.int i212), .val (.int i213), .val (.int i214), .unset, .unset, .unset, .unset, .unset, .unset] [(.int (((p3.toUInt32 >>> ((8 : Int32) &&& 31).toUInt32).toInt32) &&& (3 : Int32)))])) _
      refine XS.iconst X0.here hx rfl (hb hby at_64) ?_
      show Steps p.tables e below (s₁.setTop (mkF m 65 #[.val (.int p0), .val (.int p1), .val (.int p2), .val (.int p3), .val (.int p4), .val (.int (1 : Int32)), .val (.int i209), .val (.int i210), .val (.int i211), .val (.int i212), .val (.int i213), .val (.int i214), .unset, .unset, .unset, .unset, .unset, .unset] [(.int (3 : Int32)), (.int (((p3.toUInt32 >>> ((8 : Int32) &&& 31).toUInt32).toInt32) &&& (3 : Int32)))])) _
      refine iremM X0 hx rfl (hb hby at_65) rfl (by decide) ?_
      rw [← hi215]
      show Steps p.tables e below (s₁.setTop (mkF m 66 #[.val (.int p0), .val (.int p1), .val (.int p2), .val (.int p3), .val (.int p4), .val (.int (1 : Int32)), .val (.int i209), .val (.int i210), .val (.int i211), .val (.int i212), .val (.int i213), .val (.int i214), .unset, .unset, .unset, .unset, .unset, .unset] [(.int i215)])) _
      refine XS.istore X0.here hx rfl (hb hby at_66) rfl (l' := #[.val (.int p0), .val (.int p1), .val (.int p2), .val (.int p3), .val (.int p4), .val (.int (1 : Int32)), .val (.int i209), .val (.int i210), .val (.int i211), .val (.int i212), .val (.int i213), .val (.int i214), .val (.int i215), .unset, .unset, .unset, .unset, .unset]) rfl ?_
      show Steps p.tables e below (s₁.setTop (mkF m 68 #[.val (.int p0), .val (.int p1), .val (.int p2), .val (.int p3), .val (.int p4), .val (.int (1 : Int32)), .val (.int i209), .val (.int i210), .val (.int i211), .val (.int i212), .val (.int i213), .val (.int i214), .val (.int i215), .unset, .unset, .unset, .unset, .unset] [])) _
      refine st216 _ ?_
      show Steps p.tables e below (T216.setTop (mkF m 71 #[.val (.int p0), .val (.int p1), .val (.int p2), .val (.int p3), .val (.int p4), .val (.int (1 : Int32)), .val (.int i209), .val (.int i210), .val (.int i211), .val (.int i212), .val (.int i213), .val (.int i214), .val (.int i215), .unset, .unset, .unset, .unset, .unset] [(.ref b216)])) _
      refine XS.dup X216.here hx rfl (hb hby at_71) rfl rfl ?_
      show Steps p.tables e below (T216.setTop (mkF m 72 #[.val (.int p0), .val (.int p1), .val (.int p2), .val (.int p3), .val (.int p4), .val (.int (1 : Int32)), .val (.int i209), .val (.int i210), .val (.int i211), .val (.int i212), .val (.int i213), .val (.int i214), .val (.int i215), .unset, .unset, .unset, .unset, .unset] [(.ref b216), (.ref b216)])) _
      refine st217.trans ?_
      show Steps p.tables e below (T217.setTop (mkF m 75 #[.val (.int p0), .val (.int p1), .val (.int p2), .val (.int p3), .val (.int p4), .val (.int (1 : Int32)), .val (.int i209), .val (.int i210), .val (.int i211), .val (.int i212), .val (.int i213), .val (.int i214), .val (.int i215), .unset, .unset, .unset, .unset, .unset] [(.ref b216)])) _
      refine XS.astore X217.here hx rfl (hb hby at_75) rfl rfl (l' := #[.val (.int p0), .val (.int p1), .val (.int p2), .val (.int p3), .val (.int p4), .val (.int (1 : Int32)), .val (.int i209), .val (.int i210), .val (.int i211), .val (.int i212), .val (.int i213), .val (.int i214), .val (.int i215), .val (.ref b216), .unset, .unset, .unset, .unset]) rfl ?_
      show Steps p.tables e below (T217.setTop (mkF m 77 #[.val (.int p0), .val (.int p1), .val (.int p2), .val (.int p3), .val (.int p4), .val (.int (1 : Int32)), .val (.int i209), .val (.int i210), .val (.int i211), .val (.int i212), .val (.int i213), .val (.int i214), .val (.int i215), .val (.ref b216), .unset, .unset, .unset, .unset] [])) _
      refine XS.iload X217.here hx rfl (hb hby at_77) rfl ?_
      show Steps p.tables e below (T217.setTop (mkF m 79 #[.val (.int p0), .val (.int p1), .val (.int p2), .val (.int p3), .val (.int p4), .val (.int (1 : Int32)), .val (.int i209), .val (.int i210), .val (.int i211), .val (.int i212), .val (.int i213), .val (.int i214), .val (.int i215), .val (.ref b216), .unset, .unset, .unset, .unset] [(.int p4)])) _
      refine XS.iconst X217.here hx rfl (hb hby at_79) ?_
      show Steps p.tables e below (T217.setTop (mkF m 80 #[.val (.int p0), .val (.int p1), .val (.int p2), .val (.int p3), .val (.int p4), .val (.int (1 : Int32)), .val (.int i209), .val (.int i210), .val (.int i211), .val (.int i212), .val (.int i213), .val (.int i214), .val (.int i215), .val (.ref b216), .unset, .unset, .unset, .unset] [(.int (1 : Int32)), (.int p4)])) _
      refine XS.iand X217.here hx rfl (hb hby at_80) rfl ?_
      exact kt)
    by_cases hc222 : (p4 &&& (1 : Int32)) = (0 : Int32)
    · obtain ⟨_, _, ⟨T223, L223, k223, n223⟩, -, X223, ⟨Lc223, hQ223, l223, y223, z223⟩, st223⟩ := Jvm.LawKit.callS X217 hx (y := (⟨"com/example/rippletide/rippletide/model/StateChangesHashCodePinLaw", "state", "(I)Lcom/example/rippletide/rippletide/model/State;"⟩ : MethodName)) hown (mvT hZ (hw _ (List.mem_of_getElem? (i := 15) rfl))) (mvT hZ (hw _ (List.mem_of_getElem? (i := 16) rfl))) (mvT hZ (hw _ (List.mem_of_getElem? (i := 17) rfl))) (mvT hZ (hw _ (List.mem_of_getElem? (i := 18) rfl))) (by decide) (backOf (W := 2) (rm1 l Z a0 hw [] i212 wSUSCEPTIBLE wRECOVERED wINFECTED T217.heap n0 (Nat.le_trans Z0 KK217.1) (W0.ext EX217) ) hZ (hw _ (List.mem_of_getElem? (i := 18) rfl)) (hw _ (List.mem_of_getElem? (i := 17) rfl)) (by decide) (by decide)) (g := (mkF m 115 #[.val (.int p0), .val (.int p1), .val (.int p2), .val (.int p3), .val (.int p4), .val (.int (1 : Int32)), .val (.int i209), .val (.int i210), .val (.int i211), .val (.int i212), .val (.int i213), .val (.int i214), .val (.int i215), .val (.ref b216), .unset, .unset, .unset, .unset] [(.int i212), (.int i209), (.ref b216)])) rfl (by rw [hml]; rfl) (argsL := [(.int i212)]) (rest := [(.int i209), (.ref b216)]) (lenOf pd_2 rfl) rfl (by show 2 * 0 + _ ≤ _; exact Nat.le_of_eq rfl) (hb hby at_115) (fun _ _ => ⟨rfl, rfl, (by decide : 3 + 0 ≤ _), (by decide : 35 + 0 ≤ _)⟩)
      dsimp only [Pt.U, Pt.locs, Pt.cells, Pt.slots] at X223 l223 y223 z223 st223 hQ223
      subst l223 y223 z223
      unfold Q1 at hQ223
      have k224 : ∀ t, Steps p.tables e below (T217.setTop (mkF m 115 #[.val (.int p0), .val (.int p1), .val (.int p2), .val (.int p3), .val (.int p4), .val (.int (1 : Int32)), .val (.int i209), .val (.int i210), .val (.int i211), .val (.int i212), .val (.int i213), .val (.int i214), .val (.int i215), .val (.ref b216), .unset, .unset, .unset, .unset] [(.int i212), (.int i209), (.ref b216)])) t → Steps p.tables e below (s₁.setTop (entryFrame m #[(.int p0), (.int p1), (.int p2), (.int p3), (.int p4)] maxLocals)) t := fun t kt => k221 t (by
        show Steps p.tables e below (T217.setTop (mkF m 81 #[.val (.int p0), .val (.int p1), .val (.int p2), .val (.int p3), .val (.int p4), .val (.int (1 : Int32)), .val (.int i209), .val (.int i210), .val (.int i211), .val (.int i212), .val (.int i213), .val (.int i214), .val (.int i215), .val (.ref b216), .unset, .unset, .unset, .unset] [(.int (p4 &&& (1 : Int32)))])) _
        refine XS.ifYes X217.here hx rfl (pc0 := 81) (pc' := 103) rfl (hb hby at_81) rfl ((if0 _ _).trans (teq (hc222 : (p4 &&& (1 : Int32)) = (0 : Int32))).1) (by decide) (by decide) ?_
        show Steps p.tables e below (T217.setTop (mkF m 103 #[.val (.int p0), .val (.int p1), .val (.int p2), .val (.int p3), .val (.int p4), .val (.int (1 : Int32)), .val (.int i209), .val (.int i210), .val (.int i211), .val (.int i212), .val (.int i213), .val (.int i214), .val (.int i215), .val (.ref b216), .unset, .unset, .unset, .unset] [])) _
        refine XS.iload X217.here hx rfl (hb hby at_103) rfl ?_
        show Steps p.tables e below (T217.setTop (mkF m 105 #[.val (.int p0), .val (.int p1), .val (.int p2), .val (.int p3), .val (.int p4), .val (.int (1 : Int32)), .val (.int i209), .val (.int i210), .val (.int i211), .val (.int i212), .val (.int i213), .val (.int i214), .val (.int i215), .val (.ref b216), .unset, .unset, .unset, .unset] [(.int (1 : Int32))])) _
        refine XS.iconst X217.here hx rfl (hb hby at_105) ?_
        show Steps p.tables e below (T217.setTop (mkF m 106 #[.val (.int p0), .val (.int p1), .val (.int p2), .val (.int p3), .val (.int p4), .val (.int (1 : Int32)), .val (.int i209), .val (.int i210), .val (.int i211), .val (.int i212), .val (.int i213), .val (.int i214), .val (.int i215), .val (.ref b216), .unset, .unset, .unset, .unset] [(.int (1 : Int32)), (.int (1 : Int32))])) _
        refine XS.icmpNo X217.here hx rfl (hb hby at_106) rfl (flt ((by first | exact Int32.lt_irrefl _ | decide) : ¬ ((1 : Int32) < (1 : Int32)))).1 ?_
        show Steps p.tables e below (T217.setTop (mkF m 109 #[.val (.int p0), .val (.int p1), .val (.int p2), .val (.int p3), .val (.int p4), .val (.int (1 : Int32)), .val (.int i209), .val (.int i210), .val (.int i211), .val (.int i212), .val (.int i213), .val (.int i214), .val (.int i215), .val (.ref b216), .unset, .unset, .unset, .unset] [])) _
        refine XS.aload X217.here hx rfl (hb hby at_109) rfl rfl ?_
        show Steps p.tables e below (T217.setTop (mkF m 111 #[.val (.int p0), .val (.int p1), .val (.int p2), .val (.int p3), .val (.int p4), .val (.int (1 : Int32)), .val (.int i209), .val (.int i210), .val (.int i211), .val (.int i212), .val (.int i213), .val (.int i214), .val (.int i215), .val (.ref b216), .unset, .unset, .unset, .unset] [(.ref b216)])) _
        refine XS.iload X217.here hx rfl (hb hby at_111) rfl ?_
        show Steps p.tables e below (T217.setTop (mkF m 113 #[.val (.int p0), .val (.int p1), .val (.int p2), .val (.int p3), .val (.int p4), .val (.int (1 : Int32)), .val (.int i209), .val (.int i210), .val (.int i211), .val (.int i212), .val (.int i213), .val (.int i214), .val (.int i215), .val (.ref b216), .unset, .unset, .unset, .unset] [(.int i209), (.ref b216)])) _
        refine XS.iload X217.here hx rfl (hb hby at_113) rfl ?_
        exact kt)
      obtain ⟨r225, hr225⟩ : ∃ z, z = (f1 i212 wSUSCEPTIBLE wRECOVERED wINFECTED) := ⟨_, rfl⟩
      rw [← hr225] at hQ223
      obtain ⟨rfl, N223q, e223⟩ := hQ223
      have N223 := Fr.app N217 N223q
      have PFr225 := own_state W0 (own_cs3 hi212)
      rw [← hr225] at PFr225
      obtain ⟨E_r225, F_r225⟩ := PFr225
      obtain ⟨cq226, kq226, q226a, q226b, q226c⟩ := isOf hZ e223 E_b216_217
      obtain ⟨_, _, ⟨T226, L226, k226, n226⟩, -, X226, ⟨Lc226, hQ226, l226, y226, z226⟩, st226⟩ := X223.virtualBack hx (y := (⟨"com/example/rippletide/rippletide/model/StateChanges", "add", "(ILcom/example/rippletide/rippletide/model/State;)V"⟩ : MethodName)) (z := (⟨"com/example/rippletide/rippletide/model/StateChanges", "add", "(ILcom/example/rippletide/rippletide/model/State;)V"⟩ : MethodName)) hown (mvT hZ (hw _ (List.mem_of_getElem? (i := 22) rfl))) (mvT hZ (hw _ (List.mem_of_getElem? (i := 23) rfl))) (notFace_of_selects (args := #[]) (mvT hZ (hw _ (List.mem_of_getElem? (i := 25) rfl)))) (mvT hZ (hw _ (List.mem_of_getElem? (i := 25) rfl))) (mvT hZ (hw _ (List.mem_of_getElem? (i := 24) rfl))) (by decide) (backOf (W := 0) (rm4 l Z a0 hw [] b216 i209 r225 b_vertices_217 k_vertices_217 (0 : Int32) (0 : Int32) (0 : Int32) b_states_217 k_states_217 (0 : Int32) (0 : Int32) (0 : Int32) i212 wSUSCEPTIBLE wRECOVERED wINFECTED h0 T217.heap n0 (Nat.le_trans Z0 KK217.1) W0 EX217 Zs ⟨E_b216_217, g_b216_217, G_b216_vertices_217, G_b216_states_217, G_b216_count_217, g_b216_vertices_217, ne_b216_vertices_217, V_b216_vertices_217, g_b216_states_217, ne_b216_states_217, V_b216_states_217, nn_b216_vertices_states_217, trivial⟩ F_r225 E_r225 A1) hZ (hw _ (List.mem_of_getElem? (i := 26) rfl)) (hw _ (List.mem_of_getElem? (i := 2) rfl)) (by decide) (by decide)) q226a q226c (g := (mkF m 118 #[.val (.int p0), .val (.int p1), .val (.int p2), .val (.int p3), .val (.int p4), .val (.int (1 : Int32)), .val (.int i209), .val (.int i210), .val (.int i211), .val (.int i212), .val (.int i213), .val (.int i214), .val (.int i215), .val (.ref b216), .unset, .unset, .unset, .unset] [(.ref r225), (.int i209), (.ref b216)])) rfl (by rw [hml]; rfl) (Steps.refl _) (argsL := [(.int i209), (.ref r225)]) (rest := []) (lenOf pd_3 rfl) rfl (by show 2 * 0 + _ ≤ _; exact Nat.le_of_eq rfl) (hb hby at_118) (fun _ _ => ⟨rfl, e223, (by decide : 3 + 0 ≤ _), (by decide : 35 + 0 ≤ _)⟩)
      dsimp only [Pt.U, Pt.locs, Pt.cells, Pt.slots] at X226 l226 y226 z226 st226 hQ226
      subst l226 y226 z226
      unfold Q4 at hQ226
      have k227 : ∀ t, Steps p.tables e below (T223.setTop (mkF m 118 #[.val (.int p0), .val (.int p1), .val (.int p2), .val (.int p3), .val (.int p4), .val (.int (1 : Int32)), .val (.int i209), .val (.int i210), .val (.int i211), .val (.int i212), .val (.int i213), .val (.int i214), .val (.int i215), .val (.ref b216), .unset, .unset, .unset, .unset] [(.ref r225), (.int i209), (.ref b216)])) t → Steps p.tables e below (s₁.setTop (entryFrame m #[(.int p0), (.int p1), (.int p2), (.int p3), (.int p4)] maxLocals)) t := fun t kt => k224 t (by
        show Steps p.tables e below (T217.setTop (mkF m 115 #[.val (.int p0), .val (.int p1), .val (.int p2), .val (.int p3), .val (.int p4), .val (.int (1 : Int32)), .val (.int i209), .val (.int i210), .val (.int i211), .val (.int i212), .val (.int i213), .val (.int i214), .val (.int i215), .val (.ref b216), .unset, .unset, .unset, .unset] [(.int i212), (.int i209), (.ref b216)])) _
        refine st223 _ ?_
        exact kt)
      obtain ⟨rfl, N226q, EXc226, Kc226, OB226_p0⟩ := hQ226
      have N226 := Fr.app N223 N226q
      have EX226 : Ext h0 T226.heap := EXc226
      have KK226 : Keep h0 T226.heap ([] : List Addr) := Keep.trans KK217 Kc226 (allS (Or.inr (Nat.le_trans Zs g_b216_vertices_217)) (allS (Or.inr (Nat.le_trans Zs g_b216_states_217)) (allS (Or.inr (Nat.le_trans Zs g_b216_217)) all0)))
      have OBx226_p0 : Obj Z T226.heap n0 b216 b_vertices_217 k_vertices_217 i209 (0 : Int32) (0 : Int32) b_states_217 k_states_217 (i212.toInt8.toInt32) (0 : Int32) (0 : Int32) (1 : Int32) := OB226_p0
      obtain ⟨E_b216_226, g_b216_226, G_b216_vertices_226, G_b216_states_226, G_b216_count_226, g_b216_vertices_226, ne_b216_vertices_226, V_b216_vertices_226, g_b216_states_226, ne_b216_states_226, V_b216_states_226, nn_b216_vertices_states_226, -⟩ := OBx226_p0
      obtain ⟨i229, hi229⟩ : ∃ z, z = (((31 : Int32) * i209) + i212) := ⟨_, rfl⟩
      obtain ⟨i230, hi230⟩ : ∃ z, z = (((31 : Int32) * i210) + i213) := ⟨_, rfl⟩
      obtain ⟨i231, hi231⟩ : ∃ z, z = (((31 : Int32) * i211) + i214) := ⟨_, rfl⟩
      obtain ⟨i232, hi232⟩ : ∃ z, z = ((961 : Int32) + i229) := ⟨_, rfl⟩
      obtain ⟨cq233, kq233, q233a, q233b, q233c⟩ := isOf hZ rfl E_b216_226
      obtain ⟨_, _, ⟨T233, L233, k233, n233⟩, -, X233, ⟨Lc233, hQ233, l233, y233, z233⟩, st233⟩ := X226.virtualBack hx (y := (⟨"com/example/rippletide/rippletide/model/StateChanges", "hashCode", "()I"⟩ : MethodName)) (z := (⟨"com/example/rippletide/rippletide/model/StateChanges", "hashCode", "()I"⟩ : MethodName)) hown (mvT hZ (hw _ (List.mem_of_getElem? (i := 38) rfl))) (mvT hZ (hw _ (List.mem_of_getElem? (i := 39) rfl))) (notFace_of_selects (args := #[]) (mvT hZ (hw _ (List.mem_of_getElem? (i := 41) rfl)))) (mvT hZ (hw _ (List.mem_of_getElem? (i := 41) rfl))) (mvT hZ (hw _ (List.mem_of_getElem? (i := 40) rfl))) (by decide) (backOf (W := 0) (rm9 l Z a0 hw [] b216 b_vertices_217 k_vertices_217 i209 (0 : Int32) (0 : Int32) b_states_217 k_states_217 (i212.toInt8.toInt32) (0 : Int32) (0 : Int32) wSUSCEPTIBLE wRECOVERED wINFECTED h0 T226.heap n0 (Nat.le_trans Z0 KK226.1) W0 EX226 Zs ⟨E_b216_226, g_b216_226, G_b216_vertices_226, G_b216_states_226, G_b216_count_226, g_b216_vertices_226, ne_b216_vertices_226, V_b216_vertices_226, g_b216_states_226, ne_b216_states_226, V_b216_states_226, nn_b216_vertices_states_226, trivial⟩ ) hZ (hw _ (List.mem_of_getElem? (i := 42) rfl)) (hw _ (List.mem_of_getElem? (i := 2) rfl)) (by decide) (by decide)) q233a q233c (g := (mkF m 260 #[.val (.int p0), .val (.int p1), .val (.int p2), .val (.int p3), .val (.int p4), .val (.int (1 : Int32)), .val (.int i209), .val (.int i210), .val (.int i211), .val (.int i212), .val (.int i213), .val (.int i214), .val (.int i215), .val (.ref b216), .val (.int i229), .val (.int i230), .val (.int i231), .val (.int i232)] [(.ref b216)])) rfl (by rw [hml]; rfl) (Steps.refl _) (argsL := []) (rest := []) (lenOf pd_0 rfl) rfl (by show 2 * 0 + _ ≤ _; exact Nat.le_of_eq rfl) (hb hby at_260) (fun _ _ => ⟨rfl, rfl, (by decide : 3 + 0 ≤ _), (by decide : 35 + 0 ≤ _)⟩)
      dsimp only [Pt.U, Pt.locs, Pt.cells, Pt.slots] at X233 l233 y233 z233 st233 hQ233
      subst l233 y233 z233
      unfold Q9 at hQ233
      have k234 : ∀ t, Steps p.tables e below (T226.setTop (mkF m 260 #[.val (.int p0), .val (.int p1), .val (.int p2), .val (.int p3), .val (.int p4), .val (.int (1 : Int32)), .val (.int i209), .val (.int i210), .val (.int i211), .val (.int i212), .val (.int i213), .val (.int i214), .val (.int i215), .val (.ref b216), .val (.int i229), .val (.int i230), .val (.int i231), .val (.int i232)] [(.ref b216)])) t → Steps p.tables e below (s₁.setTop (entryFrame m #[(.int p0), (.int p1), (.int p2), (.int p3), (.int p4)] maxLocals)) t := fun t kt => k227 t (by
        show Steps p.tables e below (T223.setTop (mkF m 118 #[.val (.int p0), .val (.int p1), .val (.int p2), .val (.int p3), .val (.int p4), .val (.int (1 : Int32)), .val (.int i209), .val (.int i210), .val (.int i211), .val (.int i212), .val (.int i213), .val (.int i214), .val (.int i215), .val (.ref b216), .unset, .unset, .unset, .unset] [(.ref r225), (.int i209), (.ref b216)])) _
        refine st226.trans ?_
        show Steps p.tables e below (T226.setTop (mkF m 121 #[.val (.int p0), .val (.int p1), .val (.int p2), .val (.int p3), .val (.int p4), .val (.int (1 : Int32)), .val (.int i209), .val (.int i210), .val (.int i211), .val (.int i212), .val (.int i213), .val (.int i214), .val (.int i215), .val (.ref b216), .unset, .unset, .unset, .unset] [])) _
        refine XS.iload X226.here hx rfl (hb hby at_121) rfl ?_
        show Steps p.tables e below (T226.setTop (mkF m 123 #[.val (.int p0), .val (.int p1), .val (.int p2), .val (.int p3), .val (.int p4), .val (.int (1 : Int32)), .val (.int i209), .val (.int i210), .val (.int i211), .val (.int i212), .val (.int i213), .val (.int i214), .val (.int i215), .val (.ref b216), .unset, .unset, .unset, .unset] [(.int (1 : Int32))])) _
        refine XS.iconst X226.here hx rfl (hb hby at_123) ?_
        show Steps p.tables e below (T226.setTop (mkF m 124 #[.val (.int p0), .val (.int p1), .val (.int p2), .val (.int p3), .val (.int p4), .val (.int (1 : Int32)), .val (.int i209), .val (.int i210), .val (.int i211), .val (.int i212), .val (.int i213), .val (.int i214), .val (.int i215), .val (.ref b216), .unset, .unset, .unset, .unset] [(.int (2 : Int32)), (.int (1 : Int32))])) _
        refine XS.icmpYes X226.here hx rfl (pc0 := 124) (pc' := 139) rfl (hb hby at_124) rfl (tlt ((by decide) : (1 : Int32) < (2 : Int32))).1 (by decide) (by decide) ?_
        show Steps p.tables e below (T226.setTop (mkF m 139 #[.val (.int p0), .val (.int p1), .val (.int p2), .val (.int p3), .val (.int p4), .val (.int (1 : Int32)), .val (.int i209), .val (.int i210), .val (.int i211), .val (.int i212), .val (.int i213), .val (.int i214), .val (.int i215), .val (.ref b216), .unset, .unset, .unset, .unset] [])) _
        refine XS.iload X226.here hx rfl (hb hby at_139) rfl ?_
        show Steps p.tables e below (T226.setTop (mkF m 141 #[.val (.int p0), .val (.int p1), .val (.int p2), .val (.int p3), .val (.int p4), .val (.int (1 : Int32)), .val (.int i209), .val (.int i210), .val (.int i211), .val (.int i212), .val (.int i213), .val (.int i214), .val (.int i215), .val (.ref b216), .unset, .unset, .unset, .unset] [(.int (1 : Int32))])) _
        refine XS.iconst X226.here hx rfl (hb hby at_141) ?_
        show Steps p.tables e below (T226.setTop (mkF m 142 #[.val (.int p0), .val (.int p1), .val (.int p2), .val (.int p3), .val (.int p4), .val (.int (1 : Int32)), .val (.int i209), .val (.int i210), .val (.int i211), .val (.int i212), .val (.int i213), .val (.int i214), .val (.int i215), .val (.ref b216), .unset, .unset, .unset, .unset] [(.int (3 : Int32)), (.int (1 : Int32))])) _
        refine XS.icmpYes X226.here hx rfl (pc0 := 142) (pc' := 157) rfl (hb hby at_142) rfl (tlt ((by decide) : (1 : Int32) < (3 : Int32))).1 (by decide) (by decide) ?_
        show Steps p.tables e below (T226.setTop (mkF m 157 #[.val (.int p0), .val (.int p1), .val (.int p2), .val (.int p3), .val (.int p4), .val (.int (1 : Int32)), .val (.int i209), .val (.int i210), .val (.int i211), .val (.int i212), .val (.int i213), .val (.int i214), .val (.int i215), .val (.ref b216), .unset, .unset, .unset, .unset] [])) _
        refine XS.bipush X226.here hx rfl (hb hby at_157) ?_
        show Steps p.tables e below (T226.setTop (mkF m 159 #[.val (.int p0), .val (.int p1), .val (.int p2), .val (.int p3), .val (.int p4), .val (.int (1 : Int32)), .val (.int i209), .val (.int i210), .val (.int i211), .val (.int i212), .val (.int i213), .val (.int i214), .val (.int i215), .val (.ref b216), .unset, .unset, .unset, .unset] [(.int (31 : Int32))])) _
        refine XS.iload X226.here hx rfl (hb hby at_159) rfl ?_
        show Steps p.tables e below (T226.setTop (mkF m 161 #[.val (.int p0), .val (.int p1), .val (.int p2), .val (.int p3), .val (.int p4), .val (.int (1 : Int32)), .val (.int i209), .val (.int i210), .val (.int i211), .val (.int i212), .val (.int i213), .val (.int i214), .val (.int i215), .val (.ref b216), .unset, .unset, .unset, .unset] [(.int i209), (.int (31 : Int32))])) _
        refine XS.imul X226.here hx rfl (hb hby at_161) rfl ?_
        show Steps p.tables e below (T226.setTop (mkF m 162 #[.val (.int p0), .val (.int p1), .val (.int p2), .val (.int p3), .val (.int p4), .val (.int (1 : Int32)), .val (.int i209), .val (.int i210), .val (.int i211), .val (.int i212), .val (.int i213), .val (.int i214), .val (.int i215), .val (.ref b216), .unset, .unset, .unset, .unset] [(.int ((31 : Int32) * i209))])) _
        refine XS.iload X226.here hx rfl (hb hby at_162) rfl ?_
        show Steps p.tables e below (T226.setTop (mkF m 164 #[.val (.int p0), .val (.int p1), .val (.int p2), .val (.int p3), .val (.int p4), .val (.int (1 : Int32)), .val (.int i209), .val (.int i210), .val (.int i211), .val (.int i212), .val (.int i213), .val (.int i214), .val (.int i215), .val (.ref b216), .unset, .unset, .unset, .unset] [(.int i212), (.int ((31 : Int32) * i209))])) _
        refine XS.iadd X226.here hx rfl (hb hby at_164) rfl ?_
        rw [← hi229]
        show Steps p.tables e below (T226.setTop (mkF m 165 #[.val (.int p0), .val (.int p1), .val (.int p2), .val (.int p3), .val (.int p4), .val (.int (1 : Int32)), .val (.int i209), .val (.int i210), .val (.int i211), .val (.int i212), .val (.int i213), .val (.int i214), .val (.int i215), .val (.ref b216), .unset, .unset, .unset, .unset] [(.int i229)])) _
        refine XS.istore X226.here hx rfl (hb hby at_165) rfl (l' := #[.val (.int p0), .val (.int p1), .val (.int p2), .val (.int p3), .val (.int p4), .val (.int (1 : Int32)), .val (.int i209), .val (.int i210), .val (.int i211), .val (.int i212), .val (.int i213), .val (.int i214), .val (.int i215), .val (.ref b216), .val (.int i229), .unset, .unset, .unset]) rfl ?_
        show Steps p.tables e below (T226.setTop (mkF m 167 #[.val (.int p0), .val (.int p1), .val (.int p2), .val (.int p3), .val (.int p4), .val (.int (1 : Int32)), .val (.int i209), .val (.int i210), .val (.int i211), .val (.int i212), .val (.int i213), .val (.int i214), .val (.int i215), .val (.ref b216), .val (.int i229), .unset, .unset, .unset] [])) _
        refine XS.bipush X226.here hx rfl (hb hby at_167) ?_
        show Steps p.tables e below (T226.setTop (mkF m 169 #[.val (.int p0), .val (.int p1), .val (.int p2), .val (.int p3), .val (.int p4), .val (.int (1 : Int32)), .val (.int i209), .val (.int i210), .val (.int i211), .val (.int i212), .val (.int i213), .val (.int i214), .val (.int i215), .val (.ref b216), .val (.int i229), .unset, .unset, .unset] [(.int (31 : Int32))])) _
        refine XS.iload X226.here hx rfl (hb hby at_169) rfl ?_
        show Steps p.tables e below (T226.setTop (mkF m 171 #[.val (.int p0), .val (.int p1), .val (.int p2), .val (.int p3), .val (.int p4), .val (.int (1 : Int32)), .val (.int i209), .val (.int i210), .val (.int i211), .val (.int i212), .val (.int i213), .val (.int i214), .val (.int i215), .val (.ref b216), .val (.int i229), .unset, .unset, .unset] [(.int i210), (.int (31 : Int32))])) _
        refine XS.imul X226.here hx rfl (hb hby at_171) rfl ?_
        show Steps p.tables e below (T226.setTop (mkF m 172 #[.val (.int p0), .val (.int p1), .val (.int p2), .val (.int p3), .val (.int p4), .val (.int (1 : Int32)), .val (.int i209), .val (.int i210), .val (.int i211), .val (.int i212), .val (.int i213), .val (.int i214), .val (.int i215), .val (.ref b216), .val (.int i229), .unset, .unset, .unset] [(.int ((31 : Int32) * i210))])) _
        refine XS.iload X226.here hx rfl (hb hby at_172) rfl ?_
        show Steps p.tables e below (T226.setTop (mkF m 174 #[.val (.int p0), .val (.int p1), .val (.int p2), .val (.int p3), .val (.int p4), .val (.int (1 : Int32)), .val (.int i209), .val (.int i210), .val (.int i211), .val (.int i212), .val (.int i213), .val (.int i214), .val (.int i215), .val (.ref b216), .val (.int i229), .unset, .unset, .unset] [(.int i213), (.int ((31 : Int32) * i210))])) _
        refine XS.iadd X226.here hx rfl (hb hby at_174) rfl ?_
        rw [← hi230]
        show Steps p.tables e below (T226.setTop (mkF m 175 #[.val (.int p0), .val (.int p1), .val (.int p2), .val (.int p3), .val (.int p4), .val (.int (1 : Int32)), .val (.int i209), .val (.int i210), .val (.int i211), .val (.int i212), .val (.int i213), .val (.int i214), .val (.int i215), .val (.ref b216), .val (.int i229), .unset, .unset, .unset] [(.int i230)])) _
        refine XS.istore X226.here hx rfl (hb hby at_175) rfl (l' := #[.val (.int p0), .val (.int p1), .val (.int p2), .val (.int p3), .val (.int p4), .val (.int (1 : Int32)), .val (.int i209), .val (.int i210), .val (.int i211), .val (.int i212), .val (.int i213), .val (.int i214), .val (.int i215), .val (.ref b216), .val (.int i229), .val (.int i230), .unset, .unset]) rfl ?_
        show Steps p.tables e below (T226.setTop (mkF m 177 #[.val (.int p0), .val (.int p1), .val (.int p2), .val (.int p3), .val (.int p4), .val (.int (1 : Int32)), .val (.int i209), .val (.int i210), .val (.int i211), .val (.int i212), .val (.int i213), .val (.int i214), .val (.int i215), .val (.ref b216), .val (.int i229), .val (.int i230), .unset, .unset] [])) _
        refine XS.bipush X226.here hx rfl (hb hby at_177) ?_
        show Steps p.tables e below (T226.setTop (mkF m 179 #[.val (.int p0), .val (.int p1), .val (.int p2), .val (.int p3), .val (.int p4), .val (.int (1 : Int32)), .val (.int i209), .val (.int i210), .val (.int i211), .val (.int i212), .val (.int i213), .val (.int i214), .val (.int i215), .val (.ref b216), .val (.int i229), .val (.int i230), .unset, .unset] [(.int (31 : Int32))])) _
        refine XS.iload X226.here hx rfl (hb hby at_179) rfl ?_
        show Steps p.tables e below (T226.setTop (mkF m 181 #[.val (.int p0), .val (.int p1), .val (.int p2), .val (.int p3), .val (.int p4), .val (.int (1 : Int32)), .val (.int i209), .val (.int i210), .val (.int i211), .val (.int i212), .val (.int i213), .val (.int i214), .val (.int i215), .val (.ref b216), .val (.int i229), .val (.int i230), .unset, .unset] [(.int i211), (.int (31 : Int32))])) _
        refine XS.imul X226.here hx rfl (hb hby at_181) rfl ?_
        show Steps p.tables e below (T226.setTop (mkF m 182 #[.val (.int p0), .val (.int p1), .val (.int p2), .val (.int p3), .val (.int p4), .val (.int (1 : Int32)), .val (.int i209), .val (.int i210), .val (.int i211), .val (.int i212), .val (.int i213), .val (.int i214), .val (.int i215), .val (.ref b216), .val (.int i229), .val (.int i230), .unset, .unset] [(.int ((31 : Int32) * i211))])) _
        refine XS.iload X226.here hx rfl (hb hby at_182) rfl ?_
        show Steps p.tables e below (T226.setTop (mkF m 184 #[.val (.int p0), .val (.int p1), .val (.int p2), .val (.int p3), .val (.int p4), .val (.int (1 : Int32)), .val (.int i209), .val (.int i210), .val (.int i211), .val (.int i212), .val (.int i213), .val (.int i214), .val (.int i215), .val (.ref b216), .val (.int i229), .val (.int i230), .unset, .unset] [(.int i214), (.int ((31 : Int32) * i211))])) _
        refine XS.iadd X226.here hx rfl (hb hby at_184) rfl ?_
        rw [← hi231]
        show Steps p.tables e below (T226.setTop (mkF m 185 #[.val (.int p0), .val (.int p1), .val (.int p2), .val (.int p3), .val (.int p4), .val (.int (1 : Int32)), .val (.int i209), .val (.int i210), .val (.int i211), .val (.int i212), .val (.int i213), .val (.int i214), .val (.int i215), .val (.ref b216), .val (.int i229), .val (.int i230), .unset, .unset] [(.int i231)])) _
        refine XS.istore X226.here hx rfl (hb hby at_185) rfl (l' := #[.val (.int p0), .val (.int p1), .val (.int p2), .val (.int p3), .val (.int p4), .val (.int (1 : Int32)), .val (.int i209), .val (.int i210), .val (.int i211), .val (.int i212), .val (.int i213), .val (.int i214), .val (.int i215), .val (.ref b216), .val (.int i229), .val (.int i230), .val (.int i231), .unset]) rfl ?_
        show Steps p.tables e below (T226.setTop (mkF m 187 #[.val (.int p0), .val (.int p1), .val (.int p2), .val (.int p3), .val (.int p4), .val (.int (1 : Int32)), .val (.int i209), .val (.int i210), .val (.int i211), .val (.int i212), .val (.int i213), .val (.int i214), .val (.int i215), .val (.ref b216), .val (.int i229), .val (.int i230), .val (.int i231), .unset] [])) _
        refine XS.iload X226.here hx rfl (hb hby at_187) rfl ?_
        show Steps p.tables e below (T226.setTop (mkF m 189 #[.val (.int p0), .val (.int p1), .val (.int p2), .val (.int p3), .val (.int p4), .val (.int (1 : Int32)), .val (.int i209), .val (.int i210), .val (.int i211), .val (.int i212), .val (.int i213), .val (.int i214), .val (.int i215), .val (.ref b216), .val (.int i229), .val (.int i230), .val (.int i231), .unset] [(.int (1 : Int32))])) _
        refine XS.ifYes X226.here hx rfl (pc0 := 189) (pc' := 198) rfl (hb hby at_189) rfl ((if0 _ _).trans (feq ((by decide) : ¬ ((1 : Int32) = (0 : Int32)))).2) (by decide) (by decide) ?_
        show Steps p.tables e below (T226.setTop (mkF m 198 #[.val (.int p0), .val (.int p1), .val (.int p2), .val (.int p3), .val (.int p4), .val (.int (1 : Int32)), .val (.int i209), .val (.int i210), .val (.int i211), .val (.int i212), .val (.int i213), .val (.int i214), .val (.int i215), .val (.ref b216), .val (.int i229), .val (.int i230), .val (.int i231), .unset] [])) _
        refine XS.iload X226.here hx rfl (hb hby at_198) rfl ?_
        show Steps p.tables e below (T226.setTop (mkF m 200 #[.val (.int p0), .val (.int p1), .val (.int p2), .val (.int p3), .val (.int p4), .val (.int (1 : Int32)), .val (.int i209), .val (.int i210), .val (.int i211), .val (.int i212), .val (.int i213), .val (.int i214), .val (.int i215), .val (.ref b216), .val (.int i229), .val (.int i230), .val (.int i231), .unset] [(.int (1 : Int32))])) _
        refine XS.iconst X226.here hx rfl (hb hby at_200) ?_
        show Steps p.tables e below (T226.setTop (mkF m 201 #[.val (.int p0), .val (.int p1), .val (.int p2), .val (.int p3), .val (.int p4), .val (.int (1 : Int32)), .val (.int i209), .val (.int i210), .val (.int i211), .val (.int i212), .val (.int i213), .val (.int i214), .val (.int i215), .val (.ref b216), .val (.int i229), .val (.int i230), .val (.int i231), .unset] [(.int (1 : Int32)), (.int (1 : Int32))])) _
        refine XS.icmpNo X226.here hx rfl (hb hby at_201) rfl (teq (rfl : (1 : Int32) = (1 : Int32))).2 ?_
        show Steps p.tables e below (T226.setTop (mkF m 204 #[.val (.int p0), .val (.int p1), .val (.int p2), .val (.int p3), .val (.int p4), .val (.int (1 : Int32)), .val (.int i209), .val (.int i210), .val (.int i211), .val (.int i212), .val (.int i213), .val (.int i214), .val (.int i215), .val (.ref b216), .val (.int i229), .val (.int i230), .val (.int i231), .unset] [])) _
        refine XS.sipush X226.here hx rfl (hb hby at_204) ?_
        show Steps p.tables e below (T226.setTop (mkF m 207 #[.val (.int p0), .val (.int p1), .val (.int p2), .val (.int p3), .val (.int p4), .val (.int (1 : Int32)), .val (.int i209), .val (.int i210), .val (.int i211), .val (.int i212), .val (.int i213), .val (.int i214), .val (.int i215), .val (.ref b216), .val (.int i229), .val (.int i230), .val (.int i231), .unset] [(.int (961 : Int32))])) _
        refine XS.iload X226.here hx rfl (hb hby at_207) rfl ?_
        show Steps p.tables e below (T226.setTop (mkF m 209 #[.val (.int p0), .val (.int p1), .val (.int p2), .val (.int p3), .val (.int p4), .val (.int (1 : Int32)), .val (.int i209), .val (.int i210), .val (.int i211), .val (.int i212), .val (.int i213), .val (.int i214), .val (.int i215), .val (.ref b216), .val (.int i229), .val (.int i230), .val (.int i231), .unset] [(.int i229), (.int (961 : Int32))])) _
        refine XS.iadd X226.here hx rfl (hb hby at_209) rfl ?_
        rw [← hi232]
        show Steps p.tables e below (T226.setTop (mkF m 210 #[.val (.int p0), .val (.int p1), .val (.int p2), .val (.int p3), .val (.int p4), .val (.int (1 : Int32)), .val (.int i209), .val (.int i210), .val (.int i211), .val (.int i212), .val (.int i213), .val (.int i214), .val (.int i215), .val (.ref b216), .val (.int i229), .val (.int i230), .val (.int i231), .unset] [(.int i232)])) _
        refine XS.istore X226.here hx rfl (hb hby at_210) rfl (l' := #[.val (.int p0), .val (.int p1), .val (.int p2), .val (.int p3), .val (.int p4), .val (.int (1 : Int32)), .val (.int i209), .val (.int i210), .val (.int i211), .val (.int i212), .val (.int i213), .val (.int i214), .val (.int i215), .val (.ref b216), .val (.int i229), .val (.int i230), .val (.int i231), .val (.int i232)]) rfl ?_
        show Steps p.tables e below (T226.setTop (mkF m 212 #[.val (.int p0), .val (.int p1), .val (.int p2), .val (.int p3), .val (.int p4), .val (.int (1 : Int32)), .val (.int i209), .val (.int i210), .val (.int i211), .val (.int i212), .val (.int i213), .val (.int i214), .val (.int i215), .val (.ref b216), .val (.int i229), .val (.int i230), .val (.int i231), .val (.int i232)] [])) _
        refine XS.goto X226.here hx rfl (pc0 := 212) (pc' := 258) rfl (hb hby at_212) (by decide) (by decide) ?_
        show Steps p.tables e below (T226.setTop (mkF m 258 #[.val (.int p0), .val (.int p1), .val (.int p2), .val (.int p3), .val (.int p4), .val (.int (1 : Int32)), .val (.int i209), .val (.int i210), .val (.int i211), .val (.int i212), .val (.int i213), .val (.int i214), .val (.int i215), .val (.ref b216), .val (.int i229), .val (.int i230), .val (.int i231), .val (.int i232)] [])) _
        refine XS.aload X226.here hx rfl (hb hby at_258) rfl rfl ?_
        exact kt)
      rw [((by rw [f9]) : (f9 b216 b_vertices_217 k_vertices_217 i209 (0 : Int32) (0 : Int32) b_states_217 k_states_217 (i212.toInt8.toInt32) (0 : Int32) (0 : Int32) wSUSCEPTIBLE wRECOVERED wINFECTED) = (((31 : Int32) * (((31 : Int32) * (1 : Int32)) + i209)) + (i212.toInt8.toInt32)))] at hQ233
      obtain ⟨rfl, N233q, e233⟩ := hQ233
      have N233 := Fr.app N226 N233q
      obtain ⟨cq235, kq235, q235a, q235b, q235c⟩ := isOf hZ e233 E_b216_226
      obtain ⟨_, _, ⟨T235, L235, k235, n235⟩, -, X235, ⟨Lc235, hQ235, l235, y235, z235⟩, st235⟩ := X233.virtualBack hx (y := (⟨"com/example/rippletide/rippletide/model/StateChanges", "count", "()I"⟩ : MethodName)) (z := (⟨"com/example/rippletide/rippletide/model/StateChanges", "count", "()I"⟩ : MethodName)) hown (mvT hZ (hw _ (List.mem_of_getElem? (i := 43) rfl))) (mvT hZ (hw _ (List.mem_of_getElem? (i := 44) rfl))) (notFace_of_selects (args := #[]) (mvT hZ (hw _ (List.mem_of_getElem? (i := 46) rfl)))) (mvT hZ (hw _ (List.mem_of_getElem? (i := 46) rfl))) (mvT hZ (hw _ (List.mem_of_getElem? (i := 45) rfl))) (by decide) (backOf (W := 0) (rm12 l Z a0 hw [] b216 b_vertices_217 k_vertices_217 i209 (0 : Int32) (0 : Int32) b_states_217 k_states_217 (i212.toInt8.toInt32) (0 : Int32) (0 : Int32) (1 : Int32) wSUSCEPTIBLE wRECOVERED wINFECTED h0 T226.heap n0 (Nat.le_trans Z0 KK226.1) W0 EX226 Zs ⟨E_b216_226, g_b216_226, G_b216_vertices_226, G_b216_states_226, G_b216_count_226, g_b216_vertices_226, ne_b216_vertices_226, V_b216_vertices_226, g_b216_states_226, ne_b216_states_226, V_b216_states_226, nn_b216_vertices_states_226, trivial⟩ ) hZ (hw _ (List.mem_of_getElem? (i := 47) rfl)) (hw _ (List.mem_of_getElem? (i := 2) rfl)) (by decide) (by decide)) q235a q235c (g := (mkF m 270 #[.val (.int p0), .val (.int p1), .val (.int p2), .val (.int p3), .val (.int p4), .val (.int (1 : Int32)), .val (.int i209), .val (.int i210), .val (.int i211), .val (.int i212), .val (.int i213), .val (.int i214), .val (.int i215), .val (.ref b216), .val (.int i229), .val (.int i230), .val (.int i231), .val (.int i232)] [(.ref b216)])) rfl (by rw [hml]; rfl) (Steps.refl _) (argsL := []) (rest := []) (lenOf pd_0 rfl) rfl (by show 2 * 0 + _ ≤ _; exact Nat.le_of_eq rfl) (hb hby at_270) (fun _ _ => ⟨rfl, e233, (by decide : 3 + 0 ≤ _), (by decide : 35 + 0 ≤ _)⟩)
      dsimp only [Pt.U, Pt.locs, Pt.cells, Pt.slots] at X235 l235 y235 z235 st235 hQ235
      subst l235 y235 z235
      unfold Q12 at hQ235
      have k236 : ∀ t, Steps p.tables e below (T233.setTop (mkF m 270 #[.val (.int p0), .val (.int p1), .val (.int p2), .val (.int p3), .val (.int p4), .val (.int (1 : Int32)), .val (.int i209), .val (.int i210), .val (.int i211), .val (.int i212), .val (.int i213), .val (.int i214), .val (.int i215), .val (.ref b216), .val (.int i229), .val (.int i230), .val (.int i231), .val (.int i232)] [(.ref b216)])) t → Steps p.tables e below (s₁.setTop (entryFrame m #[(.int p0), (.int p1), (.int p2), (.int p3), (.int p4)] maxLocals)) t := fun t kt => k234 t (by
        show Steps p.tables e below (T226.setTop (mkF m 260 #[.val (.int p0), .val (.int p1), .val (.int p2), .val (.int p3), .val (.int p4), .val (.int (1 : Int32)), .val (.int i209), .val (.int i210), .val (.int i211), .val (.int i212), .val (.int i213), .val (.int i214), .val (.int i215), .val (.ref b216), .val (.int i229), .val (.int i230), .val (.int i231), .val (.int i232)] [(.ref b216)])) _
        refine st233.trans ?_
        show Steps p.tables e below (T233.setTop (mkF m 263 #[.val (.int p0), .val (.int p1), .val (.int p2), .val (.int p3), .val (.int p4), .val (.int (1 : Int32)), .val (.int i209), .val (.int i210), .val (.int i211), .val (.int i212), .val (.int i213), .val (.int i214), .val (.int i215), .val (.ref b216), .val (.int i229), .val (.int i230), .val (.int i231), .val (.int i232)] [(.int (((31 : Int32) * (((31 : Int32) * (1 : Int32)) + i209)) + (i212.toInt8.toInt32)))])) _
        refine XS.iload X233.here hx rfl (hb hby at_263) rfl ?_
        show Steps p.tables e below (T233.setTop (mkF m 265 #[.val (.int p0), .val (.int p1), .val (.int p2), .val (.int p3), .val (.int p4), .val (.int (1 : Int32)), .val (.int i209), .val (.int i210), .val (.int i211), .val (.int i212), .val (.int i213), .val (.int i214), .val (.int i215), .val (.ref b216), .val (.int i229), .val (.int i230), .val (.int i231), .val (.int i232)] [(.int i232), (.int (((31 : Int32) * (((31 : Int32) * (1 : Int32)) + i209)) + (i212.toInt8.toInt32)))])) _
        refine XS.icmpNo X233.here hx rfl (hb hby at_265) rfl (teq ((by rw [hi232, hi229, own_byte hi212]; grind) : (((31 : Int32) * (((31 : Int32) * (1 : Int32)) + i209)) + (i212.toInt8.toInt32)) = i232)).2 ?_
        show Steps p.tables e below (T233.setTop (mkF m 268 #[.val (.int p0), .val (.int p1), .val (.int p2), .val (.int p3), .val (.int p4), .val (.int (1 : Int32)), .val (.int i209), .val (.int i210), .val (.int i211), .val (.int i212), .val (.int i213), .val (.int i214), .val (.int i215), .val (.ref b216), .val (.int i229), .val (.int i230), .val (.int i231), .val (.int i232)] [])) _
        refine XS.aload X233.here hx rfl (hb hby at_268) rfl rfl ?_
        exact kt)
      rw [((by rw [f12]) : (f12 b216 b_vertices_217 k_vertices_217 i209 (0 : Int32) (0 : Int32) b_states_217 k_states_217 (i212.toInt8.toInt32) (0 : Int32) (0 : Int32) (1 : Int32) wSUSCEPTIBLE wRECOVERED wINFECTED) = (1 : Int32))] at hQ235
      obtain ⟨rfl, N235q, e235⟩ := hQ235
      have N235 := Fr.app N233 N235q
      obtain ⟨fs, hr, hrun, hended, hW, hsame⟩ := X235.leave (v := some (.int (1 : Int32))) (fun h => by rw [Bd.returns] at h; cases h)
      refine ⟨_, _, k236 _ ?_, hrun, hended, _, _, rfl, ?_, ⟨_, rfl⟩, hW, hsame.mono (by decide) (by decide)⟩
      · show Steps p.tables e below (T233.setTop (mkF m 270 #[.val (.int p0), .val (.int p1), .val (.int p2), .val (.int p3), .val (.int p4), .val (.int (1 : Int32)), .val (.int i209), .val (.int i210), .val (.int i211), .val (.int i212), .val (.int i213), .val (.int i214), .val (.int i215), .val (.ref b216), .val (.int i229), .val (.int i230), .val (.int i231), .val (.int i232)] [(.ref b216)])) _
        refine st235.trans ?_
        show Steps p.tables e below (T235.setTop (mkF m 273 #[.val (.int p0), .val (.int p1), .val (.int p2), .val (.int p3), .val (.int p4), .val (.int (1 : Int32)), .val (.int i209), .val (.int i210), .val (.int i211), .val (.int i212), .val (.int i213), .val (.int i214), .val (.int i215), .val (.ref b216), .val (.int i229), .val (.int i230), .val (.int i231), .val (.int i232)] [(.int (1 : Int32))])) _
        refine XS.iload X235.here hx rfl (hb hby at_273) rfl ?_
        show Steps p.tables e below (T235.setTop (mkF m 275 #[.val (.int p0), .val (.int p1), .val (.int p2), .val (.int p3), .val (.int p4), .val (.int (1 : Int32)), .val (.int i209), .val (.int i210), .val (.int i211), .val (.int i212), .val (.int i213), .val (.int i214), .val (.int i215), .val (.ref b216), .val (.int i229), .val (.int i230), .val (.int i231), .val (.int i232)] [(.int (1 : Int32)), (.int (1 : Int32))])) _
        refine XS.icmpNo X235.here hx rfl (hb hby at_275) rfl (teq (rfl : (1 : Int32) = (1 : Int32))).2 ?_
        show Steps p.tables e below (T235.setTop (mkF m 278 #[.val (.int p0), .val (.int p1), .val (.int p2), .val (.int p3), .val (.int p4), .val (.int (1 : Int32)), .val (.int i209), .val (.int i210), .val (.int i211), .val (.int i212), .val (.int i213), .val (.int i214), .val (.int i215), .val (.ref b216), .val (.int i229), .val (.int i230), .val (.int i231), .val (.int i232)] [])) _
        refine XS.iconst X235.here hx rfl (hb hby at_278) ?_
        show Steps p.tables e below (T235.setTop (mkF m 279 #[.val (.int p0), .val (.int p1), .val (.int p2), .val (.int p3), .val (.int p4), .val (.int (1 : Int32)), .val (.int i209), .val (.int i210), .val (.int i211), .val (.int i212), .val (.int i213), .val (.int i214), .val (.int i215), .val (.ref b216), .val (.int i229), .val (.int i230), .val (.int i231), .val (.int i232)] [(.int (1 : Int32))])) _
        refine XS.goto X235.here hx rfl (pc0 := 279) (pc' := 283) rfl (hb hby at_279) (by decide) (by decide) ?_
        show Steps p.tables e below (T235.setTop (mkF m 283 #[.val (.int p0), .val (.int p1), .val (.int p2), .val (.int p3), .val (.int p4), .val (.int (1 : Int32)), .val (.int i209), .val (.int i210), .val (.int i211), .val (.int i212), .val (.int i213), .val (.int i214), .val (.int i215), .val (.ref b216), .val (.int i229), .val (.int i230), .val (.int i231), .val (.int i232)] [(.int (1 : Int32))])) _
        exact retN X235 hx (t := .boolean) Bd.returns (by simp) (hb hby at_283) hr
      · show Q0 Z p0 p1 p2 p3 p4 wSUSCEPTIBLE wRECOVERED wINFECTED h0 n0 _ T235.heap _
        rw [e235]
        exact ⟨rfl, N235⟩
    · obtain ⟨_, _, ⟨T237, L237, k237, n237⟩, -, X237, ⟨Lc237, hQ237, l237, y237, z237⟩, st237⟩ := Jvm.LawKit.callS X217 hx (y := (⟨"com/example/rippletide/rippletide/model/StateChangesHashCodePinLaw", "state", "(I)Lcom/example/rippletide/rippletide/model/State;"⟩ : MethodName)) hown (mvT hZ (hw _ (List.mem_of_getElem? (i := 15) rfl))) (mvT hZ (hw _ (List.mem_of_getElem? (i := 16) rfl))) (mvT hZ (hw _ (List.mem_of_getElem? (i := 17) rfl))) (mvT hZ (hw _ (List.mem_of_getElem? (i := 18) rfl))) (by decide) (backOf (W := 2) (rm1 l Z a0 hw [] i215 wSUSCEPTIBLE wRECOVERED wINFECTED T217.heap n0 (Nat.le_trans Z0 KK217.1) (W0.ext EX217) ) hZ (hw _ (List.mem_of_getElem? (i := 18) rfl)) (hw _ (List.mem_of_getElem? (i := 17) rfl)) (by decide) (by decide)) (g := (mkF m 92 #[.val (.int p0), .val (.int p1), .val (.int p2), .val (.int p3), .val (.int p4), .val (.int (1 : Int32)), .val (.int i209), .val (.int i210), .val (.int i211), .val (.int i212), .val (.int i213), .val (.int i214), .val (.int i215), .val (.ref b216), .unset, .unset, .unset, .unset] [(.int i215), (.int ((p4.toUInt32 >>> ((1 : Int32) &&& 31).toUInt32).toInt32)), (.ref b216)])) rfl (by rw [hml]; rfl) (argsL := [(.int i215)]) (rest := [(.int ((p4.toUInt32 >>> ((1 : Int32) &&& 31).toUInt32).toInt32)), (.ref b216)]) (lenOf pd_2 rfl) rfl (by show 2 * 0 + _ ≤ _; exact Nat.le_of_eq rfl) (hb hby at_92) (fun _ _ => ⟨rfl, rfl, (by decide : 3 + 0 ≤ _), (by decide : 35 + 0 ≤ _)⟩)
      dsimp only [Pt.U, Pt.locs, Pt.cells, Pt.slots] at X237 l237 y237 z237 st237 hQ237
      subst l237 y237 z237
      unfold Q1 at hQ237
      have k238 : ∀ t, Steps p.tables e below (T217.setTop (mkF m 92 #[.val (.int p0), .val (.int p1), .val (.int p2), .val (.int p3), .val (.int p4), .val (.int (1 : Int32)), .val (.int i209), .val (.int i210), .val (.int i211), .val (.int i212), .val (.int i213), .val (.int i214), .val (.int i215), .val (.ref b216), .unset, .unset, .unset, .unset] [(.int i215), (.int ((p4.toUInt32 >>> ((1 : Int32) &&& 31).toUInt32).toInt32)), (.ref b216)])) t → Steps p.tables e below (s₁.setTop (entryFrame m #[(.int p0), (.int p1), (.int p2), (.int p3), (.int p4)] maxLocals)) t := fun t kt => k221 t (by
        show Steps p.tables e below (T217.setTop (mkF m 81 #[.val (.int p0), .val (.int p1), .val (.int p2), .val (.int p3), .val (.int p4), .val (.int (1 : Int32)), .val (.int i209), .val (.int i210), .val (.int i211), .val (.int i212), .val (.int i213), .val (.int i214), .val (.int i215), .val (.ref b216), .unset, .unset, .unset, .unset] [(.int (p4 &&& (1 : Int32)))])) _
        refine XS.ifNo X217.here hx rfl (hb hby at_81) rfl ((if0 _ _).trans (feq (hc222 : ¬ ((p4 &&& (1 : Int32)) = (0 : Int32)))).1) ?_
        show Steps p.tables e below (T217.setTop (mkF m 84 #[.val (.int p0), .val (.int p1), .val (.int p2), .val (.int p3), .val (.int p4), .val (.int (1 : Int32)), .val (.int i209), .val (.int i210), .val (.int i211), .val (.int i212), .val (.int i213), .val (.int i214), .val (.int i215), .val (.ref b216), .unset, .unset, .unset, .unset] [])) _
        refine XS.aload X217.here hx rfl (hb hby at_84) rfl rfl ?_
        show Steps p.tables e below (T217.setTop (mkF m 86 #[.val (.int p0), .val (.int p1), .val (.int p2), .val (.int p3), .val (.int p4), .val (.int (1 : Int32)), .val (.int i209), .val (.int i210), .val (.int i211), .val (.int i212), .val (.int i213), .val (.int i214), .val (.int i215), .val (.ref b216), .unset, .unset, .unset, .unset] [(.ref b216)])) _
        refine XS.iload X217.here hx rfl (hb hby at_86) rfl ?_
        show Steps p.tables e below (T217.setTop (mkF m 88 #[.val (.int p0), .val (.int p1), .val (.int p2), .val (.int p3), .val (.int p4), .val (.int (1 : Int32)), .val (.int i209), .val (.int i210), .val (.int i211), .val (.int i212), .val (.int i213), .val (.int i214), .val (.int i215), .val (.ref b216), .unset, .unset, .unset, .unset] [(.int p4), (.ref b216)])) _
        refine XS.iconst X217.here hx rfl (hb hby at_88) ?_
        show Steps p.tables e below (T217.setTop (mkF m 89 #[.val (.int p0), .val (.int p1), .val (.int p2), .val (.int p3), .val (.int p4), .val (.int (1 : Int32)), .val (.int i209), .val (.int i210), .val (.int i211), .val (.int i212), .val (.int i213), .val (.int i214), .val (.int i215), .val (.ref b216), .unset, .unset, .unset, .unset] [(.int (1 : Int32)), (.int p4), (.ref b216)])) _
        refine XS.iushr X217.here hx rfl (hb hby at_89) rfl ?_
        show Steps p.tables e below (T217.setTop (mkF m 90 #[.val (.int p0), .val (.int p1), .val (.int p2), .val (.int p3), .val (.int p4), .val (.int (1 : Int32)), .val (.int i209), .val (.int i210), .val (.int i211), .val (.int i212), .val (.int i213), .val (.int i214), .val (.int i215), .val (.ref b216), .unset, .unset, .unset, .unset] [(.int ((p4.toUInt32 >>> ((1 : Int32) &&& 31).toUInt32).toInt32)), (.ref b216)])) _
        refine XS.iload X217.here hx rfl (hb hby at_90) rfl ?_
        exact kt)
      obtain ⟨r239, hr239⟩ : ∃ z, z = (f1 i215 wSUSCEPTIBLE wRECOVERED wINFECTED) := ⟨_, rfl⟩
      rw [← hr239] at hQ237
      obtain ⟨rfl, N237q, e237⟩ := hQ237
      have N237 := Fr.app N217 N237q
      have PFr239 := own_state W0 (own_cs3 hi215)
      rw [← hr239] at PFr239
      obtain ⟨E_r239, F_r239⟩ := PFr239
      obtain ⟨cq240, kq240, q240a, q240b, q240c⟩ := isOf hZ e237 E_b216_217
      obtain ⟨_, _, ⟨T240, L240, k240, n240⟩, -, X240, ⟨Lc240, hQ240, l240, y240, z240⟩, st240⟩ := X237.virtualBack hx (y := (⟨"com/example/rippletide/rippletide/model/StateChanges", "add", "(ILcom/example/rippletide/rippletide/model/State;)V"⟩ : MethodName)) (z := (⟨"com/example/rippletide/rippletide/model/StateChanges", "add", "(ILcom/example/rippletide/rippletide/model/State;)V"⟩ : MethodName)) hown (mvT hZ (hw _ (List.mem_of_getElem? (i := 22) rfl))) (mvT hZ (hw _ (List.mem_of_getElem? (i := 23) rfl))) (notFace_of_selects (args := #[]) (mvT hZ (hw _ (List.mem_of_getElem? (i := 25) rfl)))) (mvT hZ (hw _ (List.mem_of_getElem? (i := 25) rfl))) (mvT hZ (hw _ (List.mem_of_getElem? (i := 24) rfl))) (by decide) (backOf (W := 0) (rm4 l Z a0 hw [] b216 ((p4.toUInt32 >>> ((1 : Int32) &&& 31).toUInt32).toInt32) r239 b_vertices_217 k_vertices_217 (0 : Int32) (0 : Int32) (0 : Int32) b_states_217 k_states_217 (0 : Int32) (0 : Int32) (0 : Int32) i215 wSUSCEPTIBLE wRECOVERED wINFECTED h0 T217.heap n0 (Nat.le_trans Z0 KK217.1) W0 EX217 Zs ⟨E_b216_217, g_b216_217, G_b216_vertices_217, G_b216_states_217, G_b216_count_217, g_b216_vertices_217, ne_b216_vertices_217, V_b216_vertices_217, g_b216_states_217, ne_b216_states_217, V_b216_states_217, nn_b216_vertices_states_217, trivial⟩ F_r239 E_r239 (own_nn (n := 1) (by decide) (by decide) (by decide))) hZ (hw _ (List.mem_of_getElem? (i := 26) rfl)) (hw _ (List.mem_of_getElem? (i := 2) rfl)) (by decide) (by decide)) q240a q240c (g := (mkF m 95 #[.val (.int p0), .val (.int p1), .val (.int p2), .val (.int p3), .val (.int p4), .val (.int (1 : Int32)), .val (.int i209), .val (.int i210), .val (.int i211), .val (.int i212), .val (.int i213), .val (.int i214), .val (.int i215), .val (.ref b216), .unset, .unset, .unset, .unset] [(.ref r239), (.int ((p4.toUInt32 >>> ((1 : Int32) &&& 31).toUInt32).toInt32)), (.ref b216)])) rfl (by rw [hml]; rfl) (Steps.refl _) (argsL := [(.int ((p4.toUInt32 >>> ((1 : Int32) &&& 31).toUInt32).toInt32)), (.ref r239)]) (rest := []) (lenOf pd_3 rfl) rfl (by show 2 * 0 + _ ≤ _; exact Nat.le_of_eq rfl) (hb hby at_95) (fun _ _ => ⟨rfl, e237, (by decide : 3 + 0 ≤ _), (by decide : 35 + 0 ≤ _)⟩)
      dsimp only [Pt.U, Pt.locs, Pt.cells, Pt.slots] at X240 l240 y240 z240 st240 hQ240
      subst l240 y240 z240
      unfold Q4 at hQ240
      have k241 : ∀ t, Steps p.tables e below (T237.setTop (mkF m 95 #[.val (.int p0), .val (.int p1), .val (.int p2), .val (.int p3), .val (.int p4), .val (.int (1 : Int32)), .val (.int i209), .val (.int i210), .val (.int i211), .val (.int i212), .val (.int i213), .val (.int i214), .val (.int i215), .val (.ref b216), .unset, .unset, .unset, .unset] [(.ref r239), (.int ((p4.toUInt32 >>> ((1 : Int32) &&& 31).toUInt32).toInt32)), (.ref b216)])) t → Steps p.tables e below (s₁.setTop (entryFrame m #[(.int p0), (.int p1), (.int p2), (.int p3), (.int p4)] maxLocals)) t := fun t kt => k238 t (by
        show Steps p.tables e below (T217.setTop (mkF m 92 #[.val (.int p0), .val (.int p1), .val (.int p2), .val (.int p3), .val (.int p4), .val (.int (1 : Int32)), .val (.int i209), .val (.int i210), .val (.int i211), .val (.int i212), .val (.int i213), .val (.int i214), .val (.int i215), .val (.ref b216), .unset, .unset, .unset, .unset] [(.int i215), (.int ((p4.toUInt32 >>> ((1 : Int32) &&& 31).toUInt32).toInt32)), (.ref b216)])) _
        refine st237 _ ?_
        exact kt)
      obtain ⟨rfl, N240q, EXc240, Kc240, OB240_p0⟩ := hQ240
      have N240 := Fr.app N237 N240q
      have EX240 : Ext h0 T240.heap := EXc240
      have KK240 : Keep h0 T240.heap ([] : List Addr) := Keep.trans KK217 Kc240 (allS (Or.inr (Nat.le_trans Zs g_b216_vertices_217)) (allS (Or.inr (Nat.le_trans Zs g_b216_states_217)) (allS (Or.inr (Nat.le_trans Zs g_b216_217)) all0)))
      have OBx240_p0 : Obj Z T240.heap n0 b216 b_vertices_217 k_vertices_217 ((p4.toUInt32 >>> ((1 : Int32) &&& 31).toUInt32).toInt32) (0 : Int32) (0 : Int32) b_states_217 k_states_217 (i215.toInt8.toInt32) (0 : Int32) (0 : Int32) (1 : Int32) := OB240_p0
      obtain ⟨E_b216_240, g_b216_240, G_b216_vertices_240, G_b216_states_240, G_b216_count_240, g_b216_vertices_240, ne_b216_vertices_240, V_b216_vertices_240, g_b216_states_240, ne_b216_states_240, V_b216_states_240, nn_b216_vertices_states_240, -⟩ := OBx240_p0
      obtain ⟨cq243, kq243, q243a, q243b, q243c⟩ := isOf hZ rfl E_b216_240
      obtain ⟨_, _, ⟨T243, L243, k243, n243⟩, -, X243, ⟨Lc243, hQ243, l243, y243, z243⟩, st243⟩ := X240.virtualBack hx (y := (⟨"com/example/rippletide/rippletide/model/StateChanges", "clear", "()V"⟩ : MethodName)) (z := (⟨"com/example/rippletide/rippletide/model/StateChanges", "clear", "()V"⟩ : MethodName)) hown (mvT hZ (hw _ (List.mem_of_getElem? (i := 48) rfl))) (mvT hZ (hw _ (List.mem_of_getElem? (i := 49) rfl))) (notFace_of_selects (args := #[]) (mvT hZ (hw _ (List.mem_of_getElem? (i := 51) rfl)))) (mvT hZ (hw _ (List.mem_of_getElem? (i := 51) rfl))) (mvT hZ (hw _ (List.mem_of_getElem? (i := 50) rfl))) (by decide) (backOf (W := 0) (rm7 l Z a0 hw [] b216 b_vertices_217 k_vertices_217 ((p4.toUInt32 >>> ((1 : Int32) &&& 31).toUInt32).toInt32) (0 : Int32) (0 : Int32) b_states_217 k_states_217 (i215.toInt8.toInt32) (0 : Int32) (0 : Int32) (1 : Int32) wSUSCEPTIBLE wRECOVERED wINFECTED h0 T240.heap n0 (Nat.le_trans Z0 KK240.1) W0 EX240 Zs ⟨E_b216_240, g_b216_240, G_b216_vertices_240, G_b216_states_240, G_b216_count_240, g_b216_vertices_240, ne_b216_vertices_240, V_b216_vertices_240, g_b216_states_240, ne_b216_states_240, V_b216_states_240, nn_b216_vertices_states_240, trivial⟩ ) hZ (hw _ (List.mem_of_getElem? (i := 52) rfl)) (hw _ (List.mem_of_getElem? (i := 2) rfl)) (by decide) (by decide)) q243a q243c (g := (mkF m 100 #[.val (.int p0), .val (.int p1), .val (.int p2), .val (.int p3), .val (.int p4), .val (.int (1 : Int32)), .val (.int i209), .val (.int i210), .val (.int i211), .val (.int i212), .val (.int i213), .val (.int i214), .val (.int i215), .val (.ref b216), .unset, .unset, .unset, .unset] [(.ref b216)])) rfl (by rw [hml]; rfl) (Steps.refl _) (argsL := []) (rest := []) (lenOf pd_1 rfl) rfl (by show 2 * 0 + _ ≤ _; exact Nat.le_of_eq rfl) (hb hby at_100) (fun _ _ => ⟨rfl, rfl, (by decide : 3 + 0 ≤ _), (by decide : 35 + 0 ≤ _)⟩)
      dsimp only [Pt.U, Pt.locs, Pt.cells, Pt.slots] at X243 l243 y243 z243 st243 hQ243
      subst l243 y243 z243
      unfold Q7 at hQ243
      have k244 : ∀ t, Steps p.tables e below (T240.setTop (mkF m 100 #[.val (.int p0), .val (.int p1), .val (.int p2), .val (.int p3), .val (.int p4), .val (.int (1 : Int32)), .val (.int i209), .val (.int i210), .val (.int i211), .val (.int i212), .val (.int i213), .val (.int i214), .val (.int i215), .val (.ref b216), .unset, .unset, .unset, .unset] [(.ref b216)])) t → Steps p.tables e below (s₁.setTop (entryFrame m #[(.int p0), (.int p1), (.int p2), (.int p3), (.int p4)] maxLocals)) t := fun t kt => k241 t (by
        show Steps p.tables e below (T237.setTop (mkF m 95 #[.val (.int p0), .val (.int p1), .val (.int p2), .val (.int p3), .val (.int p4), .val (.int (1 : Int32)), .val (.int i209), .val (.int i210), .val (.int i211), .val (.int i212), .val (.int i213), .val (.int i214), .val (.int i215), .val (.ref b216), .unset, .unset, .unset, .unset] [(.ref r239), (.int ((p4.toUInt32 >>> ((1 : Int32) &&& 31).toUInt32).toInt32)), (.ref b216)])) _
        refine st240.trans ?_
        show Steps p.tables e below (T240.setTop (mkF m 98 #[.val (.int p0), .val (.int p1), .val (.int p2), .val (.int p3), .val (.int p4), .val (.int (1 : Int32)), .val (.int i209), .val (.int i210), .val (.int i211), .val (.int i212), .val (.int i213), .val (.int i214), .val (.int i215), .val (.ref b216), .unset, .unset, .unset, .unset] [])) _
        refine XS.aload X240.here hx rfl (hb hby at_98) rfl rfl ?_
        exact kt)
      obtain ⟨rfl, N243q, EXc243, Kc243, OB243_p0⟩ := hQ243
      have N243 := Fr.app N240 N243q
      have EX243 : Ext h0 T243.heap := EXc243
      have KK243 : Keep h0 T243.heap ([] : List Addr) := Keep.trans KK240 Kc243 (allS (Or.inr (Nat.le_trans Zs g_b216_240)) all0)
      have OBx243_p0 : Obj Z T243.heap n0 b216 b_vertices_217 k_vertices_217 ((p4.toUInt32 >>> ((1 : Int32) &&& 31).toUInt32).toInt32) (0 : Int32) (0 : Int32) b_states_217 k_states_217 (i215.toInt8.toInt32) (0 : Int32) (0 : Int32) (0 : Int32) := OB243_p0
      obtain ⟨E_b216_243, g_b216_243, G_b216_vertices_243, G_b216_states_243, G_b216_count_243, g_b216_vertices_243, ne_b216_vertices_243, V_b216_vertices_243, g_b216_states_243, ne_b216_states_243, V_b216_states_243, nn_b216_vertices_states_243, -⟩ := OBx243_p0
      obtain ⟨_, _, ⟨T246, L246, k246, n246⟩, -, X246, ⟨Lc246, hQ246, l246, y246, z246⟩, st246⟩ := Jvm.LawKit.callS X243 hx (y := (⟨"com/example/rippletide/rippletide/model/StateChangesHashCodePinLaw", "state", "(I)Lcom/example/rippletide/rippletide/model/State;"⟩ : MethodName)) hown (mvT hZ (hw _ (List.mem_of_getElem? (i := 15) rfl))) (mvT hZ (hw _ (List.mem_of_getElem? (i := 16) rfl))) (mvT hZ (hw _ (List.mem_of_getElem? (i := 17) rfl))) (mvT hZ (hw _ (List.mem_of_getElem? (i := 18) rfl))) (by decide) (backOf (W := 2) (rm1 l Z a0 hw [] i212 wSUSCEPTIBLE wRECOVERED wINFECTED T243.heap n0 (Nat.le_trans Z0 KK243.1) (W0.ext EX243) ) hZ (hw _ (List.mem_of_getElem? (i := 18) rfl)) (hw _ (List.mem_of_getElem? (i := 17) rfl)) (by decide) (by decide)) (g := (mkF m 115 #[.val (.int p0), .val (.int p1), .val (.int p2), .val (.int p3), .val (.int p4), .val (.int (1 : Int32)), .val (.int i209), .val (.int i210), .val (.int i211), .val (.int i212), .val (.int i213), .val (.int i214), .val (.int i215), .val (.ref b216), .unset, .unset, .unset, .unset] [(.int i212), (.int i209), (.ref b216)])) rfl (by rw [hml]; rfl) (argsL := [(.int i212)]) (rest := [(.int i209), (.ref b216)]) (lenOf pd_2 rfl) rfl (by show 2 * 0 + _ ≤ _; exact Nat.le_of_eq rfl) (hb hby at_115) (fun _ _ => ⟨rfl, rfl, (by decide : 3 + 0 ≤ _), (by decide : 35 + 0 ≤ _)⟩)
      dsimp only [Pt.U, Pt.locs, Pt.cells, Pt.slots] at X246 l246 y246 z246 st246 hQ246
      subst l246 y246 z246
      unfold Q1 at hQ246
      have k247 : ∀ t, Steps p.tables e below (T243.setTop (mkF m 115 #[.val (.int p0), .val (.int p1), .val (.int p2), .val (.int p3), .val (.int p4), .val (.int (1 : Int32)), .val (.int i209), .val (.int i210), .val (.int i211), .val (.int i212), .val (.int i213), .val (.int i214), .val (.int i215), .val (.ref b216), .unset, .unset, .unset, .unset] [(.int i212), (.int i209), (.ref b216)])) t → Steps p.tables e below (s₁.setTop (entryFrame m #[(.int p0), (.int p1), (.int p2), (.int p3), (.int p4)] maxLocals)) t := fun t kt => k244 t (by
        show Steps p.tables e below (T240.setTop (mkF m 100 #[.val (.int p0), .val (.int p1), .val (.int p2), .val (.int p3), .val (.int p4), .val (.int (1 : Int32)), .val (.int i209), .val (.int i210), .val (.int i211), .val (.int i212), .val (.int i213), .val (.int i214), .val (.int i215), .val (.ref b216), .unset, .unset, .unset, .unset] [(.ref b216)])) _
        refine st243.trans ?_
        show Steps p.tables e below (T243.setTop (mkF m 103 #[.val (.int p0), .val (.int p1), .val (.int p2), .val (.int p3), .val (.int p4), .val (.int (1 : Int32)), .val (.int i209), .val (.int i210), .val (.int i211), .val (.int i212), .val (.int i213), .val (.int i214), .val (.int i215), .val (.ref b216), .unset, .unset, .unset, .unset] [])) _
        refine XS.iload X243.here hx rfl (hb hby at_103) rfl ?_
        show Steps p.tables e below (T243.setTop (mkF m 105 #[.val (.int p0), .val (.int p1), .val (.int p2), .val (.int p3), .val (.int p4), .val (.int (1 : Int32)), .val (.int i209), .val (.int i210), .val (.int i211), .val (.int i212), .val (.int i213), .val (.int i214), .val (.int i215), .val (.ref b216), .unset, .unset, .unset, .unset] [(.int (1 : Int32))])) _
        refine XS.iconst X243.here hx rfl (hb hby at_105) ?_
        show Steps p.tables e below (T243.setTop (mkF m 106 #[.val (.int p0), .val (.int p1), .val (.int p2), .val (.int p3), .val (.int p4), .val (.int (1 : Int32)), .val (.int i209), .val (.int i210), .val (.int i211), .val (.int i212), .val (.int i213), .val (.int i214), .val (.int i215), .val (.ref b216), .unset, .unset, .unset, .unset] [(.int (1 : Int32)), (.int (1 : Int32))])) _
        refine XS.icmpNo X243.here hx rfl (hb hby at_106) rfl (flt ((by first | exact Int32.lt_irrefl _ | decide) : ¬ ((1 : Int32) < (1 : Int32)))).1 ?_
        show Steps p.tables e below (T243.setTop (mkF m 109 #[.val (.int p0), .val (.int p1), .val (.int p2), .val (.int p3), .val (.int p4), .val (.int (1 : Int32)), .val (.int i209), .val (.int i210), .val (.int i211), .val (.int i212), .val (.int i213), .val (.int i214), .val (.int i215), .val (.ref b216), .unset, .unset, .unset, .unset] [])) _
        refine XS.aload X243.here hx rfl (hb hby at_109) rfl rfl ?_
        show Steps p.tables e below (T243.setTop (mkF m 111 #[.val (.int p0), .val (.int p1), .val (.int p2), .val (.int p3), .val (.int p4), .val (.int (1 : Int32)), .val (.int i209), .val (.int i210), .val (.int i211), .val (.int i212), .val (.int i213), .val (.int i214), .val (.int i215), .val (.ref b216), .unset, .unset, .unset, .unset] [(.ref b216)])) _
        refine XS.iload X243.here hx rfl (hb hby at_111) rfl ?_
        show Steps p.tables e below (T243.setTop (mkF m 113 #[.val (.int p0), .val (.int p1), .val (.int p2), .val (.int p3), .val (.int p4), .val (.int (1 : Int32)), .val (.int i209), .val (.int i210), .val (.int i211), .val (.int i212), .val (.int i213), .val (.int i214), .val (.int i215), .val (.ref b216), .unset, .unset, .unset, .unset] [(.int i209), (.ref b216)])) _
        refine XS.iload X243.here hx rfl (hb hby at_113) rfl ?_
        exact kt)
      obtain ⟨r248, hr248⟩ : ∃ z, z = (f1 i212 wSUSCEPTIBLE wRECOVERED wINFECTED) := ⟨_, rfl⟩
      rw [← hr248] at hQ246
      obtain ⟨rfl, N246q, e246⟩ := hQ246
      have N246 := Fr.app N243 N246q
      have PFr248 := own_state W0 (own_cs3 hi212)
      rw [← hr248] at PFr248
      obtain ⟨E_r248, F_r248⟩ := PFr248
      obtain ⟨cq249, kq249, q249a, q249b, q249c⟩ := isOf hZ e246 E_b216_243
      obtain ⟨_, _, ⟨T249, L249, k249, n249⟩, -, X249, ⟨Lc249, hQ249, l249, y249, z249⟩, st249⟩ := X246.virtualBack hx (y := (⟨"com/example/rippletide/rippletide/model/StateChanges", "add", "(ILcom/example/rippletide/rippletide/model/State;)V"⟩ : MethodName)) (z := (⟨"com/example/rippletide/rippletide/model/StateChanges", "add", "(ILcom/example/rippletide/rippletide/model/State;)V"⟩ : MethodName)) hown (mvT hZ (hw _ (List.mem_of_getElem? (i := 22) rfl))) (mvT hZ (hw _ (List.mem_of_getElem? (i := 23) rfl))) (notFace_of_selects (args := #[]) (mvT hZ (hw _ (List.mem_of_getElem? (i := 25) rfl)))) (mvT hZ (hw _ (List.mem_of_getElem? (i := 25) rfl))) (mvT hZ (hw _ (List.mem_of_getElem? (i := 24) rfl))) (by decide) (backOf (W := 0) (rm4 l Z a0 hw [] b216 i209 r248 b_vertices_217 k_vertices_217 ((p4.toUInt32 >>> ((1 : Int32) &&& 31).toUInt32).toInt32) (0 : Int32) (0 : Int32) b_states_217 k_states_217 (i215.toInt8.toInt32) (0 : Int32) (0 : Int32) i212 wSUSCEPTIBLE wRECOVERED wINFECTED h0 T243.heap n0 (Nat.le_trans Z0 KK243.1) W0 EX243 Zs ⟨E_b216_243, g_b216_243, G_b216_vertices_243, G_b216_states_243, G_b216_count_243, g_b216_vertices_243, ne_b216_vertices_243, V_b216_vertices_243, g_b216_states_243, ne_b216_states_243, V_b216_states_243, nn_b216_vertices_states_243, trivial⟩ F_r248 E_r248 A1) hZ (hw _ (List.mem_of_getElem? (i := 26) rfl)) (hw _ (List.mem_of_getElem? (i := 2) rfl)) (by decide) (by decide)) q249a q249c (g := (mkF m 118 #[.val (.int p0), .val (.int p1), .val (.int p2), .val (.int p3), .val (.int p4), .val (.int (1 : Int32)), .val (.int i209), .val (.int i210), .val (.int i211), .val (.int i212), .val (.int i213), .val (.int i214), .val (.int i215), .val (.ref b216), .unset, .unset, .unset, .unset] [(.ref r248), (.int i209), (.ref b216)])) rfl (by rw [hml]; rfl) (Steps.refl _) (argsL := [(.int i209), (.ref r248)]) (rest := []) (lenOf pd_3 rfl) rfl (by show 2 * 0 + _ ≤ _; exact Nat.le_of_eq rfl) (hb hby at_118) (fun _ _ => ⟨rfl, e246, (by decide : 3 + 0 ≤ _), (by decide : 35 + 0 ≤ _)⟩)
      dsimp only [Pt.U, Pt.locs, Pt.cells, Pt.slots] at X249 l249 y249 z249 st249 hQ249
      subst l249 y249 z249
      unfold Q4 at hQ249
      have k250 : ∀ t, Steps p.tables e below (T246.setTop (mkF m 118 #[.val (.int p0), .val (.int p1), .val (.int p2), .val (.int p3), .val (.int p4), .val (.int (1 : Int32)), .val (.int i209), .val (.int i210), .val (.int i211), .val (.int i212), .val (.int i213), .val (.int i214), .val (.int i215), .val (.ref b216), .unset, .unset, .unset, .unset] [(.ref r248), (.int i209), (.ref b216)])) t → Steps p.tables e below (s₁.setTop (entryFrame m #[(.int p0), (.int p1), (.int p2), (.int p3), (.int p4)] maxLocals)) t := fun t kt => k247 t (by
        show Steps p.tables e below (T243.setTop (mkF m 115 #[.val (.int p0), .val (.int p1), .val (.int p2), .val (.int p3), .val (.int p4), .val (.int (1 : Int32)), .val (.int i209), .val (.int i210), .val (.int i211), .val (.int i212), .val (.int i213), .val (.int i214), .val (.int i215), .val (.ref b216), .unset, .unset, .unset, .unset] [(.int i212), (.int i209), (.ref b216)])) _
        refine st246 _ ?_
        exact kt)
      obtain ⟨rfl, N249q, EXc249, Kc249, OB249_p0⟩ := hQ249
      have N249 := Fr.app N246 N249q
      have EX249 : Ext h0 T249.heap := EXc249
      have KK249 : Keep h0 T249.heap ([] : List Addr) := Keep.trans KK243 Kc249 (allS (Or.inr (Nat.le_trans Zs g_b216_vertices_243)) (allS (Or.inr (Nat.le_trans Zs g_b216_states_243)) (allS (Or.inr (Nat.le_trans Zs g_b216_243)) all0)))
      have OBx249_p0 : Obj Z T249.heap n0 b216 b_vertices_217 k_vertices_217 i209 (0 : Int32) (0 : Int32) b_states_217 k_states_217 (i212.toInt8.toInt32) (0 : Int32) (0 : Int32) (1 : Int32) := OB249_p0
      obtain ⟨E_b216_249, g_b216_249, G_b216_vertices_249, G_b216_states_249, G_b216_count_249, g_b216_vertices_249, ne_b216_vertices_249, V_b216_vertices_249, g_b216_states_249, ne_b216_states_249, V_b216_states_249, nn_b216_vertices_states_249, -⟩ := OBx249_p0
      obtain ⟨i252, hi252⟩ : ∃ z, z = (((31 : Int32) * i209) + i212) := ⟨_, rfl⟩
      obtain ⟨i253, hi253⟩ : ∃ z, z = (((31 : Int32) * i210) + i213) := ⟨_, rfl⟩
      obtain ⟨i254, hi254⟩ : ∃ z, z = (((31 : Int32) * i211) + i214) := ⟨_, rfl⟩
      obtain ⟨i255, hi255⟩ : ∃ z, z = ((961 : Int32) + i252) := ⟨_, rfl⟩
      obtain ⟨cq256, kq256, q256a, q256b, q256c⟩ := isOf hZ rfl E_b216_249
      obtain ⟨_, _, ⟨T256, L256, k256, n256⟩, -, X256, ⟨Lc256, hQ256, l256, y256, z256⟩, st256⟩ := X249.virtualBack hx (y := (⟨"com/example/rippletide/rippletide/model/StateChanges", "hashCode", "()I"⟩ : MethodName)) (z := (⟨"com/example/rippletide/rippletide/model/StateChanges", "hashCode", "()I"⟩ : MethodName)) hown (mvT hZ (hw _ (List.mem_of_getElem? (i := 38) rfl))) (mvT hZ (hw _ (List.mem_of_getElem? (i := 39) rfl))) (notFace_of_selects (args := #[]) (mvT hZ (hw _ (List.mem_of_getElem? (i := 41) rfl)))) (mvT hZ (hw _ (List.mem_of_getElem? (i := 41) rfl))) (mvT hZ (hw _ (List.mem_of_getElem? (i := 40) rfl))) (by decide) (backOf (W := 0) (rm9 l Z a0 hw [] b216 b_vertices_217 k_vertices_217 i209 (0 : Int32) (0 : Int32) b_states_217 k_states_217 (i212.toInt8.toInt32) (0 : Int32) (0 : Int32) wSUSCEPTIBLE wRECOVERED wINFECTED h0 T249.heap n0 (Nat.le_trans Z0 KK249.1) W0 EX249 Zs ⟨E_b216_249, g_b216_249, G_b216_vertices_249, G_b216_states_249, G_b216_count_249, g_b216_vertices_249, ne_b216_vertices_249, V_b216_vertices_249, g_b216_states_249, ne_b216_states_249, V_b216_states_249, nn_b216_vertices_states_249, trivial⟩ ) hZ (hw _ (List.mem_of_getElem? (i := 42) rfl)) (hw _ (List.mem_of_getElem? (i := 2) rfl)) (by decide) (by decide)) q256a q256c (g := (mkF m 260 #[.val (.int p0), .val (.int p1), .val (.int p2), .val (.int p3), .val (.int p4), .val (.int (1 : Int32)), .val (.int i209), .val (.int i210), .val (.int i211), .val (.int i212), .val (.int i213), .val (.int i214), .val (.int i215), .val (.ref b216), .val (.int i252), .val (.int i253), .val (.int i254), .val (.int i255)] [(.ref b216)])) rfl (by rw [hml]; rfl) (Steps.refl _) (argsL := []) (rest := []) (lenOf pd_0 rfl) rfl (by show 2 * 0 + _ ≤ _; exact Nat.le_of_eq rfl) (hb hby at_260) (fun _ _ => ⟨rfl, rfl, (by decide : 3 + 0 ≤ _), (by decide : 35 + 0 ≤ _)⟩)
      dsimp only [Pt.U, Pt.locs, Pt.cells, Pt.slots] at X256 l256 y256 z256 st256 hQ256
      subst l256 y256 z256
      unfold Q9 at hQ256
      have k257 : ∀ t, Steps p.tables e below (T249.setTop (mkF m 260 #[.val (.int p0), .val (.int p1), .val (.int p2), .val (.int p3), .val (.int p4), .val (.int (1 : Int32)), .val (.int i209), .val (.int i210), .val (.int i211), .val (.int i212), .val (.int i213), .val (.int i214), .val (.int i215), .val (.ref b216), .val (.int i252), .val (.int i253), .val (.int i254), .val (.int i255)] [(.ref b216)])) t → Steps p.tables e below (s₁.setTop (entryFrame m #[(.int p0), (.int p1), (.int p2), (.int p3), (.int p4)] maxLocals)) t := fun t kt => k250 t (by
        show Steps p.tables e below (T246.setTop (mkF m 118 #[.val (.int p0), .val (.int p1), .val (.int p2), .val (.int p3), .val (.int p4), .val (.int (1 : Int32)), .val (.int i209), .val (.int i210), .val (.int i211), .val (.int i212), .val (.int i213), .val (.int i214), .val (.int i215), .val (.ref b216), .unset, .unset, .unset, .unset] [(.ref r248), (.int i209), (.ref b216)])) _
        refine st249.trans ?_
        show Steps p.tables e below (T249.setTop (mkF m 121 #[.val (.int p0), .val (.int p1), .val (.int p2), .val (.int p3), .val (.int p4), .val (.int (1 : Int32)), .val (.int i209), .val (.int i210), .val (.int i211), .val (.int i212), .val (.int i213), .val (.int i214), .val (.int i215), .val (.ref b216), .unset, .unset, .unset, .unset] [])) _
        refine XS.iload X249.here hx rfl (hb hby at_121) rfl ?_
        show Steps p.tables e below (T249.setTop (mkF m 123 #[.val (.int p0), .val (.int p1), .val (.int p2), .val (.int p3), .val (.int p4), .val (.int (1 : Int32)), .val (.int i209), .val (.int i210), .val (.int i211), .val (.int i212), .val (.int i213), .val (.int i214), .val (.int i215), .val (.ref b216), .unset, .unset, .unset, .unset] [(.int (1 : Int32))])) _
        refine XS.iconst X249.here hx rfl (hb hby at_123) ?_
        show Steps p.tables e below (T249.setTop (mkF m 124 #[.val (.int p0), .val (.int p1), .val (.int p2), .val (.int p3), .val (.int p4), .val (.int (1 : Int32)), .val (.int i209), .val (.int i210), .val (.int i211), .val (.int i212), .val (.int i213), .val (.int i214), .val (.int i215), .val (.ref b216), .unset, .unset, .unset, .unset] [(.int (2 : Int32)), (.int (1 : Int32))])) _
        refine XS.icmpYes X249.here hx rfl (pc0 := 124) (pc' := 139) rfl (hb hby at_124) rfl (tlt ((by decide) : (1 : Int32) < (2 : Int32))).1 (by decide) (by decide) ?_
        show Steps p.tables e below (T249.setTop (mkF m 139 #[.val (.int p0), .val (.int p1), .val (.int p2), .val (.int p3), .val (.int p4), .val (.int (1 : Int32)), .val (.int i209), .val (.int i210), .val (.int i211), .val (.int i212), .val (.int i213), .val (.int i214), .val (.int i215), .val (.ref b216), .unset, .unset, .unset, .unset] [])) _
        refine XS.iload X249.here hx rfl (hb hby at_139) rfl ?_
        show Steps p.tables e below (T249.setTop (mkF m 141 #[.val (.int p0), .val (.int p1), .val (.int p2), .val (.int p3), .val (.int p4), .val (.int (1 : Int32)), .val (.int i209), .val (.int i210), .val (.int i211), .val (.int i212), .val (.int i213), .val (.int i214), .val (.int i215), .val (.ref b216), .unset, .unset, .unset, .unset] [(.int (1 : Int32))])) _
        refine XS.iconst X249.here hx rfl (hb hby at_141) ?_
        show Steps p.tables e below (T249.setTop (mkF m 142 #[.val (.int p0), .val (.int p1), .val (.int p2), .val (.int p3), .val (.int p4), .val (.int (1 : Int32)), .val (.int i209), .val (.int i210), .val (.int i211), .val (.int i212), .val (.int i213), .val (.int i214), .val (.int i215), .val (.ref b216), .unset, .unset, .unset, .unset] [(.int (3 : Int32)), (.int (1 : Int32))])) _
        refine XS.icmpYes X249.here hx rfl (pc0 := 142) (pc' := 157) rfl (hb hby at_142) rfl (tlt ((by decide) : (1 : Int32) < (3 : Int32))).1 (by decide) (by decide) ?_
        show Steps p.tables e below (T249.setTop (mkF m 157 #[.val (.int p0), .val (.int p1), .val (.int p2), .val (.int p3), .val (.int p4), .val (.int (1 : Int32)), .val (.int i209), .val (.int i210), .val (.int i211), .val (.int i212), .val (.int i213), .val (.int i214), .val (.int i215), .val (.ref b216), .unset, .unset, .unset, .unset] [])) _
        refine XS.bipush X249.here hx rfl (hb hby at_157) ?_
        show Steps p.tables e below (T249.setTop (mkF m 159 #[.val (.int p0), .val (.int p1), .val (.int p2), .val (.int p3), .val (.int p4), .val (.int (1 : Int32)), .val (.int i209), .val (.int i210), .val (.int i211), .val (.int i212), .val (.int i213), .val (.int i214), .val (.int i215), .val (.ref b216), .unset, .unset, .unset, .unset] [(.int (31 : Int32))])) _
        refine XS.iload X249.here hx rfl (hb hby at_159) rfl ?_
        show Steps p.tables e below (T249.setTop (mkF m 161 #[.val (.int p0), .val (.int p1), .val (.int p2), .val (.int p3), .val (.int p4), .val (.int (1 : Int32)), .val (.int i209), .val (.int i210), .val (.int i211), .val (.int i212), .val (.int i213), .val (.int i214), .val (.int i215), .val (.ref b216), .unset, .unset, .unset, .unset] [(.int i209), (.int (31 : Int32))])) _
        refine XS.imul X249.here hx rfl (hb hby at_161) rfl ?_
        show Steps p.tables e below (T249.setTop (mkF m 162 #[.val (.int p0), .val (.int p1), .val (.int p2), .val (.int p3), .val (.int p4), .val (.int (1 : Int32)), .val (.int i209), .val (.int i210), .val (.int i211), .val (.int i212), .val (.int i213), .val (.int i214), .val (.int i215), .val (.ref b216), .unset, .unset, .unset, .unset] [(.int ((31 : Int32) * i209))])) _
        refine XS.iload X249.here hx rfl (hb hby at_162) rfl ?_
        show Steps p.tables e below (T249.setTop (mkF m 164 #[.val (.int p0), .val (.int p1), .val (.int p2), .val (.int p3), .val (.int p4), .val (.int (1 : Int32)), .val (.int i209), .val (.int i210), .val (.int i211), .val (.int i212), .val (.int i213), .val (.int i214), .val (.int i215), .val (.ref b216), .unset, .unset, .unset, .unset] [(.int i212), (.int ((31 : Int32) * i209))])) _
        refine XS.iadd X249.here hx rfl (hb hby at_164) rfl ?_
        rw [← hi252]
        show Steps p.tables e below (T249.setTop (mkF m 165 #[.val (.int p0), .val (.int p1), .val (.int p2), .val (.int p3), .val (.int p4), .val (.int (1 : Int32)), .val (.int i209), .val (.int i210), .val (.int i211), .val (.int i212), .val (.int i213), .val (.int i214), .val (.int i215), .val (.ref b216), .unset, .unset, .unset, .unset] [(.int i252)])) _
        refine XS.istore X249.here hx rfl (hb hby at_165) rfl (l' := #[.val (.int p0), .val (.int p1), .val (.int p2), .val (.int p3), .val (.int p4), .val (.int (1 : Int32)), .val (.int i209), .val (.int i210), .val (.int i211), .val (.int i212), .val (.int i213), .val (.int i214), .val (.int i215), .val (.ref b216), .val (.int i252), .unset, .unset, .unset]) rfl ?_
        show Steps p.tables e below (T249.setTop (mkF m 167 #[.val (.int p0), .val (.int p1), .val (.int p2), .val (.int p3), .val (.int p4), .val (.int (1 : Int32)), .val (.int i209), .val (.int i210), .val (.int i211), .val (.int i212), .val (.int i213), .val (.int i214), .val (.int i215), .val (.ref b216), .val (.int i252), .unset, .unset, .unset] [])) _
        refine XS.bipush X249.here hx rfl (hb hby at_167) ?_
        show Steps p.tables e below (T249.setTop (mkF m 169 #[.val (.int p0), .val (.int p1), .val (.int p2), .val (.int p3), .val (.int p4), .val (.int (1 : Int32)), .val (.int i209), .val (.int i210), .val (.int i211), .val (.int i212), .val (.int i213), .val (.int i214), .val (.int i215), .val (.ref b216), .val (.int i252), .unset, .unset, .unset] [(.int (31 : Int32))])) _
        refine XS.iload X249.here hx rfl (hb hby at_169) rfl ?_
        show Steps p.tables e below (T249.setTop (mkF m 171 #[.val (.int p0), .val (.int p1), .val (.int p2), .val (.int p3), .val (.int p4), .val (.int (1 : Int32)), .val (.int i209), .val (.int i210), .val (.int i211), .val (.int i212), .val (.int i213), .val (.int i214), .val (.int i215), .val (.ref b216), .val (.int i252), .unset, .unset, .unset] [(.int i210), (.int (31 : Int32))])) _
        refine XS.imul X249.here hx rfl (hb hby at_171) rfl ?_
        show Steps p.tables e below (T249.setTop (mkF m 172 #[.val (.int p0), .val (.int p1), .val (.int p2), .val (.int p3), .val (.int p4), .val (.int (1 : Int32)), .val (.int i209), .val (.int i210), .val (.int i211), .val (.int i212), .val (.int i213), .val (.int i214), .val (.int i215), .val (.ref b216), .val (.int i252), .unset, .unset, .unset] [(.int ((31 : Int32) * i210))])) _
        refine XS.iload X249.here hx rfl (hb hby at_172) rfl ?_
        show Steps p.tables e below (T249.setTop (mkF m 174 #[.val (.int p0), .val (.int p1), .val (.int p2), .val (.int p3), .val (.int p4), .val (.int (1 : Int32)), .val (.int i209), .val (.int i210), .val (.int i211), .val (.int i212), .val (.int i213), .val (.int i214), .val (.int i215), .val (.ref b216), .val (.int i252), .unset, .unset, .unset] [(.int i213), (.int ((31 : Int32) * i210))])) _
        refine XS.iadd X249.here hx rfl (hb hby at_174) rfl ?_
        rw [← hi253]
        show Steps p.tables e below (T249.setTop (mkF m 175 #[.val (.int p0), .val (.int p1), .val (.int p2), .val (.int p3), .val (.int p4), .val (.int (1 : Int32)), .val (.int i209), .val (.int i210), .val (.int i211), .val (.int i212), .val (.int i213), .val (.int i214), .val (.int i215), .val (.ref b216), .val (.int i252), .unset, .unset, .unset] [(.int i253)])) _
        refine XS.istore X249.here hx rfl (hb hby at_175) rfl (l' := #[.val (.int p0), .val (.int p1), .val (.int p2), .val (.int p3), .val (.int p4), .val (.int (1 : Int32)), .val (.int i209), .val (.int i210), .val (.int i211), .val (.int i212), .val (.int i213), .val (.int i214), .val (.int i215), .val (.ref b216), .val (.int i252), .val (.int i253), .unset, .unset]) rfl ?_
        show Steps p.tables e below (T249.setTop (mkF m 177 #[.val (.int p0), .val (.int p1), .val (.int p2), .val (.int p3), .val (.int p4), .val (.int (1 : Int32)), .val (.int i209), .val (.int i210), .val (.int i211), .val (.int i212), .val (.int i213), .val (.int i214), .val (.int i215), .val (.ref b216), .val (.int i252), .val (.int i253), .unset, .unset] [])) _
        refine XS.bipush X249.here hx rfl (hb hby at_177) ?_
        show Steps p.tables e below (T249.setTop (mkF m 179 #[.val (.int p0), .val (.int p1), .val (.int p2), .val (.int p3), .val (.int p4), .val (.int (1 : Int32)), .val (.int i209), .val (.int i210), .val (.int i211), .val (.int i212), .val (.int i213), .val (.int i214), .val (.int i215), .val (.ref b216), .val (.int i252), .val (.int i253), .unset, .unset] [(.int (31 : Int32))])) _
        refine XS.iload X249.here hx rfl (hb hby at_179) rfl ?_
        show Steps p.tables e below (T249.setTop (mkF m 181 #[.val (.int p0), .val (.int p1), .val (.int p2), .val (.int p3), .val (.int p4), .val (.int (1 : Int32)), .val (.int i209), .val (.int i210), .val (.int i211), .val (.int i212), .val (.int i213), .val (.int i214), .val (.int i215), .val (.ref b216), .val (.int i252), .val (.int i253), .unset, .unset] [(.int i211), (.int (31 : Int32))])) _
        refine XS.imul X249.here hx rfl (hb hby at_181) rfl ?_
        show Steps p.tables e below (T249.setTop (mkF m 182 #[.val (.int p0), .val (.int p1), .val (.int p2), .val (.int p3), .val (.int p4), .val (.int (1 : Int32)), .val (.int i209), .val (.int i210), .val (.int i211), .val (.int i212), .val (.int i213), .val (.int i214), .val (.int i215), .val (.ref b216), .val (.int i252), .val (.int i253), .unset, .unset] [(.int ((31 : Int32) * i211))])) _
        refine XS.iload X249.here hx rfl (hb hby at_182) rfl ?_
        show Steps p.tables e below (T249.setTop (mkF m 184 #[.val (.int p0), .val (.int p1), .val (.int p2), .val (.int p3), .val (.int p4), .val (.int (1 : Int32)), .val (.int i209), .val (.int i210), .val (.int i211), .val (.int i212), .val (.int i213), .val (.int i214), .val (.int i215), .val (.ref b216), .val (.int i252), .val (.int i253), .unset, .unset] [(.int i214), (.int ((31 : Int32) * i211))])) _
        refine XS.iadd X249.here hx rfl (hb hby at_184) rfl ?_
        rw [← hi254]
        show Steps p.tables e below (T249.setTop (mkF m 185 #[.val (.int p0), .val (.int p1), .val (.int p2), .val (.int p3), .val (.int p4), .val (.int (1 : Int32)), .val (.int i209), .val (.int i210), .val (.int i211), .val (.int i212), .val (.int i213), .val (.int i214), .val (.int i215), .val (.ref b216), .val (.int i252), .val (.int i253), .unset, .unset] [(.int i254)])) _
        refine XS.istore X249.here hx rfl (hb hby at_185) rfl (l' := #[.val (.int p0), .val (.int p1), .val (.int p2), .val (.int p3), .val (.int p4), .val (.int (1 : Int32)), .val (.int i209), .val (.int i210), .val (.int i211), .val (.int i212), .val (.int i213), .val (.int i214), .val (.int i215), .val (.ref b216), .val (.int i252), .val (.int i253), .val (.int i254), .unset]) rfl ?_
        show Steps p.tables e below (T249.setTop (mkF m 187 #[.val (.int p0), .val (.int p1), .val (.int p2), .val (.int p3), .val (.int p4), .val (.int (1 : Int32)), .val (.int i209), .val (.int i210), .val (.int i211), .val (.int i212), .val (.int i213), .val (.int i214), .val (.int i215), .val (.ref b216), .val (.int i252), .val (.int i253), .val (.int i254), .unset] [])) _
        refine XS.iload X249.here hx rfl (hb hby at_187) rfl ?_
        show Steps p.tables e below (T249.setTop (mkF m 189 #[.val (.int p0), .val (.int p1), .val (.int p2), .val (.int p3), .val (.int p4), .val (.int (1 : Int32)), .val (.int i209), .val (.int i210), .val (.int i211), .val (.int i212), .val (.int i213), .val (.int i214), .val (.int i215), .val (.ref b216), .val (.int i252), .val (.int i253), .val (.int i254), .unset] [(.int (1 : Int32))])) _
        refine XS.ifYes X249.here hx rfl (pc0 := 189) (pc' := 198) rfl (hb hby at_189) rfl ((if0 _ _).trans (feq ((by decide) : ¬ ((1 : Int32) = (0 : Int32)))).2) (by decide) (by decide) ?_
        show Steps p.tables e below (T249.setTop (mkF m 198 #[.val (.int p0), .val (.int p1), .val (.int p2), .val (.int p3), .val (.int p4), .val (.int (1 : Int32)), .val (.int i209), .val (.int i210), .val (.int i211), .val (.int i212), .val (.int i213), .val (.int i214), .val (.int i215), .val (.ref b216), .val (.int i252), .val (.int i253), .val (.int i254), .unset] [])) _
        refine XS.iload X249.here hx rfl (hb hby at_198) rfl ?_
        show Steps p.tables e below (T249.setTop (mkF m 200 #[.val (.int p0), .val (.int p1), .val (.int p2), .val (.int p3), .val (.int p4), .val (.int (1 : Int32)), .val (.int i209), .val (.int i210), .val (.int i211), .val (.int i212), .val (.int i213), .val (.int i214), .val (.int i215), .val (.ref b216), .val (.int i252), .val (.int i253), .val (.int i254), .unset] [(.int (1 : Int32))])) _
        refine XS.iconst X249.here hx rfl (hb hby at_200) ?_
        show Steps p.tables e below (T249.setTop (mkF m 201 #[.val (.int p0), .val (.int p1), .val (.int p2), .val (.int p3), .val (.int p4), .val (.int (1 : Int32)), .val (.int i209), .val (.int i210), .val (.int i211), .val (.int i212), .val (.int i213), .val (.int i214), .val (.int i215), .val (.ref b216), .val (.int i252), .val (.int i253), .val (.int i254), .unset] [(.int (1 : Int32)), (.int (1 : Int32))])) _
        refine XS.icmpNo X249.here hx rfl (hb hby at_201) rfl (teq (rfl : (1 : Int32) = (1 : Int32))).2 ?_
        show Steps p.tables e below (T249.setTop (mkF m 204 #[.val (.int p0), .val (.int p1), .val (.int p2), .val (.int p3), .val (.int p4), .val (.int (1 : Int32)), .val (.int i209), .val (.int i210), .val (.int i211), .val (.int i212), .val (.int i213), .val (.int i214), .val (.int i215), .val (.ref b216), .val (.int i252), .val (.int i253), .val (.int i254), .unset] [])) _
        refine XS.sipush X249.here hx rfl (hb hby at_204) ?_
        show Steps p.tables e below (T249.setTop (mkF m 207 #[.val (.int p0), .val (.int p1), .val (.int p2), .val (.int p3), .val (.int p4), .val (.int (1 : Int32)), .val (.int i209), .val (.int i210), .val (.int i211), .val (.int i212), .val (.int i213), .val (.int i214), .val (.int i215), .val (.ref b216), .val (.int i252), .val (.int i253), .val (.int i254), .unset] [(.int (961 : Int32))])) _
        refine XS.iload X249.here hx rfl (hb hby at_207) rfl ?_
        show Steps p.tables e below (T249.setTop (mkF m 209 #[.val (.int p0), .val (.int p1), .val (.int p2), .val (.int p3), .val (.int p4), .val (.int (1 : Int32)), .val (.int i209), .val (.int i210), .val (.int i211), .val (.int i212), .val (.int i213), .val (.int i214), .val (.int i215), .val (.ref b216), .val (.int i252), .val (.int i253), .val (.int i254), .unset] [(.int i252), (.int (961 : Int32))])) _
        refine XS.iadd X249.here hx rfl (hb hby at_209) rfl ?_
        rw [← hi255]
        show Steps p.tables e below (T249.setTop (mkF m 210 #[.val (.int p0), .val (.int p1), .val (.int p2), .val (.int p3), .val (.int p4), .val (.int (1 : Int32)), .val (.int i209), .val (.int i210), .val (.int i211), .val (.int i212), .val (.int i213), .val (.int i214), .val (.int i215), .val (.ref b216), .val (.int i252), .val (.int i253), .val (.int i254), .unset] [(.int i255)])) _
        refine XS.istore X249.here hx rfl (hb hby at_210) rfl (l' := #[.val (.int p0), .val (.int p1), .val (.int p2), .val (.int p3), .val (.int p4), .val (.int (1 : Int32)), .val (.int i209), .val (.int i210), .val (.int i211), .val (.int i212), .val (.int i213), .val (.int i214), .val (.int i215), .val (.ref b216), .val (.int i252), .val (.int i253), .val (.int i254), .val (.int i255)]) rfl ?_
        show Steps p.tables e below (T249.setTop (mkF m 212 #[.val (.int p0), .val (.int p1), .val (.int p2), .val (.int p3), .val (.int p4), .val (.int (1 : Int32)), .val (.int i209), .val (.int i210), .val (.int i211), .val (.int i212), .val (.int i213), .val (.int i214), .val (.int i215), .val (.ref b216), .val (.int i252), .val (.int i253), .val (.int i254), .val (.int i255)] [])) _
        refine XS.goto X249.here hx rfl (pc0 := 212) (pc' := 258) rfl (hb hby at_212) (by decide) (by decide) ?_
        show Steps p.tables e below (T249.setTop (mkF m 258 #[.val (.int p0), .val (.int p1), .val (.int p2), .val (.int p3), .val (.int p4), .val (.int (1 : Int32)), .val (.int i209), .val (.int i210), .val (.int i211), .val (.int i212), .val (.int i213), .val (.int i214), .val (.int i215), .val (.ref b216), .val (.int i252), .val (.int i253), .val (.int i254), .val (.int i255)] [])) _
        refine XS.aload X249.here hx rfl (hb hby at_258) rfl rfl ?_
        exact kt)
      rw [((by rw [f9]) : (f9 b216 b_vertices_217 k_vertices_217 i209 (0 : Int32) (0 : Int32) b_states_217 k_states_217 (i212.toInt8.toInt32) (0 : Int32) (0 : Int32) wSUSCEPTIBLE wRECOVERED wINFECTED) = (((31 : Int32) * (((31 : Int32) * (1 : Int32)) + i209)) + (i212.toInt8.toInt32)))] at hQ256
      obtain ⟨rfl, N256q, e256⟩ := hQ256
      have N256 := Fr.app N249 N256q
      obtain ⟨cq258, kq258, q258a, q258b, q258c⟩ := isOf hZ e256 E_b216_249
      obtain ⟨_, _, ⟨T258, L258, k258, n258⟩, -, X258, ⟨Lc258, hQ258, l258, y258, z258⟩, st258⟩ := X256.virtualBack hx (y := (⟨"com/example/rippletide/rippletide/model/StateChanges", "count", "()I"⟩ : MethodName)) (z := (⟨"com/example/rippletide/rippletide/model/StateChanges", "count", "()I"⟩ : MethodName)) hown (mvT hZ (hw _ (List.mem_of_getElem? (i := 43) rfl))) (mvT hZ (hw _ (List.mem_of_getElem? (i := 44) rfl))) (notFace_of_selects (args := #[]) (mvT hZ (hw _ (List.mem_of_getElem? (i := 46) rfl)))) (mvT hZ (hw _ (List.mem_of_getElem? (i := 46) rfl))) (mvT hZ (hw _ (List.mem_of_getElem? (i := 45) rfl))) (by decide) (backOf (W := 0) (rm12 l Z a0 hw [] b216 b_vertices_217 k_vertices_217 i209 (0 : Int32) (0 : Int32) b_states_217 k_states_217 (i212.toInt8.toInt32) (0 : Int32) (0 : Int32) (1 : Int32) wSUSCEPTIBLE wRECOVERED wINFECTED h0 T249.heap n0 (Nat.le_trans Z0 KK249.1) W0 EX249 Zs ⟨E_b216_249, g_b216_249, G_b216_vertices_249, G_b216_states_249, G_b216_count_249, g_b216_vertices_249, ne_b216_vertices_249, V_b216_vertices_249, g_b216_states_249, ne_b216_states_249, V_b216_states_249, nn_b216_vertices_states_249, trivial⟩ ) hZ (hw _ (List.mem_of_getElem? (i := 47) rfl)) (hw _ (List.mem_of_getElem? (i := 2) rfl)) (by decide) (by decide)) q258a q258c (g := (mkF m 270 #[.val (.int p0), .val (.int p1), .val (.int p2), .val (.int p3), .val (.int p4), .val (.int (1 : Int32)), .val (.int i209), .val (.int i210), .val (.int i211), .val (.int i212), .val (.int i213), .val (.int i214), .val (.int i215), .val (.ref b216), .val (.int i252), .val (.int i253), .val (.int i254), .val (.int i255)] [(.ref b216)])) rfl (by rw [hml]; rfl) (Steps.refl _) (argsL := []) (rest := []) (lenOf pd_0 rfl) rfl (by show 2 * 0 + _ ≤ _; exact Nat.le_of_eq rfl) (hb hby at_270) (fun _ _ => ⟨rfl, e256, (by decide : 3 + 0 ≤ _), (by decide : 35 + 0 ≤ _)⟩)
      dsimp only [Pt.U, Pt.locs, Pt.cells, Pt.slots] at X258 l258 y258 z258 st258 hQ258
      subst l258 y258 z258
      unfold Q12 at hQ258
      have k259 : ∀ t, Steps p.tables e below (T256.setTop (mkF m 270 #[.val (.int p0), .val (.int p1), .val (.int p2), .val (.int p3), .val (.int p4), .val (.int (1 : Int32)), .val (.int i209), .val (.int i210), .val (.int i211), .val (.int i212), .val (.int i213), .val (.int i214), .val (.int i215), .val (.ref b216), .val (.int i252), .val (.int i253), .val (.int i254), .val (.int i255)] [(.ref b216)])) t → Steps p.tables e below (s₁.setTop (entryFrame m #[(.int p0), (.int p1), (.int p2), (.int p3), (.int p4)] maxLocals)) t := fun t kt => k257 t (by
        show Steps p.tables e below (T249.setTop (mkF m 260 #[.val (.int p0), .val (.int p1), .val (.int p2), .val (.int p3), .val (.int p4), .val (.int (1 : Int32)), .val (.int i209), .val (.int i210), .val (.int i211), .val (.int i212), .val (.int i213), .val (.int i214), .val (.int i215), .val (.ref b216), .val (.int i252), .val (.int i253), .val (.int i254), .val (.int i255)] [(.ref b216)])) _
        refine st256.trans ?_
        show Steps p.tables e below (T256.setTop (mkF m 263 #[.val (.int p0), .val (.int p1), .val (.int p2), .val (.int p3), .val (.int p4), .val (.int (1 : Int32)), .val (.int i209), .val (.int i210), .val (.int i211), .val (.int i212), .val (.int i213), .val (.int i214), .val (.int i215), .val (.ref b216), .val (.int i252), .val (.int i253), .val (.int i254), .val (.int i255)] [(.int (((31 : Int32) * (((31 : Int32) * (1 : Int32)) + i209)) + (i212.toInt8.toInt32)))])) _
        refine XS.iload X256.here hx rfl (hb hby at_263) rfl ?_
        show Steps p.tables e below (T256.setTop (mkF m 265 #[.val (.int p0), .val (.int p1), .val (.int p2), .val (.int p3), .val (.int p4), .val (.int (1 : Int32)), .val (.int i209), .val (.int i210), .val (.int i211), .val (.int i212), .val (.int i213), .val (.int i214), .val (.int i215), .val (.ref b216), .val (.int i252), .val (.int i253), .val (.int i254), .val (.int i255)] [(.int i255), (.int (((31 : Int32) * (((31 : Int32) * (1 : Int32)) + i209)) + (i212.toInt8.toInt32)))])) _
        refine XS.icmpNo X256.here hx rfl (hb hby at_265) rfl (teq ((by rw [hi255, hi252, own_byte hi212]; grind) : (((31 : Int32) * (((31 : Int32) * (1 : Int32)) + i209)) + (i212.toInt8.toInt32)) = i255)).2 ?_
        show Steps p.tables e below (T256.setTop (mkF m 268 #[.val (.int p0), .val (.int p1), .val (.int p2), .val (.int p3), .val (.int p4), .val (.int (1 : Int32)), .val (.int i209), .val (.int i210), .val (.int i211), .val (.int i212), .val (.int i213), .val (.int i214), .val (.int i215), .val (.ref b216), .val (.int i252), .val (.int i253), .val (.int i254), .val (.int i255)] [])) _
        refine XS.aload X256.here hx rfl (hb hby at_268) rfl rfl ?_
        exact kt)
      rw [((by rw [f12]) : (f12 b216 b_vertices_217 k_vertices_217 i209 (0 : Int32) (0 : Int32) b_states_217 k_states_217 (i212.toInt8.toInt32) (0 : Int32) (0 : Int32) (1 : Int32) wSUSCEPTIBLE wRECOVERED wINFECTED) = (1 : Int32))] at hQ258
      obtain ⟨rfl, N258q, e258⟩ := hQ258
      have N258 := Fr.app N256 N258q
      obtain ⟨fs, hr, hrun, hended, hW, hsame⟩ := X258.leave (v := some (.int (1 : Int32))) (fun h => by rw [Bd.returns] at h; cases h)
      refine ⟨_, _, k259 _ ?_, hrun, hended, _, _, rfl, ?_, ⟨_, rfl⟩, hW, hsame.mono (by decide) (by decide)⟩
      · show Steps p.tables e below (T256.setTop (mkF m 270 #[.val (.int p0), .val (.int p1), .val (.int p2), .val (.int p3), .val (.int p4), .val (.int (1 : Int32)), .val (.int i209), .val (.int i210), .val (.int i211), .val (.int i212), .val (.int i213), .val (.int i214), .val (.int i215), .val (.ref b216), .val (.int i252), .val (.int i253), .val (.int i254), .val (.int i255)] [(.ref b216)])) _
        refine st258.trans ?_
        show Steps p.tables e below (T258.setTop (mkF m 273 #[.val (.int p0), .val (.int p1), .val (.int p2), .val (.int p3), .val (.int p4), .val (.int (1 : Int32)), .val (.int i209), .val (.int i210), .val (.int i211), .val (.int i212), .val (.int i213), .val (.int i214), .val (.int i215), .val (.ref b216), .val (.int i252), .val (.int i253), .val (.int i254), .val (.int i255)] [(.int (1 : Int32))])) _
        refine XS.iload X258.here hx rfl (hb hby at_273) rfl ?_
        show Steps p.tables e below (T258.setTop (mkF m 275 #[.val (.int p0), .val (.int p1), .val (.int p2), .val (.int p3), .val (.int p4), .val (.int (1 : Int32)), .val (.int i209), .val (.int i210), .val (.int i211), .val (.int i212), .val (.int i213), .val (.int i214), .val (.int i215), .val (.ref b216), .val (.int i252), .val (.int i253), .val (.int i254), .val (.int i255)] [(.int (1 : Int32)), (.int (1 : Int32))])) _
        refine XS.icmpNo X258.here hx rfl (hb hby at_275) rfl (teq (rfl : (1 : Int32) = (1 : Int32))).2 ?_
        show Steps p.tables e below (T258.setTop (mkF m 278 #[.val (.int p0), .val (.int p1), .val (.int p2), .val (.int p3), .val (.int p4), .val (.int (1 : Int32)), .val (.int i209), .val (.int i210), .val (.int i211), .val (.int i212), .val (.int i213), .val (.int i214), .val (.int i215), .val (.ref b216), .val (.int i252), .val (.int i253), .val (.int i254), .val (.int i255)] [])) _
        refine XS.iconst X258.here hx rfl (hb hby at_278) ?_
        show Steps p.tables e below (T258.setTop (mkF m 279 #[.val (.int p0), .val (.int p1), .val (.int p2), .val (.int p3), .val (.int p4), .val (.int (1 : Int32)), .val (.int i209), .val (.int i210), .val (.int i211), .val (.int i212), .val (.int i213), .val (.int i214), .val (.int i215), .val (.ref b216), .val (.int i252), .val (.int i253), .val (.int i254), .val (.int i255)] [(.int (1 : Int32))])) _
        refine XS.goto X258.here hx rfl (pc0 := 279) (pc' := 283) rfl (hb hby at_279) (by decide) (by decide) ?_
        show Steps p.tables e below (T258.setTop (mkF m 283 #[.val (.int p0), .val (.int p1), .val (.int p2), .val (.int p3), .val (.int p4), .val (.int (1 : Int32)), .val (.int i209), .val (.int i210), .val (.int i211), .val (.int i212), .val (.int i213), .val (.int i214), .val (.int i215), .val (.ref b216), .val (.int i252), .val (.int i253), .val (.int i254), .val (.int i255)] [(.int (1 : Int32))])) _
        exact retN X258 hx (t := .boolean) Bd.returns (by simp) (hb hby at_283) hr
      · show Q0 Z p0 p1 p2 p3 p4 wSUSCEPTIBLE wRECOVERED wINFECTED h0 n0 _ T258.heap _
        rw [e258]
        exact ⟨rfl, N258⟩
  · subst hv171
    obtain ⟨i260, hi260⟩ : ∃ z, z = ((p0.toUInt32 >>> ((3 : Int32) &&& 31).toUInt32).toInt32) := ⟨_, rfl⟩
    obtain ⟨i261, hi261⟩ : ∃ z, z = ((i260 + (1 : Int32)) + ((p1.toUInt32 >>> ((3 : Int32) &&& 31).toUInt32).toInt32)) := ⟨_, rfl⟩
    obtain ⟨i262, hi262⟩ : ∃ z, z = ((i261 + (1 : Int32)) + ((p2.toUInt32 >>> ((2 : Int32) &&& 31).toUInt32).toInt32)) := ⟨_, rfl⟩
    obtain ⟨A1, A2, A3, A4, A5⟩ := own_arith hi260 hi261 hi262
    obtain ⟨i263, hi263⟩ : ∃ z, z = ((((p3.toUInt32 >>> ((2 : Int32) &&& 31).toUInt32).toInt32) &&& (3 : Int32)) % (3 : Int32)) := ⟨_, rfl⟩
    obtain ⟨i264, hi264⟩ : ∃ z, z = ((((p3.toUInt32 >>> ((4 : Int32) &&& 31).toUInt32).toInt32) &&& (3 : Int32)) % (3 : Int32)) := ⟨_, rfl⟩
    obtain ⟨i265, hi265⟩ : ∃ z, z = ((((p3.toUInt32 >>> ((6 : Int32) &&& 31).toUInt32).toInt32) &&& (3 : Int32)) % (3 : Int32)) := ⟨_, rfl⟩
    obtain ⟨i266, hi266⟩ : ∃ z, z = ((((p3.toUInt32 >>> ((8 : Int32) &&& 31).toUInt32).toInt32) &&& (3 : Int32)) % (3 : Int32)) := ⟨_, rfl⟩
    obtain ⟨T267, h267, X267, e267, E267, A267, D267, -, st267⟩ := newO X0 hx hZ hown (hw _ (List.mem_of_getElem? (i := 0) rfl)) (hw _ (List.mem_of_getElem? (i := 1) rfl)) (hw _ (List.mem_of_getElem? (i := 2) rfl)) e0 (g := (mkF m 68 #[.val (.int p0), .val (.int p1), .val (.int p2), .val (.int p3), .val (.int p4), .val (.int (2 : Int32)), .val (.int i260), .val (.int i261), .val (.int i262), .val (.int i263), .val (.int i264), .val (.int i265), .val (.int i266), .unset, .unset, .unset, .unset, .unset] [])) rfl (hb hby at_68) (by decide) (by decide)
    obtain ⟨b267, g267⟩ : ∃ z, z = h0.size := ⟨_, rfl⟩
    have g_b267 : n0 ≤ b267 := Nat.le_trans Z0 (Nat.le_of_eq g267.symm)
    have sz_b267 : h0.size ≤ b267 := Nat.le_of_eq g267.symm
    rw [← g267] at A267 D267 st267
    have EX267 : Ext h0 h267 := E267
    have KK267 : Keep h0 h267 ([] : List Addr) := Keep.ext (Keep.refl h0 ([] : List Addr)) E267
    have G267_vertices : Fld Z h267 b267 "com/example/rippletide/rippletide/model/StateChanges" "vertices" "[I" .null := D267 (Or.inl (hw _ (List.mem_of_getElem? (i := 11) rfl))) (ty := (.array .int)) (by decide)
    have G267_states : Fld Z h267 b267 "com/example/rippletide/rippletide/model/StateChanges" "states" "[B" .null := D267 (Or.inl (hw _ (List.mem_of_getElem? (i := 14) rfl))) (ty := (.array .byte)) (by decide)
    have G267_count : Fld Z h267 b267 "com/example/rippletide/rippletide/model/StateChanges" "count" "I" (.int (0 : Int32)) := D267 (Or.inl (hw _ (List.mem_of_getElem? (i := 28) rfl))) (ty := .int) (by decide)
    obtain ⟨_, _, ⟨T268, L268, k268, n268⟩, -, X268, ⟨Lc268, hQ268, l268, y268, z268⟩, st268⟩ := X267.specialBack hx (y := (⟨"com/example/rippletide/rippletide/model/StateChanges", "<init>", "()V"⟩ : MethodName)) rfl hown (mvT hZ (hw _ (List.mem_of_getElem? (i := 3) rfl))) (mvT hZ (hw _ (List.mem_of_getElem? (i := 4) rfl))) (mvT hZ (hw _ (List.mem_of_getElem? (i := 5) rfl))) (by decide) (backOf (W := 1) (rm3 l Z a0 hw [] b267 wSUSCEPTIBLE wRECOVERED wINFECTED h0 h267 n0 (Nat.le_trans Z0 KK267.1) W0 EX267 Zs A267 g_b267 G267_vertices G267_states G267_count ) hZ (hw _ (List.mem_of_getElem? (i := 5) rfl)) (hw _ (List.mem_of_getElem? (i := 2) rfl)) (by decide) (by decide)) (g := (mkF m 72 #[.val (.int p0), .val (.int p1), .val (.int p2), .val (.int p3), .val (.int p4), .val (.int (2 : Int32)), .val (.int i260), .val (.int i261), .val (.int i262), .val (.int i263), .val (.int i264), .val (.int i265), .val (.int i266), .unset, .unset, .unset, .unset, .unset] [(.ref b267), (.ref b267)])) rfl (by rw [hml]; rfl) (Steps.refl _) (a := b267) (argsL := []) (rest := [(.ref b267)]) (lenOf pd_1 rfl) rfl (by show 2 * 0 + _ ≤ _; exact Nat.le_of_eq rfl) (hb hby at_72) (fun _ _ => ⟨rfl, e267, (by decide : 1 + 2 ≤ _), (by decide : 3 + 32 ≤ _)⟩)
    dsimp only [Pt.U, Pt.locs, Pt.cells, Pt.slots] at X268 l268 y268 z268 st268 hQ268
    subst l268 y268 z268
    unfold Q3 at hQ268
    obtain ⟨b_vertices_268, k_vertices_268, b_states_268, k_states_268, rfl, N268q, EXc268, Kc268, OB268_p0⟩ := hQ268
    have N268 := Fr.app N0 N268q
    have EX268 : Ext h0 T268.heap := EXc268
    have KK268 : Keep h0 T268.heap ([] : List Addr) := Keep.trans KK267 Kc268 (allS (Or.inr (Nat.le_trans Zs g_b267)) all0)
    have OBx268_p0 : Obj Z T268.heap n0 b267 b_vertices_268 k_vertices_268 (0 : Int32) (0 : Int32) (0 : Int32) b_states_268 k_states_268 (0 : Int32) (0 : Int32) (0 : Int32) (0 : Int32) := OB268_p0
    obtain ⟨E_b267_268, g_b267_268, G_b267_vertices_268, G_b267_states_268, G_b267_count_268, g_b267_vertices_268, ne_b267_vertices_268, V_b267_vertices_268, g_b267_states_268, ne_b267_states_268, V_b267_states_268, nn_b267_vertices_states_268, -⟩ := OBx268_p0
    have k272 : ∀ t, Steps p.tables e below (T268.setTop (mkF m 81 #[.val (.int p0), .val (.int p1), .val (.int p2), .val (.int p3), .val (.int p4), .val (.int (2 : Int32)), .val (.int i260), .val (.int i261), .val (.int i262), .val (.int i263), .val (.int i264), .val (.int i265), .val (.int i266), .val (.ref b267), .unset, .unset, .unset, .unset] [(.int (p4 &&& (1 : Int32)))])) t → Steps p.tables e below (s₁.setTop (entryFrame m #[(.int p0), (.int p1), (.int p2), (.int p3), (.int p4)] maxLocals)) t := fun t kt => k170 t (by
      show Steps p.tables e below (s₁.setTop (mkF m 5 #[.val (.int p0), .val (.int p1), .val (.int p2), .val (.int p3), .val (.int p4), .val (.int (2 : Int32)), .unset, .unset, .unset, .unset, .unset, .unset, .unset, .unset, .unset, .unset, .unset, .unset] [])) _
      refine XS.iloadN X0.here hx rfl (hb hby at_5) rfl ?_
      show Steps p.tables e below (s₁.setTop (mkF m 6 #[.val (.int p0), .val (.int p1), .val (.int p2), .val (.int p3), .val (.int p4), .val (.int (2 : Int32)), .unset, .unset, .unset, .unset, .unset, .unset, .unset, .unset, .unset, .unset, .unset, .unset] [(.int p0)])) _
      refine XS.iconst X0.here hx rfl (hb hby at_6) ?_
      show Steps p.tables e below (s₁.setTop (mkF m 7 #[.val (.int p0), .val (.int p1), .val (.int p2), .val (.int p3), .val (.int p4), .val (.int (2 : Int32)), .unset, .unset, .unset, .unset, .unset, .unset, .unset, .unset, .unset, .unset, .unset, .unset] [(.int (3 : Int32)), (.int p0)])) _
      refine XS.iushr X0.here hx rfl (hb hby at_7) rfl ?_
      rw [← hi260]
      show Steps p.tables e below (s₁.setTop (mkF m 8 #[.val (.int p0), .val (.int p1), .val (.int p2), .val (.int p3), .val (.int p4), .val (.int (2 : Int32)), .unset, .unset, .unset, .unset, .unset, .unset, .unset, .unset, .unset, .unset, .unset, .unset] [(.int i260)])) _
      refine XS.istore X0.here hx rfl (hb hby at_8) rfl (l' := #[.val (.int p0), .val (.int p1), .val (.int p2), .val (.int p3), .val (.int p4), .val (.int (2 : Int32)), .val (.int i260), .unset, .unset, .unset, .unset, .unset, .unset, .unset, .unset, .unset, .unset, .unset]) rfl ?_
      show Steps p.tables e below (s₁.setTop (mkF m 10 #[.val (.int p0), .val (.int p1), .val (.int p2), .val (.int p3), .val (.int p4), .val (.int (2 : Int32)), .val (.int i260), .unset, .unset, .unset, .unset, .unset, .unset, .unset, .unset, .unset, .unset, .unset] [])) _
      refine XS.iload X0.here hx rfl (hb hby at_10) rfl ?_
      show Steps p.tables e below (s₁.setTop (mkF m 12 #[.val (.int p0), .val (.int p1), .val (.int p2), .val (.int p3), .val (.int p4), .val (.int (2 : Int32)), .val (.int i260), .unset, .unset, .unset, .unset, .unset, .unset, .unset, .unset, .unset, .unset, .unset] [(.int i260)])) _
      refine XS.iconst X0.here hx rfl (hb hby at_12) ?_
      show Steps p.tables e below (s₁.setTop (mkF m 13 #[.val (.int p0), .val (.int p1), .val (.int p2), .val (.int p3), .val (.int p4), .val (.int (2 : Int32)), .val (.int i260), .unset, .unset, .unset, .unset, .unset, .unset, .unset, .unset, .unset, .unset, .unset] [(.int (1 : Int32)), (.int i260)])) _
      refine XS.iadd X0.here hx rfl (hb hby at_13) rfl ?_
      show Steps p.tables e below (s₁.setTop (mkF m 14 #[.val (.int p0), .val (.int p1), .val (.int p2), .val (.int p3), .val (.int p4), .val (.int (2 : Int32)), .val (.int i260), .unset, .unset, .unset, .unset, .unset, .unset, .unset, .unset, .unset, .unset, .unset] [(.int (i260 + (1 : Int32)))])) _
      refine XS.iloadN X0.here hx rfl (hb hby at_14) rfl ?_
      show Steps p.tables e below (s₁.setTop (mkF m 15 #[.val (.int p0), .val (.int p1), .val (.int p2), .val (.int p3), .val (.int p4), .val (.int (2 : Int32)), .val (.int i260), .unset, .unset, .unset, .unset, .unset, .unset, .unset, .unset, .unset, .unset, .unset] [(.int p1), (.int (i260 + (1 : Int32)))])) _
      refine XS.iconst X0.here hx rfl (hb hby at_15) ?_
      show Steps p.tables e below (s₁.setTop (mkF m 16 #[.val (.int p0), .val (.int p1), .val (.int p2), .val (.int p3), .val (.int p4), .val (.int (2 : Int32)), .val (.int i260), .unset, .unset, .unset, .unset, .unset, .unset, .unset, .unset, .unset, .unset, .unset] [(.int (3 : Int32)), (.int p1), (.int (i260 + (1 : Int32)))])) _
      refine XS.iushr X0.here hx rfl (hb hby at_16) rfl ?_
      show Steps p.tables e below (s₁.setTop (mkF m 17 #[.val (.int p0), .val (.int p1), .val (.int p2), .val (.int p3), .val (.int p4), .val (.int (2 : Int32)), .val (.int i260), .unset, .unset, .unset, .unset, .unset, .unset, .unset, .unset, .unset, .unset, .unset] [(.int ((p1.toUInt32 >>> ((3 : Int32) &&& 31).toUInt32).toInt32)), (.int (i260 + (1 : Int32)))])) _
      refine XS.iadd X0.here hx rfl (hb hby at_17) rfl ?_
      rw [← hi261]
      show Steps p.tables e below (s₁.setTop (mkF m 18 #[.val (.int p0), .val (.int p1), .val (.int p2), .val (.int p3), .val (.int p4), .val (.int (2 : Int32)), .val (.int i260), .unset, .unset, .unset, .unset, .unset, .unset, .unset, .unset, .unset, .unset, .unset] [(.int i261)])) _
      refine XS.istore X0.here hx rfl (hb hby at_18) rfl (l' := #[.val (.int p0), .val (.int p1), .val (.int p2), .val (.int p3), .val (.int p4), .val (.int (2 : Int32)), .val (.int i260), .val (.int i261), .unset, .unset, .unset, .unset, .unset, .unset, .unset, .unset, .unset, .unset]) rfl ?_
      show Steps p.tables e below (s₁.setTop (mkF m 20 #[.val (.int p0), .val (.int p1), .val (.int p2), .val (.int p3), .val (.int p4), .val (.int (2 : Int32)), .val (.int i260), .val (.int i261), .unset, .unset, .unset, .unset, .unset, .unset, .unset, .unset, .unset, .unset] [])) _
      refine XS.iload X0.here hx rfl (hb hby at_20) rfl ?_
      show Steps p.tables e below (s₁.setTop (mkF m 22 #[.val (.int p0), .val (.int p1), .val (.int p2), .val (.int p3), .val (.int p4), .val (.int (2 : Int32)), .val (.int i260), .val (.int i261), .unset, .unset, .unset, .unset, .unset, .unset, .unset, .unset, .unset, .unset] [(.int i261)])) _
      refine XS.iconst X0.here hx rfl (hb hby at_22) ?_
      show Steps p.tables e below (s₁.setTop (mkF m 23 #[.val (.int p0), .val (.int p1), .val (.int p2), .val (.int p3), .val (.int p4), .val (.int (2 : Int32)), .val (.int i260), .val (.int i261), .unset, .unset, .unset, .unset, .unset, .unset, .unset, .unset, .unset, .unset] [(.int (1 : Int32)), (.int i261)])) _
      refine XS.iadd X0.here hx rfl (hb hby at_23) rfl ?_
      show Steps p.tables e below (s₁.setTop (mkF m 24 #[.val (.int p0), .val (.int p1), .val (.int p2), .val (.int p3), .val (.int p4), .val (.int (2 : Int32)), .val (.int i260), .val (.int i261), .unset, .unset, .unset, .unset, .unset, .unset, .unset, .unset, .unset, .unset] [(.int (i261 + (1 : Int32)))])) _
      refine XS.iloadN X0.here hx rfl (hb hby at_24) rfl ?_
      show Steps p.tables e below (s₁.setTop (mkF m 25 #[.val (.int p0), .val (.int p1), .val (.int p2), .val (.int p3), .val (.int p4), .val (.int (2 : Int32)), .val (.int i260), .val (.int i261), .unset, .unset, .unset, .unset, .unset, .unset, .unset, .unset, .unset, .unset] [(.int p2), (.int (i261 + (1 : Int32)))])) _
      refine XS.iconst X0.here hx rfl (hb hby at_25) ?_
      show Steps p.tables e below (s₁.setTop (mkF m 26 #[.val (.int p0), .val (.int p1), .val (.int p2), .val (.int p3), .val (.int p4), .val (.int (2 : Int32)), .val (.int i260), .val (.int i261), .unset, .unset, .unset, .unset, .unset, .unset, .unset, .unset, .unset, .unset] [(.int (2 : Int32)), (.int p2), (.int (i261 + (1 : Int32)))])) _
      refine XS.iushr X0.here hx rfl (hb hby at_26) rfl ?_
      show Steps p.tables e below (s₁.setTop (mkF m 27 #[.val (.int p0), .val (.int p1), .val (.int p2), .val (.int p3), .val (.int p4), .val (.int (2 : Int32)), .val (.int i260), .val (.int i261), .unset, .unset, .unset, .unset, .unset, .unset, .unset, .unset, .unset, .unset] [(.int ((p2.toUInt32 >>> ((2 : Int32) &&& 31).toUInt32).toInt32)), (.int (i261 + (1 : Int32)))])) _
      refine XS.iadd X0.here hx rfl (hb hby at_27) rfl ?_
      rw [← hi262]
      show Steps p.tables e below (s₁.setTop (mkF m 28 #[.val (.int p0), .val (.int p1), .val (.int p2), .val (.int p3), .val (.int p4), .val (.int (2 : Int32)), .val (.int i260), .val (.int i261), .unset, .unset, .unset, .unset, .unset, .unset, .unset, .unset, .unset, .unset] [(.int i262)])) _
      refine XS.istore X0.here hx rfl (hb hby at_28) rfl (l' := #[.val (.int p0), .val (.int p1), .val (.int p2), .val (.int p3), .val (.int p4), .val (.int (2 : Int32)), .val (.int i260), .val (.int i261), .val (.int i262), .unset, .unset, .unset, .unset, .unset, .unset, .unset, .unset, .unset]) rfl ?_
      show Steps p.tables e below (s₁.setTop (mkF m 30 #[.val (.int p0), .val (.int p1), .val (.int p2), .val (.int p3), .val (.int p4), .val (.int (2 : Int32)), .val (.int i260), .val (.int i261), .val (.int i262), .unset, .unset, .unset, .unset, .unset, .unset, .unset, .unset, .unset] [])) _
      refine XS.iloadN X0.here hx rfl (hb hby at_30) rfl ?_
      show Steps p.tables e below (s₁.setTop (mkF m 31 #[.val (.int p0), .val (.int p1), .val (.int p2), .val (.int p3), .val (.int p4), .val (.int (2 : Int32)), .val (.int i260), .val (.int i261), .val (.int i262), .unset, .unset, .unset, .unset, .unset, .unset, .unset, .unset, .unset] [(.int p3)])) _
      refine XS.iconst X0.here hx rfl (hb hby at_31) ?_
      show Steps p.tables e below (s₁.setTop (mkF m 32 #[.val (.int p0), .val (.int p1), .val (.int p2), .val (.int p3), .val (.int p4), .val (.int (2 : Int32)), .val (.int i260), .val (.int i261), .val (.int i262), .unset, .unset, .unset, .unset, .unset, .unset, .unset, .unset, .unset] [(.int (2 : Int32)), (.int p3)])) _
      refine XS.iushr X0.here hx rfl (hb hby at_32) rfl ?_
      show Steps p.tables e below (s₁.setTop (mkF m 33 #[.val (.int p0), .val (.int p1), .val (.int p2), .val (.int p3), .val (.int p4), .val (.int (2 : Int32)), .val (.int i260), .val (.int i261), .val (.int i262), .unset, .unset, .unset, .unset, .unset, .unset, .unset, .unset, .unset] [(.int ((p3.toUInt32 >>> ((2 : Int32) &&& 31).toUInt32).toInt32))])) _
      refine XS.iconst X0.here hx rfl (hb hby at_33) ?_
      show Steps p.tables e below (s₁.setTop (mkF m 34 #[.val (.int p0), .val (.int p1), .val (.int p2), .val (.int p3), .val (.int p4), .val (.int (2 : Int32)), .val (.int i260), .val (.int i261), .val (.int i262), .unset, .unset, .unset, .unset, .unset, .unset, .unset, .unset, .unset] [(.int (3 : Int32)), (.int ((p3.toUInt32 >>> ((2 : Int32) &&& 31).toUInt32).toInt32))])) _
      refine XS.iand X0.here hx rfl (hb hby at_34) rfl ?_
      show Steps p.tables e below (s₁.setTop (mkF m 35 #[.val (.int p0), .val (.int p1), .val (.int p2), .val (.int p3), .val (.int p4), .val (.int (2 : Int32)), .val (.int i260), .val (.int i261), .val (.int i262), .unset, .unset, .unset, .unset, .unset, .unset, .unset, .unset, .unset] [(.int (((p3.toUInt32 >>> ((2 : Int32) &&& 31).toUInt32).toInt32) &&& (3 : Int32)))])) _
      refine XS.iconst X0.here hx rfl (hb hby at_35) ?_
      show Steps p.tables e below (s₁.setTop (mkF m 36 #[.val (.int p0), .val (.int p1), .val (.int p2), .val (.int p3), .val (.int p4), .val (.int (2 : Int32)), .val (.int i260), .val (.int i261), .val (.int i262), .unset, .unset, .unset, .unset, .unset, .unset, .unset, .unset, .unset] [(.int (3 : Int32)), (.int (((p3.toUInt32 >>> ((2 : Int32) &&& 31).toUInt32).toInt32) &&& (3 : Int32)))])) _
      refine iremM X0 hx rfl (hb hby at_36) rfl (by decide) ?_
      rw [← hi263]
      show Steps p.tables e below (s₁.setTop (mkF m 37 #[.val (.int p0), .val (.int p1), .val (.int p2), .val (.int p3), .val (.int p4), .val (.int (2 : Int32)), .val (.int i260), .val (.int i261), .val (.int i262), .unset, .unset, .unset, .unset, .unset, .unset, .unset, .unset, .unset] [(.int i263)])) _
      refine XS.istore X0.here hx rfl (hb hby at_37) rfl (l' := #[.val (.int p0), .val (.int p1), .val (.int p2), .val (.int p3), .val (.int p4), .val (.int (2 : Int32)), .val (.int i260), .val (.int i261), .val (.int i262), .val (.int i263), .unset, .unset, .unset, .unset, .unset, .unset, .unset, .unset]) rfl ?_
      show Steps p.tables e below (s₁.setTop (mkF m 39 #[.val (.int p0), .val (.int p1), .val (.int p2), .val (.int p3), .val (.int p4), .val (.int (2 : Int32)), .val (.int i260), .val (.int i261), .val (.int i262), .val (.int i263), .unset, .unset, .unset, .unset, .unset, .unset, .unset, .unset] [])) _
      refine XS.iloadN X0.here hx rfl (hb hby at_39) rfl ?_
      show Steps p.tables e below (s₁.setTop (mkF m 40 #[.val (.int p0), .val (.int p1), .val (.int p2), .val (.int p3), .val (.int p4), .val (.int (2 : Int32)), .val (.int i260), .val (.int i261), .val (.int i262), .val (.int i263), .unset, .unset, .unset, .unset, .unset, .unset, .unset, .unset] [(.int p3)])) _
      refine XS.iconst X0.here hx rfl (hb hby at_40) ?_
      show Steps p.tables e below (s₁.setTop (mkF m 41 #[.val (.int p0), .val (.int p1), .val (.int p2), .val (.int p3), .val (.int p4), .val (.int (2 : Int32)), .val (.int i260), .val (.int i261), .val (.int i262), .val (.int i263), .unset, .unset, .unset, .unset, .unset, .unset, .unset, .unset] [(.int (4 : Int32)), (.int p3)])) _
      refine XS.iushr X0.here hx rfl (hb hby at_41) rfl ?_
      show Steps p.tables e below (s₁.setTop (mkF m 42 #[.val (.int p0), .val (.int p1), .val (.int p2), .val (.int p3), .val (.int p4), .val (.int (2 : Int32)), .val (.int i260), .val (.int i261), .val (.int i262), .val (.int i263), .unset, .unset, .unset, .unset, .unset, .unset, .unset, .unset] [(.int ((p3.toUInt32 >>> ((4 : Int32) &&& 31).toUInt32).toInt32))])) _
      refine XS.iconst X0.here hx rfl (hb hby at_42) ?_
      show Steps p.tables e below (s₁.setTop (mkF m 43 #[.val (.int p0), .val (.int p1), .val (.int p2), .val (.int p3), .val (.int p4), .val (.int (2 : Int32)), .val (.int i260), .val (.int i261), .val (.int i262), .val (.int i263), .unset, .unset, .unset, .unset, .unset, .unset, .unset, .unset] [(.int (3 : Int32)), (.int ((p3.toUInt32 >>> ((4 : Int32) &&& 31).toUInt32).toInt32))])) _
      refine XS.iand X0.here hx rfl (hb hby at_43) rfl ?_
      show Steps p.tables e below (s₁.setTop (mkF m 44 #[.val (.int p0), .val (.int p1), .val (.int p2), .val (.int p3), .val (.int p4), .val (.int (2 : Int32)), .val (.int i260), .val (.int i261), .val (.int i262), .val (.int i263), .unset, .unset, .unset, .unset, .unset, .unset, .unset, .unset] [(.int (((p3.toUInt32 >>> ((4 : Int32) &&& 31).toUInt32).toInt32) &&& (3 : Int32)))])) _
      refine XS.iconst X0.here hx rfl (hb hby at_44) ?_
      show Steps p.tables e below (s₁.setTop (mkF m 45 #[.val (.int p0), .val (.int p1), .val (.int p2), .val (.int p3), .val (.int p4), .val (.int (2 : Int32)), .val (.int i260), .val (.int i261), .val (.int i262), .val (.int i263), .unset, .unset, .unset, .unset, .unset, .unset, .unset, .unset] [(.int (3 : Int32)), (.int (((p3.toUInt32 >>> ((4 : Int32) &&& 31).toUInt32).toInt32) &&& (3 : Int32)))])) _
      refine iremM X0 hx rfl (hb hby at_45) rfl (by decide) ?_
      rw [← hi264]
      show Steps p.tables e below (s₁.setTop (mkF m 46 #[.val (.int p0), .val (.int p1), .val (.int p2), .val (.int p3), .val (.int p4), .val (.int (2 : Int32)), .val (.int i260), .val (.int i261), .val (.int i262), .val (.int i263), .unset, .unset, .unset, .unset, .unset, .unset, .unset, .unset] [(.int i264)])) _
      refine XS.istore X0.here hx rfl (hb hby at_46) rfl (l' := #[.val (.int p0), .val (.int p1), .val (.int p2), .val (.int p3), .val (.int p4), .val (.int (2 : Int32)), .val (.int i260), .val (.int i261), .val (.int i262), .val (.int i263), .val (.int i264), .unset, .unset, .unset, .unset, .unset, .unset, .unset]) rfl ?_
      show Steps p.tables e below (s₁.setTop (mkF m 48 #[.val (.int p0), .val (.int p1), .val (.int p2), .val (.int p3), .val (.int p4), .val (.int (2 : Int32)), .val (.int i260), .val (.int i261), .val (.int i262), .val (.int i263), .val (.int i264), .unset, .unset, .unset, .unset, .unset, .unset, .unset] [])) _
      refine XS.iloadN X0.here hx rfl (hb hby at_48) rfl ?_
      show Steps p.tables e below (s₁.setTop (mkF m 49 #[.val (.int p0), .val (.int p1), .val (.int p2), .val (.int p3), .val (.int p4), .val (.int (2 : Int32)), .val (.int i260), .val (.int i261), .val (.int i262), .val (.int i263), .val (.int i264), .unset, .unset, .unset, .unset, .unset, .unset, .unset] [(.int p3)])) _
      refine XS.bipush X0.here hx rfl (hb hby at_49) ?_
      show Steps p.tables e below (s₁.setTop (mkF m 51 #[.val (.int p0), .val (.int p1), .val (.int p2), .val (.int p3), .val (.int p4), .val (.int (2 : Int32)), .val (.int i260), .val (.int i261), .val (.int i262), .val (.int i263), .val (.int i264), .unset, .unset, .unset, .unset, .unset, .unset, .unset] [(.int (6 : Int32)), (.int p3)])) _
      refine XS.iushr X0.here hx rfl (hb hby at_51) rfl ?_
      show Steps p.tables e below (s₁.setTop (mkF m 52 #[.val (.int p0), .val (.int p1), .val (.int p2), .val (.int p3), .val (.int p4), .val (.int (2 : Int32)), .val (.int i260), .val (.int i261), .val (.int i262), .val (.int i263), .val (.int i264), .unset, .unset, .unset, .unset, .unset, .unset, .unset] [(.int ((p3.toUInt32 >>> ((6 : Int32) &&& 31).toUInt32).toInt32))])) _
      refine XS.iconst X0.here hx rfl (hb hby at_52) ?_
      show Steps p.tables e below (s₁.setTop (mkF m 53 #[.val (.int p0), .val (.int p1), .val (.int p2), .val (.int p3), .val (.int p4), .val (.int (2 : Int32)), .val (.int i260), .val (.int i261), .val (.int i262), .val (.int i263), .val (.int i264), .unset, .unset, .unset, .unset, .unset, .unset, .unset] [(.int (3 : Int32)), (.int ((p3.toUInt32 >>> ((6 : Int32) &&& 31).toUInt32).toInt32))])) _
      refine XS.iand X0.here hx rfl (hb hby at_53) rfl ?_
      show Steps p.tables e below (s₁.setTop (mkF m 54 #[.val (.int p0), .val (.int p1), .val (.int p2), .val (.int p3), .val (.int p4), .val (.int (2 : Int32)), .val (.int i260), .val (.int i261), .val (.int i262), .val (.int i263), .val (.int i264), .unset, .unset, .unset, .unset, .unset, .unset, .unset] [(.int (((p3.toUInt32 >>> ((6 : Int32) &&& 31).toUInt32).toInt32) &&& (3 : Int32)))])) _
      refine XS.iconst X0.here hx rfl (hb hby at_54) ?_
      show Steps p.tables e below (s₁.setTop (mkF m 55 #[.val (.int p0), .val (.int p1), .val (.int p2), .val (.int p3), .val (.int p4), .val (.int (2 : Int32)), .val (.int i260), .val (.int i261), .val (.int i262), .val (.int i263), .val (.int i264), .unset, .unset, .unset, .unset, .unset, .unset, .unset] [(.int (3 : Int32)), (.int (((p3.toUInt32 >>> ((6 : Int32) &&& 31).toUInt32).toInt32) &&& (3 : Int32)))])) _
      refine iremM X0 hx rfl (hb hby at_55) rfl (by decide) ?_
      rw [← hi265]
      show Steps p.tables e below (s₁.setTop (mkF m 56 #[.val (.int p0), .val (.int p1), .val (.int p2), .val (.int p3), .val (.int p4), .val (.int (2 : Int32)), .val (.int i260), .val (.int i261), .val (.int i262), .val (.int i263), .val (.int i264), .unset, .unset, .unset, .unset, .unset, .unset, .unset] [(.int i265)])) _
      refine XS.istore X0.here hx rfl (hb hby at_56) rfl (l' := #[.val (.int p0), .val (.int p1), .val (.int p2), .val (.int p3), .val (.int p4), .val (.int (2 : Int32)), .val (.int i260), .val (.int i261), .val (.int i262), .val (.int i263), .val (.int i264), .val (.int i265), .unset, .unset, .unset, .unset, .unset, .unset]) rfl ?_
      show Steps p.tables e below (s₁.setTop (mkF m 58 #[.val (.int p0), .val (.int p1), .val (.int p2), .val (.int p3), .val (.int p4), .val (.int (2 : Int32)), .val (.int i260), .val (.int i261), .val (.int i262), .val (.int i263), .val (.int i264), .val (.int i265), .unset, .unset, .unset, .unset, .unset, .unset] [])) _
      refine XS.iloadN X0.here hx rfl (hb hby at_58) rfl ?_
      show Steps p.tables e below (s₁.setTop (mkF m 59 #[.val (.int p0), .val (.int p1), .val (.int p2), .val (.int p3), .val (.int p4), .val (.int (2 : Int32)), .val (.int i260), .val (.int i261), .val (.int i262), .val (.int i263), .val (.int i264), .val (.int i265), .unset, .unset, .unset, .unset, .unset, .unset] [(.int p3)])) _
      refine XS.bipush X0.here hx rfl (hb hby at_59) ?_
      show Steps p.tables e below (s₁.setTop (mkF m 61 #[.val (.int p0), .val (.int p1), .val (.int p2), .val (.int p3), .val (.int p4), .val (.int (2 : Int32)), .val (.int i260), .val (.int i261), .val (.int i262), .val (.int i263), .val (.int i264), .val (.int i265), .unset, .unset, .unset, .unset, .unset, .unset] [(.int (8 : Int32)), (.int p3)])) _
      refine XS.iushr X0.here hx rfl (hb hby at_61) rfl ?_
      show Steps p.tables e below (s₁.setTop (mkF m 62 #[.val (.int p0), .val (.int p1), .val (.int p2), .val (.int p3), .val (.int p4), .val (.int (2 : Int32)), .val (.int i260), .val (.int i261), .val (.int i262), .val (.int i263), .val (.int i264), .val (.int i265), .unset, .unset, .unset, .unset, .unset, .unset] [(.int ((p3.toUInt32 >>> ((8 : Int32) &&& 31).toUInt32).toInt32))])) _
      refine XS.iconst X0.here hx rfl (hb hby at_62) ?_
      show Steps p.tables e below (s₁.setTop (mkF m 63 #[.val (.int p0), .val (.int p1), .val (.int p2), .val (.int p3), .val (.int p4), .val (.int (2 : Int32)), .val (.int i260), .val (.int i261), .val (.int i262), .val (.int i263), .val (.int i264), .val (.int i265), .unset, .unset, .unset, .unset, .unset, .unset] [(.int (3 : Int32)), (.int ((p3.toUInt32 >>> ((8 : Int32) &&& 31).toUInt32).toInt32))])) _
      refine XS.iand X0.here hx rfl (hb hby at_63) rfl ?_
      show Steps p.tables e below (s₁.setTop (mkF m 64 #[.val (.int p0), .val (.int p1), .val (.int p2), .val (.int p3), .val (.int p4), .val (.int (2 : Int32)), .val (.int i260), .val (.int i261), .val (.int i262), .val (.int i263), .val (.int i264), .val (.int i265), .unset, .unset, .unset, .unset, .unset, .unset] [(.int (((p3.toUInt32 >>> ((8 : Int32) &&& 31).toUInt32).toInt32) &&& (3 : Int32)))])) _
      refine XS.iconst X0.here hx rfl (hb hby at_64) ?_
      show Steps p.tables e below (s₁.setTop (mkF m 65 #[.val (.int p0), .val (.int p1), .val (.int p2), .val (.int p3), .val (.int p4), .val (.int (2 : Int32)), .val (.int i260), .val (.int i261), .val (.int i262), .val (.int i263), .val (.int i264), .val (.int i265), .unset, .unset, .unset, .unset, .unset, .unset] [(.int (3 : Int32)), (.int (((p3.toUInt32 >>> ((8 : Int32) &&& 31).toUInt32).toInt32) &&& (3 : Int32)))])) _
      refine iremM X0 hx rfl (hb hby at_65) rfl (by decide) ?_
      rw [← hi266]
      show Steps p.tables e below (s₁.setTop (mkF m 66 #[.val (.int p0), .val (.int p1), .val (.int p2), .val (.int p3), .val (.int p4), .val (.int (2 : Int32)), .val (.int i260), .val (.int i261), .val (.int i262), .val (.int i263), .val (.int i264), .val (.int i265), .unset, .unset, .unset, .unset, .unset, .unset] [(.int i266)])) _
      refine XS.istore X0.here hx rfl (hb hby at_66) rfl (l' := #[.val (.int p0), .val (.int p1), .val (.int p2), .val (.int p3), .val (.int p4), .val (.int (2 : Int32)), .val (.int i260), .val (.int i261), .val (.int i262), .val (.int i263), .val (.int i264), .val (.int i265), .val (.int i266), .unset, .unset, .unset, .unset, .unset]) rfl ?_
      show Steps p.tables e below (s₁.setTop (mkF m 68 #[.val (.int p0), .val (.int p1), .val (.int p2), .val (.int p3), .val (.int p4), .val (.int (2 : Int32)), .val (.int i260), .val (.int i261), .val (.int i262), .val (.int i263), .val (.int i264), .val (.int i265), .val (.int i266), .unset, .unset, .unset, .unset, .unset] [])) _
      refine st267 _ ?_
      show Steps p.tables e below (T267.setTop (mkF m 71 #[.val (.int p0), .val (.int p1), .val (.int p2), .val (.int p3), .val (.int p4), .val (.int (2 : Int32)), .val (.int i260), .val (.int i261), .val (.int i262), .val (.int i263), .val (.int i264), .val (.int i265), .val (.int i266), .unset, .unset, .unset, .unset, .unset] [(.ref b267)])) _
      refine XS.dup X267.here hx rfl (hb hby at_71) rfl rfl ?_
      show Steps p.tables e below (T267.setTop (mkF m 72 #[.val (.int p0), .val (.int p1), .val (.int p2), .val (.int p3), .val (.int p4), .val (.int (2 : Int32)), .val (.int i260), .val (.int i261), .val (.int i262), .val (.int i263), .val (.int i264), .val (.int i265), .val (.int i266), .unset, .unset, .unset, .unset, .unset] [(.ref b267), (.ref b267)])) _
      refine st268.trans ?_
      show Steps p.tables e below (T268.setTop (mkF m 75 #[.val (.int p0), .val (.int p1), .val (.int p2), .val (.int p3), .val (.int p4), .val (.int (2 : Int32)), .val (.int i260), .val (.int i261), .val (.int i262), .val (.int i263), .val (.int i264), .val (.int i265), .val (.int i266), .unset, .unset, .unset, .unset, .unset] [(.ref b267)])) _
      refine XS.astore X268.here hx rfl (hb hby at_75) rfl rfl (l' := #[.val (.int p0), .val (.int p1), .val (.int p2), .val (.int p3), .val (.int p4), .val (.int (2 : Int32)), .val (.int i260), .val (.int i261), .val (.int i262), .val (.int i263), .val (.int i264), .val (.int i265), .val (.int i266), .val (.ref b267), .unset, .unset, .unset, .unset]) rfl ?_
      show Steps p.tables e below (T268.setTop (mkF m 77 #[.val (.int p0), .val (.int p1), .val (.int p2), .val (.int p3), .val (.int p4), .val (.int (2 : Int32)), .val (.int i260), .val (.int i261), .val (.int i262), .val (.int i263), .val (.int i264), .val (.int i265), .val (.int i266), .val (.ref b267), .unset, .unset, .unset, .unset] [])) _
      refine XS.iload X268.here hx rfl (hb hby at_77) rfl ?_
      show Steps p.tables e below (T268.setTop (mkF m 79 #[.val (.int p0), .val (.int p1), .val (.int p2), .val (.int p3), .val (.int p4), .val (.int (2 : Int32)), .val (.int i260), .val (.int i261), .val (.int i262), .val (.int i263), .val (.int i264), .val (.int i265), .val (.int i266), .val (.ref b267), .unset, .unset, .unset, .unset] [(.int p4)])) _
      refine XS.iconst X268.here hx rfl (hb hby at_79) ?_
      show Steps p.tables e below (T268.setTop (mkF m 80 #[.val (.int p0), .val (.int p1), .val (.int p2), .val (.int p3), .val (.int p4), .val (.int (2 : Int32)), .val (.int i260), .val (.int i261), .val (.int i262), .val (.int i263), .val (.int i264), .val (.int i265), .val (.int i266), .val (.ref b267), .unset, .unset, .unset, .unset] [(.int (1 : Int32)), (.int p4)])) _
      refine XS.iand X268.here hx rfl (hb hby at_80) rfl ?_
      exact kt)
    by_cases hc273 : (p4 &&& (1 : Int32)) = (0 : Int32)
    · obtain ⟨_, _, ⟨T274, L274, k274, n274⟩, -, X274, ⟨Lc274, hQ274, l274, y274, z274⟩, st274⟩ := Jvm.LawKit.callS X268 hx (y := (⟨"com/example/rippletide/rippletide/model/StateChangesHashCodePinLaw", "state", "(I)Lcom/example/rippletide/rippletide/model/State;"⟩ : MethodName)) hown (mvT hZ (hw _ (List.mem_of_getElem? (i := 15) rfl))) (mvT hZ (hw _ (List.mem_of_getElem? (i := 16) rfl))) (mvT hZ (hw _ (List.mem_of_getElem? (i := 17) rfl))) (mvT hZ (hw _ (List.mem_of_getElem? (i := 18) rfl))) (by decide) (backOf (W := 2) (rm1 l Z a0 hw [] i263 wSUSCEPTIBLE wRECOVERED wINFECTED T268.heap n0 (Nat.le_trans Z0 KK268.1) (W0.ext EX268) ) hZ (hw _ (List.mem_of_getElem? (i := 18) rfl)) (hw _ (List.mem_of_getElem? (i := 17) rfl)) (by decide) (by decide)) (g := (mkF m 115 #[.val (.int p0), .val (.int p1), .val (.int p2), .val (.int p3), .val (.int p4), .val (.int (2 : Int32)), .val (.int i260), .val (.int i261), .val (.int i262), .val (.int i263), .val (.int i264), .val (.int i265), .val (.int i266), .val (.ref b267), .unset, .unset, .unset, .unset] [(.int i263), (.int i260), (.ref b267)])) rfl (by rw [hml]; rfl) (argsL := [(.int i263)]) (rest := [(.int i260), (.ref b267)]) (lenOf pd_2 rfl) rfl (by show 2 * 0 + _ ≤ _; exact Nat.le_of_eq rfl) (hb hby at_115) (fun _ _ => ⟨rfl, rfl, (by decide : 3 + 0 ≤ _), (by decide : 35 + 0 ≤ _)⟩)
      dsimp only [Pt.U, Pt.locs, Pt.cells, Pt.slots] at X274 l274 y274 z274 st274 hQ274
      subst l274 y274 z274
      unfold Q1 at hQ274
      have k275 : ∀ t, Steps p.tables e below (T268.setTop (mkF m 115 #[.val (.int p0), .val (.int p1), .val (.int p2), .val (.int p3), .val (.int p4), .val (.int (2 : Int32)), .val (.int i260), .val (.int i261), .val (.int i262), .val (.int i263), .val (.int i264), .val (.int i265), .val (.int i266), .val (.ref b267), .unset, .unset, .unset, .unset] [(.int i263), (.int i260), (.ref b267)])) t → Steps p.tables e below (s₁.setTop (entryFrame m #[(.int p0), (.int p1), (.int p2), (.int p3), (.int p4)] maxLocals)) t := fun t kt => k272 t (by
        show Steps p.tables e below (T268.setTop (mkF m 81 #[.val (.int p0), .val (.int p1), .val (.int p2), .val (.int p3), .val (.int p4), .val (.int (2 : Int32)), .val (.int i260), .val (.int i261), .val (.int i262), .val (.int i263), .val (.int i264), .val (.int i265), .val (.int i266), .val (.ref b267), .unset, .unset, .unset, .unset] [(.int (p4 &&& (1 : Int32)))])) _
        refine XS.ifYes X268.here hx rfl (pc0 := 81) (pc' := 103) rfl (hb hby at_81) rfl ((if0 _ _).trans (teq (hc273 : (p4 &&& (1 : Int32)) = (0 : Int32))).1) (by decide) (by decide) ?_
        show Steps p.tables e below (T268.setTop (mkF m 103 #[.val (.int p0), .val (.int p1), .val (.int p2), .val (.int p3), .val (.int p4), .val (.int (2 : Int32)), .val (.int i260), .val (.int i261), .val (.int i262), .val (.int i263), .val (.int i264), .val (.int i265), .val (.int i266), .val (.ref b267), .unset, .unset, .unset, .unset] [])) _
        refine XS.iload X268.here hx rfl (hb hby at_103) rfl ?_
        show Steps p.tables e below (T268.setTop (mkF m 105 #[.val (.int p0), .val (.int p1), .val (.int p2), .val (.int p3), .val (.int p4), .val (.int (2 : Int32)), .val (.int i260), .val (.int i261), .val (.int i262), .val (.int i263), .val (.int i264), .val (.int i265), .val (.int i266), .val (.ref b267), .unset, .unset, .unset, .unset] [(.int (2 : Int32))])) _
        refine XS.iconst X268.here hx rfl (hb hby at_105) ?_
        show Steps p.tables e below (T268.setTop (mkF m 106 #[.val (.int p0), .val (.int p1), .val (.int p2), .val (.int p3), .val (.int p4), .val (.int (2 : Int32)), .val (.int i260), .val (.int i261), .val (.int i262), .val (.int i263), .val (.int i264), .val (.int i265), .val (.int i266), .val (.ref b267), .unset, .unset, .unset, .unset] [(.int (1 : Int32)), (.int (2 : Int32))])) _
        refine XS.icmpNo X268.here hx rfl (hb hby at_106) rfl (flt ((by decide) : ¬ ((2 : Int32) < (1 : Int32)))).1 ?_
        show Steps p.tables e below (T268.setTop (mkF m 109 #[.val (.int p0), .val (.int p1), .val (.int p2), .val (.int p3), .val (.int p4), .val (.int (2 : Int32)), .val (.int i260), .val (.int i261), .val (.int i262), .val (.int i263), .val (.int i264), .val (.int i265), .val (.int i266), .val (.ref b267), .unset, .unset, .unset, .unset] [])) _
        refine XS.aload X268.here hx rfl (hb hby at_109) rfl rfl ?_
        show Steps p.tables e below (T268.setTop (mkF m 111 #[.val (.int p0), .val (.int p1), .val (.int p2), .val (.int p3), .val (.int p4), .val (.int (2 : Int32)), .val (.int i260), .val (.int i261), .val (.int i262), .val (.int i263), .val (.int i264), .val (.int i265), .val (.int i266), .val (.ref b267), .unset, .unset, .unset, .unset] [(.ref b267)])) _
        refine XS.iload X268.here hx rfl (hb hby at_111) rfl ?_
        show Steps p.tables e below (T268.setTop (mkF m 113 #[.val (.int p0), .val (.int p1), .val (.int p2), .val (.int p3), .val (.int p4), .val (.int (2 : Int32)), .val (.int i260), .val (.int i261), .val (.int i262), .val (.int i263), .val (.int i264), .val (.int i265), .val (.int i266), .val (.ref b267), .unset, .unset, .unset, .unset] [(.int i260), (.ref b267)])) _
        refine XS.iload X268.here hx rfl (hb hby at_113) rfl ?_
        exact kt)
      obtain ⟨r276, hr276⟩ : ∃ z, z = (f1 i263 wSUSCEPTIBLE wRECOVERED wINFECTED) := ⟨_, rfl⟩
      rw [← hr276] at hQ274
      obtain ⟨rfl, N274q, e274⟩ := hQ274
      have N274 := Fr.app N268 N274q
      have PFr276 := own_state W0 (own_cs3 hi263)
      rw [← hr276] at PFr276
      obtain ⟨E_r276, F_r276⟩ := PFr276
      obtain ⟨cq277, kq277, q277a, q277b, q277c⟩ := isOf hZ e274 E_b267_268
      obtain ⟨_, _, ⟨T277, L277, k277, n277⟩, -, X277, ⟨Lc277, hQ277, l277, y277, z277⟩, st277⟩ := X274.virtualBack hx (y := (⟨"com/example/rippletide/rippletide/model/StateChanges", "add", "(ILcom/example/rippletide/rippletide/model/State;)V"⟩ : MethodName)) (z := (⟨"com/example/rippletide/rippletide/model/StateChanges", "add", "(ILcom/example/rippletide/rippletide/model/State;)V"⟩ : MethodName)) hown (mvT hZ (hw _ (List.mem_of_getElem? (i := 22) rfl))) (mvT hZ (hw _ (List.mem_of_getElem? (i := 23) rfl))) (notFace_of_selects (args := #[]) (mvT hZ (hw _ (List.mem_of_getElem? (i := 25) rfl)))) (mvT hZ (hw _ (List.mem_of_getElem? (i := 25) rfl))) (mvT hZ (hw _ (List.mem_of_getElem? (i := 24) rfl))) (by decide) (backOf (W := 0) (rm4 l Z a0 hw [] b267 i260 r276 b_vertices_268 k_vertices_268 (0 : Int32) (0 : Int32) (0 : Int32) b_states_268 k_states_268 (0 : Int32) (0 : Int32) (0 : Int32) i263 wSUSCEPTIBLE wRECOVERED wINFECTED h0 T268.heap n0 (Nat.le_trans Z0 KK268.1) W0 EX268 Zs ⟨E_b267_268, g_b267_268, G_b267_vertices_268, G_b267_states_268, G_b267_count_268, g_b267_vertices_268, ne_b267_vertices_268, V_b267_vertices_268, g_b267_states_268, ne_b267_states_268, V_b267_states_268, nn_b267_vertices_states_268, trivial⟩ F_r276 E_r276 A1) hZ (hw _ (List.mem_of_getElem? (i := 26) rfl)) (hw _ (List.mem_of_getElem? (i := 2) rfl)) (by decide) (by decide)) q277a q277c (g := (mkF m 118 #[.val (.int p0), .val (.int p1), .val (.int p2), .val (.int p3), .val (.int p4), .val (.int (2 : Int32)), .val (.int i260), .val (.int i261), .val (.int i262), .val (.int i263), .val (.int i264), .val (.int i265), .val (.int i266), .val (.ref b267), .unset, .unset, .unset, .unset] [(.ref r276), (.int i260), (.ref b267)])) rfl (by rw [hml]; rfl) (Steps.refl _) (argsL := [(.int i260), (.ref r276)]) (rest := []) (lenOf pd_3 rfl) rfl (by show 2 * 0 + _ ≤ _; exact Nat.le_of_eq rfl) (hb hby at_118) (fun _ _ => ⟨rfl, e274, (by decide : 3 + 0 ≤ _), (by decide : 35 + 0 ≤ _)⟩)
      dsimp only [Pt.U, Pt.locs, Pt.cells, Pt.slots] at X277 l277 y277 z277 st277 hQ277
      subst l277 y277 z277
      unfold Q4 at hQ277
      have k278 : ∀ t, Steps p.tables e below (T274.setTop (mkF m 118 #[.val (.int p0), .val (.int p1), .val (.int p2), .val (.int p3), .val (.int p4), .val (.int (2 : Int32)), .val (.int i260), .val (.int i261), .val (.int i262), .val (.int i263), .val (.int i264), .val (.int i265), .val (.int i266), .val (.ref b267), .unset, .unset, .unset, .unset] [(.ref r276), (.int i260), (.ref b267)])) t → Steps p.tables e below (s₁.setTop (entryFrame m #[(.int p0), (.int p1), (.int p2), (.int p3), (.int p4)] maxLocals)) t := fun t kt => k275 t (by
        show Steps p.tables e below (T268.setTop (mkF m 115 #[.val (.int p0), .val (.int p1), .val (.int p2), .val (.int p3), .val (.int p4), .val (.int (2 : Int32)), .val (.int i260), .val (.int i261), .val (.int i262), .val (.int i263), .val (.int i264), .val (.int i265), .val (.int i266), .val (.ref b267), .unset, .unset, .unset, .unset] [(.int i263), (.int i260), (.ref b267)])) _
        refine st274 _ ?_
        exact kt)
      obtain ⟨rfl, N277q, EXc277, Kc277, OB277_p0⟩ := hQ277
      have N277 := Fr.app N274 N277q
      have EX277 : Ext h0 T277.heap := EXc277
      have KK277 : Keep h0 T277.heap ([] : List Addr) := Keep.trans KK268 Kc277 (allS (Or.inr (Nat.le_trans Zs g_b267_vertices_268)) (allS (Or.inr (Nat.le_trans Zs g_b267_states_268)) (allS (Or.inr (Nat.le_trans Zs g_b267_268)) all0)))
      have OBx277_p0 : Obj Z T277.heap n0 b267 b_vertices_268 k_vertices_268 i260 (0 : Int32) (0 : Int32) b_states_268 k_states_268 (i263.toInt8.toInt32) (0 : Int32) (0 : Int32) (1 : Int32) := OB277_p0
      obtain ⟨E_b267_277, g_b267_277, G_b267_vertices_277, G_b267_states_277, G_b267_count_277, g_b267_vertices_277, ne_b267_vertices_277, V_b267_vertices_277, g_b267_states_277, ne_b267_states_277, V_b267_states_277, nn_b267_vertices_states_277, -⟩ := OBx277_p0
      obtain ⟨_, _, ⟨T280, L280, k280, n280⟩, -, X280, ⟨Lc280, hQ280, l280, y280, z280⟩, st280⟩ := Jvm.LawKit.callS X277 hx (y := (⟨"com/example/rippletide/rippletide/model/StateChangesHashCodePinLaw", "state", "(I)Lcom/example/rippletide/rippletide/model/State;"⟩ : MethodName)) hown (mvT hZ (hw _ (List.mem_of_getElem? (i := 15) rfl))) (mvT hZ (hw _ (List.mem_of_getElem? (i := 16) rfl))) (mvT hZ (hw _ (List.mem_of_getElem? (i := 17) rfl))) (mvT hZ (hw _ (List.mem_of_getElem? (i := 18) rfl))) (by decide) (backOf (W := 2) (rm1 l Z a0 hw [] i264 wSUSCEPTIBLE wRECOVERED wINFECTED T277.heap n0 (Nat.le_trans Z0 KK277.1) (W0.ext EX277) ) hZ (hw _ (List.mem_of_getElem? (i := 18) rfl)) (hw _ (List.mem_of_getElem? (i := 17) rfl)) (by decide) (by decide)) (g := (mkF m 133 #[.val (.int p0), .val (.int p1), .val (.int p2), .val (.int p3), .val (.int p4), .val (.int (2 : Int32)), .val (.int i260), .val (.int i261), .val (.int i262), .val (.int i263), .val (.int i264), .val (.int i265), .val (.int i266), .val (.ref b267), .unset, .unset, .unset, .unset] [(.int i264), (.int i261), (.ref b267)])) rfl (by rw [hml]; rfl) (argsL := [(.int i264)]) (rest := [(.int i261), (.ref b267)]) (lenOf pd_2 rfl) rfl (by show 2 * 0 + _ ≤ _; exact Nat.le_of_eq rfl) (hb hby at_133) (fun _ _ => ⟨rfl, rfl, (by decide : 3 + 0 ≤ _), (by decide : 35 + 0 ≤ _)⟩)
      dsimp only [Pt.U, Pt.locs, Pt.cells, Pt.slots] at X280 l280 y280 z280 st280 hQ280
      subst l280 y280 z280
      unfold Q1 at hQ280
      have k281 : ∀ t, Steps p.tables e below (T277.setTop (mkF m 133 #[.val (.int p0), .val (.int p1), .val (.int p2), .val (.int p3), .val (.int p4), .val (.int (2 : Int32)), .val (.int i260), .val (.int i261), .val (.int i262), .val (.int i263), .val (.int i264), .val (.int i265), .val (.int i266), .val (.ref b267), .unset, .unset, .unset, .unset] [(.int i264), (.int i261), (.ref b267)])) t → Steps p.tables e below (s₁.setTop (entryFrame m #[(.int p0), (.int p1), (.int p2), (.int p3), (.int p4)] maxLocals)) t := fun t kt => k278 t (by
        show Steps p.tables e below (T274.setTop (mkF m 118 #[.val (.int p0), .val (.int p1), .val (.int p2), .val (.int p3), .val (.int p4), .val (.int (2 : Int32)), .val (.int i260), .val (.int i261), .val (.int i262), .val (.int i263), .val (.int i264), .val (.int i265), .val (.int i266), .val (.ref b267), .unset, .unset, .unset, .unset] [(.ref r276), (.int i260), (.ref b267)])) _
        refine st277.trans ?_
        show Steps p.tables e below (T277.setTop (mkF m 121 #[.val (.int p0), .val (.int p1), .val (.int p2), .val (.int p3), .val (.int p4), .val (.int (2 : Int32)), .val (.int i260), .val (.int i261), .val (.int i262), .val (.int i263), .val (.int i264), .val (.int i265), .val (.int i266), .val (.ref b267), .unset, .unset, .unset, .unset] [])) _
        refine XS.iload X277.here hx rfl (hb hby at_121) rfl ?_
        show Steps p.tables e below (T277.setTop (mkF m 123 #[.val (.int p0), .val (.int p1), .val (.int p2), .val (.int p3), .val (.int p4), .val (.int (2 : Int32)), .val (.int i260), .val (.int i261), .val (.int i262), .val (.int i263), .val (.int i264), .val (.int i265), .val (.int i266), .val (.ref b267), .unset, .unset, .unset, .unset] [(.int (2 : Int32))])) _
        refine XS.iconst X277.here hx rfl (hb hby at_123) ?_
        show Steps p.tables e below (T277.setTop (mkF m 124 #[.val (.int p0), .val (.int p1), .val (.int p2), .val (.int p3), .val (.int p4), .val (.int (2 : Int32)), .val (.int i260), .val (.int i261), .val (.int i262), .val (.int i263), .val (.int i264), .val (.int i265), .val (.int i266), .val (.ref b267), .unset, .unset, .unset, .unset] [(.int (2 : Int32)), (.int (2 : Int32))])) _
        refine XS.icmpNo X277.here hx rfl (hb hby at_124) rfl (flt ((by first | exact Int32.lt_irrefl _ | decide) : ¬ ((2 : Int32) < (2 : Int32)))).1 ?_
        show Steps p.tables e below (T277.setTop (mkF m 127 #[.val (.int p0), .val (.int p1), .val (.int p2), .val (.int p3), .val (.int p4), .val (.int (2 : Int32)), .val (.int i260), .val (.int i261), .val (.int i262), .val (.int i263), .val (.int i264), .val (.int i265), .val (.int i266), .val (.ref b267), .unset, .unset, .unset, .unset] [])) _
        refine XS.aload X277.here hx rfl (hb hby at_127) rfl rfl ?_
        show Steps p.tables e below (T277.setTop (mkF m 129 #[.val (.int p0), .val (.int p1), .val (.int p2), .val (.int p3), .val (.int p4), .val (.int (2 : Int32)), .val (.int i260), .val (.int i261), .val (.int i262), .val (.int i263), .val (.int i264), .val (.int i265), .val (.int i266), .val (.ref b267), .unset, .unset, .unset, .unset] [(.ref b267)])) _
        refine XS.iload X277.here hx rfl (hb hby at_129) rfl ?_
        show Steps p.tables e below (T277.setTop (mkF m 131 #[.val (.int p0), .val (.int p1), .val (.int p2), .val (.int p3), .val (.int p4), .val (.int (2 : Int32)), .val (.int i260), .val (.int i261), .val (.int i262), .val (.int i263), .val (.int i264), .val (.int i265), .val (.int i266), .val (.ref b267), .unset, .unset, .unset, .unset] [(.int i261), (.ref b267)])) _
        refine XS.iload X277.here hx rfl (hb hby at_131) rfl ?_
        exact kt)
      obtain ⟨r282, hr282⟩ : ∃ z, z = (f1 i264 wSUSCEPTIBLE wRECOVERED wINFECTED) := ⟨_, rfl⟩
      rw [← hr282] at hQ280
      obtain ⟨rfl, N280q, e280⟩ := hQ280
      have N280 := Fr.app N277 N280q
      have PFr282 := own_state W0 (own_cs3 hi264)
      rw [← hr282] at PFr282
      obtain ⟨E_r282, F_r282⟩ := PFr282
      obtain ⟨cq283, kq283, q283a, q283b, q283c⟩ := isOf hZ e280 E_b267_277
      obtain ⟨_, _, ⟨T283, L283, k283, n283⟩, -, X283, ⟨Lc283, hQ283, l283, y283, z283⟩, st283⟩ := X280.virtualBack hx (y := (⟨"com/example/rippletide/rippletide/model/StateChanges", "add", "(ILcom/example/rippletide/rippletide/model/State;)V"⟩ : MethodName)) (z := (⟨"com/example/rippletide/rippletide/model/StateChanges", "add", "(ILcom/example/rippletide/rippletide/model/State;)V"⟩ : MethodName)) hown (mvT hZ (hw _ (List.mem_of_getElem? (i := 22) rfl))) (mvT hZ (hw _ (List.mem_of_getElem? (i := 23) rfl))) (notFace_of_selects (args := #[]) (mvT hZ (hw _ (List.mem_of_getElem? (i := 25) rfl)))) (mvT hZ (hw _ (List.mem_of_getElem? (i := 25) rfl))) (mvT hZ (hw _ (List.mem_of_getElem? (i := 24) rfl))) (by decide) (backOf (W := 0) (rm5 l Z a0 hw [] b267 i261 r282 b_vertices_268 k_vertices_268 i260 (0 : Int32) (0 : Int32) b_states_268 k_states_268 (i263.toInt8.toInt32) (0 : Int32) (0 : Int32) i264 wSUSCEPTIBLE wRECOVERED wINFECTED h0 T277.heap n0 (Nat.le_trans Z0 KK277.1) W0 EX277 Zs ⟨E_b267_277, g_b267_277, G_b267_vertices_277, G_b267_states_277, G_b267_count_277, g_b267_vertices_277, ne_b267_vertices_277, V_b267_vertices_277, g_b267_states_277, ne_b267_states_277, V_b267_states_277, nn_b267_vertices_states_277, trivial⟩ F_r282 E_r282 A3 A2) hZ (hw _ (List.mem_of_getElem? (i := 26) rfl)) (hw _ (List.mem_of_getElem? (i := 2) rfl)) (by decide) (by decide)) q283a q283c (g := (mkF m 136 #[.val (.int p0), .val (.int p1), .val (.int p2), .val (.int p3), .val (.int p4), .val (.int (2 : Int32)), .val (.int i260), .val (.int i261), .val (.int i262), .val (.int i263), .val (.int i264), .val (.int i265), .val (.int i266), .val (.ref b267), .unset, .unset, .unset, .unset] [(.ref r282), (.int i261), (.ref b267)])) rfl (by rw [hml]; rfl) (Steps.refl _) (argsL := [(.int i261), (.ref r282)]) (rest := []) (lenOf pd_3 rfl) rfl (by show 2 * 0 + _ ≤ _; exact Nat.le_of_eq rfl) (hb hby at_136) (fun _ _ => ⟨rfl, e280, (by decide : 3 + 0 ≤ _), (by decide : 35 + 0 ≤ _)⟩)
      dsimp only [Pt.U, Pt.locs, Pt.cells, Pt.slots] at X283 l283 y283 z283 st283 hQ283
      subst l283 y283 z283
      unfold Q5 at hQ283
      have k284 : ∀ t, Steps p.tables e below (T280.setTop (mkF m 136 #[.val (.int p0), .val (.int p1), .val (.int p2), .val (.int p3), .val (.int p4), .val (.int (2 : Int32)), .val (.int i260), .val (.int i261), .val (.int i262), .val (.int i263), .val (.int i264), .val (.int i265), .val (.int i266), .val (.ref b267), .unset, .unset, .unset, .unset] [(.ref r282), (.int i261), (.ref b267)])) t → Steps p.tables e below (s₁.setTop (entryFrame m #[(.int p0), (.int p1), (.int p2), (.int p3), (.int p4)] maxLocals)) t := fun t kt => k281 t (by
        show Steps p.tables e below (T277.setTop (mkF m 133 #[.val (.int p0), .val (.int p1), .val (.int p2), .val (.int p3), .val (.int p4), .val (.int (2 : Int32)), .val (.int i260), .val (.int i261), .val (.int i262), .val (.int i263), .val (.int i264), .val (.int i265), .val (.int i266), .val (.ref b267), .unset, .unset, .unset, .unset] [(.int i264), (.int i261), (.ref b267)])) _
        refine st280 _ ?_
        exact kt)
      obtain ⟨rfl, N283q, EXc283, Kc283, OB283_p0⟩ := hQ283
      have N283 := Fr.app N280 N283q
      have EX283 : Ext h0 T283.heap := EXc283
      have KK283 : Keep h0 T283.heap ([] : List Addr) := Keep.trans KK277 Kc283 (allS (Or.inr (Nat.le_trans Zs g_b267_vertices_277)) (allS (Or.inr (Nat.le_trans Zs g_b267_states_277)) (allS (Or.inr (Nat.le_trans Zs g_b267_277)) all0)))
      have OBx283_p0 : Obj Z T283.heap n0 b267 b_vertices_268 k_vertices_268 i260 i261 (0 : Int32) b_states_268 k_states_268 (i263.toInt8.toInt32) (i264.toInt8.toInt32) (0 : Int32) (2 : Int32) := OB283_p0
      obtain ⟨E_b267_283, g_b267_283, G_b267_vertices_283, G_b267_states_283, G_b267_count_283, g_b267_vertices_283, ne_b267_vertices_283, V_b267_vertices_283, g_b267_states_283, ne_b267_states_283, V_b267_states_283, nn_b267_vertices_states_283, -⟩ := OBx283_p0
      obtain ⟨i286, hi286⟩ : ∃ z, z = (((31 : Int32) * i260) + i263) := ⟨_, rfl⟩
      obtain ⟨i287, hi287⟩ : ∃ z, z = (((31 : Int32) * i261) + i264) := ⟨_, rfl⟩
      obtain ⟨i288, hi288⟩ : ∃ z, z = (((31 : Int32) * i262) + i265) := ⟨_, rfl⟩
      obtain ⟨i289, hi289⟩ : ∃ z, z = (((923521 : Int32) + ((961 : Int32) * i286)) + i287) := ⟨_, rfl⟩
      obtain ⟨cq290, kq290, q290a, q290b, q290c⟩ := isOf hZ rfl E_b267_283
      obtain ⟨_, _, ⟨T290, L290, k290, n290⟩, -, X290, ⟨Lc290, hQ290, l290, y290, z290⟩, st290⟩ := X283.virtualBack hx (y := (⟨"com/example/rippletide/rippletide/model/StateChanges", "hashCode", "()I"⟩ : MethodName)) (z := (⟨"com/example/rippletide/rippletide/model/StateChanges", "hashCode", "()I"⟩ : MethodName)) hown (mvT hZ (hw _ (List.mem_of_getElem? (i := 38) rfl))) (mvT hZ (hw _ (List.mem_of_getElem? (i := 39) rfl))) (notFace_of_selects (args := #[]) (mvT hZ (hw _ (List.mem_of_getElem? (i := 41) rfl)))) (mvT hZ (hw _ (List.mem_of_getElem? (i := 41) rfl))) (mvT hZ (hw _ (List.mem_of_getElem? (i := 40) rfl))) (by decide) (backOf (W := 0) (rm10 l Z a0 hw [] b267 b_vertices_268 k_vertices_268 i260 i261 (0 : Int32) b_states_268 k_states_268 (i263.toInt8.toInt32) (i264.toInt8.toInt32) (0 : Int32) wSUSCEPTIBLE wRECOVERED wINFECTED h0 T283.heap n0 (Nat.le_trans Z0 KK283.1) W0 EX283 Zs ⟨E_b267_283, g_b267_283, G_b267_vertices_283, G_b267_states_283, G_b267_count_283, g_b267_vertices_283, ne_b267_vertices_283, V_b267_vertices_283, g_b267_states_283, ne_b267_states_283, V_b267_states_283, nn_b267_vertices_states_283, trivial⟩ ) hZ (hw _ (List.mem_of_getElem? (i := 42) rfl)) (hw _ (List.mem_of_getElem? (i := 2) rfl)) (by decide) (by decide)) q290a q290c (g := (mkF m 260 #[.val (.int p0), .val (.int p1), .val (.int p2), .val (.int p3), .val (.int p4), .val (.int (2 : Int32)), .val (.int i260), .val (.int i261), .val (.int i262), .val (.int i263), .val (.int i264), .val (.int i265), .val (.int i266), .val (.ref b267), .val (.int i286), .val (.int i287), .val (.int i288), .val (.int i289)] [(.ref b267)])) rfl (by rw [hml]; rfl) (Steps.refl _) (argsL := []) (rest := []) (lenOf pd_0 rfl) rfl (by show 2 * 0 + _ ≤ _; exact Nat.le_of_eq rfl) (hb hby at_260) (fun _ _ => ⟨rfl, rfl, (by decide : 3 + 0 ≤ _), (by decide : 35 + 0 ≤ _)⟩)
      dsimp only [Pt.U, Pt.locs, Pt.cells, Pt.slots] at X290 l290 y290 z290 st290 hQ290
      subst l290 y290 z290
      unfold Q10 at hQ290
      have k291 : ∀ t, Steps p.tables e below (T283.setTop (mkF m 260 #[.val (.int p0), .val (.int p1), .val (.int p2), .val (.int p3), .val (.int p4), .val (.int (2 : Int32)), .val (.int i260), .val (.int i261), .val (.int i262), .val (.int i263), .val (.int i264), .val (.int i265), .val (.int i266), .val (.ref b267), .val (.int i286), .val (.int i287), .val (.int i288), .val (.int i289)] [(.ref b267)])) t → Steps p.tables e below (s₁.setTop (entryFrame m #[(.int p0), (.int p1), (.int p2), (.int p3), (.int p4)] maxLocals)) t := fun t kt => k284 t (by
        show Steps p.tables e below (T280.setTop (mkF m 136 #[.val (.int p0), .val (.int p1), .val (.int p2), .val (.int p3), .val (.int p4), .val (.int (2 : Int32)), .val (.int i260), .val (.int i261), .val (.int i262), .val (.int i263), .val (.int i264), .val (.int i265), .val (.int i266), .val (.ref b267), .unset, .unset, .unset, .unset] [(.ref r282), (.int i261), (.ref b267)])) _
        refine st283.trans ?_
        show Steps p.tables e below (T283.setTop (mkF m 139 #[.val (.int p0), .val (.int p1), .val (.int p2), .val (.int p3), .val (.int p4), .val (.int (2 : Int32)), .val (.int i260), .val (.int i261), .val (.int i262), .val (.int i263), .val (.int i264), .val (.int i265), .val (.int i266), .val (.ref b267), .unset, .unset, .unset, .unset] [])) _
        refine XS.iload X283.here hx rfl (hb hby at_139) rfl ?_
        show Steps p.tables e below (T283.setTop (mkF m 141 #[.val (.int p0), .val (.int p1), .val (.int p2), .val (.int p3), .val (.int p4), .val (.int (2 : Int32)), .val (.int i260), .val (.int i261), .val (.int i262), .val (.int i263), .val (.int i264), .val (.int i265), .val (.int i266), .val (.ref b267), .unset, .unset, .unset, .unset] [(.int (2 : Int32))])) _
        refine XS.iconst X283.here hx rfl (hb hby at_141) ?_
        show Steps p.tables e below (T283.setTop (mkF m 142 #[.val (.int p0), .val (.int p1), .val (.int p2), .val (.int p3), .val (.int p4), .val (.int (2 : Int32)), .val (.int i260), .val (.int i261), .val (.int i262), .val (.int i263), .val (.int i264), .val (.int i265), .val (.int i266), .val (.ref b267), .unset, .unset, .unset, .unset] [(.int (3 : Int32)), (.int (2 : Int32))])) _
        refine XS.icmpYes X283.here hx rfl (pc0 := 142) (pc' := 157) rfl (hb hby at_142) rfl (tlt ((by decide) : (2 : Int32) < (3 : Int32))).1 (by decide) (by decide) ?_
        show Steps p.tables e below (T283.setTop (mkF m 157 #[.val (.int p0), .val (.int p1), .val (.int p2), .val (.int p3), .val (.int p4), .val (.int (2 : Int32)), .val (.int i260), .val (.int i261), .val (.int i262), .val (.int i263), .val (.int i264), .val (.int i265), .val (.int i266), .val (.ref b267), .unset, .unset, .unset, .unset] [])) _
        refine XS.bipush X283.here hx rfl (hb hby at_157) ?_
        show Steps p.tables e below (T283.setTop (mkF m 159 #[.val (.int p0), .val (.int p1), .val (.int p2), .val (.int p3), .val (.int p4), .val (.int (2 : Int32)), .val (.int i260), .val (.int i261), .val (.int i262), .val (.int i263), .val (.int i264), .val (.int i265), .val (.int i266), .val (.ref b267), .unset, .unset, .unset, .unset] [(.int (31 : Int32))])) _
        refine XS.iload X283.here hx rfl (hb hby at_159) rfl ?_
        show Steps p.tables e below (T283.setTop (mkF m 161 #[.val (.int p0), .val (.int p1), .val (.int p2), .val (.int p3), .val (.int p4), .val (.int (2 : Int32)), .val (.int i260), .val (.int i261), .val (.int i262), .val (.int i263), .val (.int i264), .val (.int i265), .val (.int i266), .val (.ref b267), .unset, .unset, .unset, .unset] [(.int i260), (.int (31 : Int32))])) _
        refine XS.imul X283.here hx rfl (hb hby at_161) rfl ?_
        show Steps p.tables e below (T283.setTop (mkF m 162 #[.val (.int p0), .val (.int p1), .val (.int p2), .val (.int p3), .val (.int p4), .val (.int (2 : Int32)), .val (.int i260), .val (.int i261), .val (.int i262), .val (.int i263), .val (.int i264), .val (.int i265), .val (.int i266), .val (.ref b267), .unset, .unset, .unset, .unset] [(.int ((31 : Int32) * i260))])) _
        refine XS.iload X283.here hx rfl (hb hby at_162) rfl ?_
        show Steps p.tables e below (T283.setTop (mkF m 164 #[.val (.int p0), .val (.int p1), .val (.int p2), .val (.int p3), .val (.int p4), .val (.int (2 : Int32)), .val (.int i260), .val (.int i261), .val (.int i262), .val (.int i263), .val (.int i264), .val (.int i265), .val (.int i266), .val (.ref b267), .unset, .unset, .unset, .unset] [(.int i263), (.int ((31 : Int32) * i260))])) _
        refine XS.iadd X283.here hx rfl (hb hby at_164) rfl ?_
        rw [← hi286]
        show Steps p.tables e below (T283.setTop (mkF m 165 #[.val (.int p0), .val (.int p1), .val (.int p2), .val (.int p3), .val (.int p4), .val (.int (2 : Int32)), .val (.int i260), .val (.int i261), .val (.int i262), .val (.int i263), .val (.int i264), .val (.int i265), .val (.int i266), .val (.ref b267), .unset, .unset, .unset, .unset] [(.int i286)])) _
        refine XS.istore X283.here hx rfl (hb hby at_165) rfl (l' := #[.val (.int p0), .val (.int p1), .val (.int p2), .val (.int p3), .val (.int p4), .val (.int (2 : Int32)), .val (.int i260), .val (.int i261), .val (.int i262), .val (.int i263), .val (.int i264), .val (.int i265), .val (.int i266), .val (.ref b267), .val (.int i286), .unset, .unset, .unset]) rfl ?_
        show Steps p.tables e below (T283.setTop (mkF m 167 #[.val (.int p0), .val (.int p1), .val (.int p2), .val (.int p3), .val (.int p4), .val (.int (2 : Int32)), .val (.int i260), .val (.int i261), .val (.int i262), .val (.int i263), .val (.int i264), .val (.int i265), .val (.int i266), .val (.ref b267), .val (.int i286), .unset, .unset, .unset] [])) _
        refine XS.bipush X283.here hx rfl (hb hby at_167) ?_
        show Steps p.tables e below (T283.setTop (mkF m 169 #[.val (.int p0), .val (.int p1), .val (.int p2), .val (.int p3), .val (.int p4), .val (.int (2 : Int32)), .val (.int i260), .val (.int i261), .val (.int i262), .val (.int i263), .val (.int i264), .val (.int i265), .val (.int i266), .val (.ref b267), .val (.int i286), .unset, .unset, .unset] [(.int (31 : Int32))])) _
        refine XS.iload X283.here hx rfl (hb hby at_169) rfl ?_
        show Steps p.tables e below (T283.setTop (mkF m 171 #[.val (.int p0), .val (.int p1), .val (.int p2), .val (.int p3), .val (.int p4), .val (.int (2 : Int32)), .val (.int i260), .val (.int i261), .val (.int i262), .val (.int i263), .val (.int i264), .val (.int i265), .val (.int i266), .val (.ref b267), .val (.int i286), .unset, .unset, .unset] [(.int i261), (.int (31 : Int32))])) _
        refine XS.imul X283.here hx rfl (hb hby at_171) rfl ?_
        show Steps p.tables e below (T283.setTop (mkF m 172 #[.val (.int p0), .val (.int p1), .val (.int p2), .val (.int p3), .val (.int p4), .val (.int (2 : Int32)), .val (.int i260), .val (.int i261), .val (.int i262), .val (.int i263), .val (.int i264), .val (.int i265), .val (.int i266), .val (.ref b267), .val (.int i286), .unset, .unset, .unset] [(.int ((31 : Int32) * i261))])) _
        refine XS.iload X283.here hx rfl (hb hby at_172) rfl ?_
        show Steps p.tables e below (T283.setTop (mkF m 174 #[.val (.int p0), .val (.int p1), .val (.int p2), .val (.int p3), .val (.int p4), .val (.int (2 : Int32)), .val (.int i260), .val (.int i261), .val (.int i262), .val (.int i263), .val (.int i264), .val (.int i265), .val (.int i266), .val (.ref b267), .val (.int i286), .unset, .unset, .unset] [(.int i264), (.int ((31 : Int32) * i261))])) _
        refine XS.iadd X283.here hx rfl (hb hby at_174) rfl ?_
        rw [← hi287]
        show Steps p.tables e below (T283.setTop (mkF m 175 #[.val (.int p0), .val (.int p1), .val (.int p2), .val (.int p3), .val (.int p4), .val (.int (2 : Int32)), .val (.int i260), .val (.int i261), .val (.int i262), .val (.int i263), .val (.int i264), .val (.int i265), .val (.int i266), .val (.ref b267), .val (.int i286), .unset, .unset, .unset] [(.int i287)])) _
        refine XS.istore X283.here hx rfl (hb hby at_175) rfl (l' := #[.val (.int p0), .val (.int p1), .val (.int p2), .val (.int p3), .val (.int p4), .val (.int (2 : Int32)), .val (.int i260), .val (.int i261), .val (.int i262), .val (.int i263), .val (.int i264), .val (.int i265), .val (.int i266), .val (.ref b267), .val (.int i286), .val (.int i287), .unset, .unset]) rfl ?_
        show Steps p.tables e below (T283.setTop (mkF m 177 #[.val (.int p0), .val (.int p1), .val (.int p2), .val (.int p3), .val (.int p4), .val (.int (2 : Int32)), .val (.int i260), .val (.int i261), .val (.int i262), .val (.int i263), .val (.int i264), .val (.int i265), .val (.int i266), .val (.ref b267), .val (.int i286), .val (.int i287), .unset, .unset] [])) _
        refine XS.bipush X283.here hx rfl (hb hby at_177) ?_
        show Steps p.tables e below (T283.setTop (mkF m 179 #[.val (.int p0), .val (.int p1), .val (.int p2), .val (.int p3), .val (.int p4), .val (.int (2 : Int32)), .val (.int i260), .val (.int i261), .val (.int i262), .val (.int i263), .val (.int i264), .val (.int i265), .val (.int i266), .val (.ref b267), .val (.int i286), .val (.int i287), .unset, .unset] [(.int (31 : Int32))])) _
        refine XS.iload X283.here hx rfl (hb hby at_179) rfl ?_
        show Steps p.tables e below (T283.setTop (mkF m 181 #[.val (.int p0), .val (.int p1), .val (.int p2), .val (.int p3), .val (.int p4), .val (.int (2 : Int32)), .val (.int i260), .val (.int i261), .val (.int i262), .val (.int i263), .val (.int i264), .val (.int i265), .val (.int i266), .val (.ref b267), .val (.int i286), .val (.int i287), .unset, .unset] [(.int i262), (.int (31 : Int32))])) _
        refine XS.imul X283.here hx rfl (hb hby at_181) rfl ?_
        show Steps p.tables e below (T283.setTop (mkF m 182 #[.val (.int p0), .val (.int p1), .val (.int p2), .val (.int p3), .val (.int p4), .val (.int (2 : Int32)), .val (.int i260), .val (.int i261), .val (.int i262), .val (.int i263), .val (.int i264), .val (.int i265), .val (.int i266), .val (.ref b267), .val (.int i286), .val (.int i287), .unset, .unset] [(.int ((31 : Int32) * i262))])) _
        refine XS.iload X283.here hx rfl (hb hby at_182) rfl ?_
        show Steps p.tables e below (T283.setTop (mkF m 184 #[.val (.int p0), .val (.int p1), .val (.int p2), .val (.int p3), .val (.int p4), .val (.int (2 : Int32)), .val (.int i260), .val (.int i261), .val (.int i262), .val (.int i263), .val (.int i264), .val (.int i265), .val (.int i266), .val (.ref b267), .val (.int i286), .val (.int i287), .unset, .unset] [(.int i265), (.int ((31 : Int32) * i262))])) _
        refine XS.iadd X283.here hx rfl (hb hby at_184) rfl ?_
        rw [← hi288]
        show Steps p.tables e below (T283.setTop (mkF m 185 #[.val (.int p0), .val (.int p1), .val (.int p2), .val (.int p3), .val (.int p4), .val (.int (2 : Int32)), .val (.int i260), .val (.int i261), .val (.int i262), .val (.int i263), .val (.int i264), .val (.int i265), .val (.int i266), .val (.ref b267), .val (.int i286), .val (.int i287), .unset, .unset] [(.int i288)])) _
        refine XS.istore X283.here hx rfl (hb hby at_185) rfl (l' := #[.val (.int p0), .val (.int p1), .val (.int p2), .val (.int p3), .val (.int p4), .val (.int (2 : Int32)), .val (.int i260), .val (.int i261), .val (.int i262), .val (.int i263), .val (.int i264), .val (.int i265), .val (.int i266), .val (.ref b267), .val (.int i286), .val (.int i287), .val (.int i288), .unset]) rfl ?_
        show Steps p.tables e below (T283.setTop (mkF m 187 #[.val (.int p0), .val (.int p1), .val (.int p2), .val (.int p3), .val (.int p4), .val (.int (2 : Int32)), .val (.int i260), .val (.int i261), .val (.int i262), .val (.int i263), .val (.int i264), .val (.int i265), .val (.int i266), .val (.ref b267), .val (.int i286), .val (.int i287), .val (.int i288), .unset] [])) _
        refine XS.iload X283.here hx rfl (hb hby at_187) rfl ?_
        show Steps p.tables e below (T283.setTop (mkF m 189 #[.val (.int p0), .val (.int p1), .val (.int p2), .val (.int p3), .val (.int p4), .val (.int (2 : Int32)), .val (.int i260), .val (.int i261), .val (.int i262), .val (.int i263), .val (.int i264), .val (.int i265), .val (.int i266), .val (.ref b267), .val (.int i286), .val (.int i287), .val (.int i288), .unset] [(.int (2 : Int32))])) _
        refine XS.ifYes X283.here hx rfl (pc0 := 189) (pc' := 198) rfl (hb hby at_189) rfl ((if0 _ _).trans (feq ((by decide) : ¬ ((2 : Int32) = (0 : Int32)))).2) (by decide) (by decide) ?_
        show Steps p.tables e below (T283.setTop (mkF m 198 #[.val (.int p0), .val (.int p1), .val (.int p2), .val (.int p3), .val (.int p4), .val (.int (2 : Int32)), .val (.int i260), .val (.int i261), .val (.int i262), .val (.int i263), .val (.int i264), .val (.int i265), .val (.int i266), .val (.ref b267), .val (.int i286), .val (.int i287), .val (.int i288), .unset] [])) _
        refine XS.iload X283.here hx rfl (hb hby at_198) rfl ?_
        show Steps p.tables e below (T283.setTop (mkF m 200 #[.val (.int p0), .val (.int p1), .val (.int p2), .val (.int p3), .val (.int p4), .val (.int (2 : Int32)), .val (.int i260), .val (.int i261), .val (.int i262), .val (.int i263), .val (.int i264), .val (.int i265), .val (.int i266), .val (.ref b267), .val (.int i286), .val (.int i287), .val (.int i288), .unset] [(.int (2 : Int32))])) _
        refine XS.iconst X283.here hx rfl (hb hby at_200) ?_
        show Steps p.tables e below (T283.setTop (mkF m 201 #[.val (.int p0), .val (.int p1), .val (.int p2), .val (.int p3), .val (.int p4), .val (.int (2 : Int32)), .val (.int i260), .val (.int i261), .val (.int i262), .val (.int i263), .val (.int i264), .val (.int i265), .val (.int i266), .val (.ref b267), .val (.int i286), .val (.int i287), .val (.int i288), .unset] [(.int (1 : Int32)), (.int (2 : Int32))])) _
        refine XS.icmpYes X283.here hx rfl (pc0 := 201) (pc' := 215) rfl (hb hby at_201) rfl (feq ((by decide) : ¬ ((2 : Int32) = (1 : Int32)))).2 (by decide) (by decide) ?_
        show Steps p.tables e below (T283.setTop (mkF m 215 #[.val (.int p0), .val (.int p1), .val (.int p2), .val (.int p3), .val (.int p4), .val (.int (2 : Int32)), .val (.int i260), .val (.int i261), .val (.int i262), .val (.int i263), .val (.int i264), .val (.int i265), .val (.int i266), .val (.ref b267), .val (.int i286), .val (.int i287), .val (.int i288), .unset] [])) _
        refine XS.iload X283.here hx rfl (hb hby at_215) rfl ?_
        show Steps p.tables e below (T283.setTop (mkF m 217 #[.val (.int p0), .val (.int p1), .val (.int p2), .val (.int p3), .val (.int p4), .val (.int (2 : Int32)), .val (.int i260), .val (.int i261), .val (.int i262), .val (.int i263), .val (.int i264), .val (.int i265), .val (.int i266), .val (.ref b267), .val (.int i286), .val (.int i287), .val (.int i288), .unset] [(.int (2 : Int32))])) _
        refine XS.iconst X283.here hx rfl (hb hby at_217) ?_
        show Steps p.tables e below (T283.setTop (mkF m 218 #[.val (.int p0), .val (.int p1), .val (.int p2), .val (.int p3), .val (.int p4), .val (.int (2 : Int32)), .val (.int i260), .val (.int i261), .val (.int i262), .val (.int i263), .val (.int i264), .val (.int i265), .val (.int i266), .val (.ref b267), .val (.int i286), .val (.int i287), .val (.int i288), .unset] [(.int (2 : Int32)), (.int (2 : Int32))])) _
        refine XS.icmpNo X283.here hx rfl (hb hby at_218) rfl (teq (rfl : (2 : Int32) = (2 : Int32))).2 ?_
        show Steps p.tables e below (T283.setTop (mkF m 221 #[.val (.int p0), .val (.int p1), .val (.int p2), .val (.int p3), .val (.int p4), .val (.int (2 : Int32)), .val (.int i260), .val (.int i261), .val (.int i262), .val (.int i263), .val (.int i264), .val (.int i265), .val (.int i266), .val (.ref b267), .val (.int i286), .val (.int i287), .val (.int i288), .unset] [])) _
        refine X283.ldcInt hx hown (mvT hZ (hw _ (List.mem_of_getElem? (i := 54) rfl))) (g := (mkF m 221 #[.val (.int p0), .val (.int p1), .val (.int p2), .val (.int p3), .val (.int p4), .val (.int (2 : Int32)), .val (.int i260), .val (.int i261), .val (.int i262), .val (.int i263), .val (.int i264), .val (.int i265), .val (.int i266), .val (.ref b267), .val (.int i286), .val (.int i287), .val (.int i288), .unset] [])) rfl (hb hby at_221) _ ?_
        show Steps p.tables e below (T283.setTop (mkF m 223 #[.val (.int p0), .val (.int p1), .val (.int p2), .val (.int p3), .val (.int p4), .val (.int (2 : Int32)), .val (.int i260), .val (.int i261), .val (.int i262), .val (.int i263), .val (.int i264), .val (.int i265), .val (.int i266), .val (.ref b267), .val (.int i286), .val (.int i287), .val (.int i288), .unset] [(.int (923521 : Int32))])) _
        refine XS.sipush X283.here hx rfl (hb hby at_223) ?_
        show Steps p.tables e below (T283.setTop (mkF m 226 #[.val (.int p0), .val (.int p1), .val (.int p2), .val (.int p3), .val (.int p4), .val (.int (2 : Int32)), .val (.int i260), .val (.int i261), .val (.int i262), .val (.int i263), .val (.int i264), .val (.int i265), .val (.int i266), .val (.ref b267), .val (.int i286), .val (.int i287), .val (.int i288), .unset] [(.int (961 : Int32)), (.int (923521 : Int32))])) _
        refine XS.iload X283.here hx rfl (hb hby at_226) rfl ?_
        show Steps p.tables e below (T283.setTop (mkF m 228 #[.val (.int p0), .val (.int p1), .val (.int p2), .val (.int p3), .val (.int p4), .val (.int (2 : Int32)), .val (.int i260), .val (.int i261), .val (.int i262), .val (.int i263), .val (.int i264), .val (.int i265), .val (.int i266), .val (.ref b267), .val (.int i286), .val (.int i287), .val (.int i288), .unset] [(.int i286), (.int (961 : Int32)), (.int (923521 : Int32))])) _
        refine XS.imul X283.here hx rfl (hb hby at_228) rfl ?_
        show Steps p.tables e below (T283.setTop (mkF m 229 #[.val (.int p0), .val (.int p1), .val (.int p2), .val (.int p3), .val (.int p4), .val (.int (2 : Int32)), .val (.int i260), .val (.int i261), .val (.int i262), .val (.int i263), .val (.int i264), .val (.int i265), .val (.int i266), .val (.ref b267), .val (.int i286), .val (.int i287), .val (.int i288), .unset] [(.int ((961 : Int32) * i286)), (.int (923521 : Int32))])) _
        refine XS.iadd X283.here hx rfl (hb hby at_229) rfl ?_
        show Steps p.tables e below (T283.setTop (mkF m 230 #[.val (.int p0), .val (.int p1), .val (.int p2), .val (.int p3), .val (.int p4), .val (.int (2 : Int32)), .val (.int i260), .val (.int i261), .val (.int i262), .val (.int i263), .val (.int i264), .val (.int i265), .val (.int i266), .val (.ref b267), .val (.int i286), .val (.int i287), .val (.int i288), .unset] [(.int ((923521 : Int32) + ((961 : Int32) * i286)))])) _
        refine XS.iload X283.here hx rfl (hb hby at_230) rfl ?_
        show Steps p.tables e below (T283.setTop (mkF m 232 #[.val (.int p0), .val (.int p1), .val (.int p2), .val (.int p3), .val (.int p4), .val (.int (2 : Int32)), .val (.int i260), .val (.int i261), .val (.int i262), .val (.int i263), .val (.int i264), .val (.int i265), .val (.int i266), .val (.ref b267), .val (.int i286), .val (.int i287), .val (.int i288), .unset] [(.int i287), (.int ((923521 : Int32) + ((961 : Int32) * i286)))])) _
        refine XS.iadd X283.here hx rfl (hb hby at_232) rfl ?_
        rw [← hi289]
        show Steps p.tables e below (T283.setTop (mkF m 233 #[.val (.int p0), .val (.int p1), .val (.int p2), .val (.int p3), .val (.int p4), .val (.int (2 : Int32)), .val (.int i260), .val (.int i261), .val (.int i262), .val (.int i263), .val (.int i264), .val (.int i265), .val (.int i266), .val (.ref b267), .val (.int i286), .val (.int i287), .val (.int i288), .unset] [(.int i289)])) _
        refine XS.istore X283.here hx rfl (hb hby at_233) rfl (l' := #[.val (.int p0), .val (.int p1), .val (.int p2), .val (.int p3), .val (.int p4), .val (.int (2 : Int32)), .val (.int i260), .val (.int i261), .val (.int i262), .val (.int i263), .val (.int i264), .val (.int i265), .val (.int i266), .val (.ref b267), .val (.int i286), .val (.int i287), .val (.int i288), .val (.int i289)]) rfl ?_
        show Steps p.tables e below (T283.setTop (mkF m 235 #[.val (.int p0), .val (.int p1), .val (.int p2), .val (.int p3), .val (.int p4), .val (.int (2 : Int32)), .val (.int i260), .val (.int i261), .val (.int i262), .val (.int i263), .val (.int i264), .val (.int i265), .val (.int i266), .val (.ref b267), .val (.int i286), .val (.int i287), .val (.int i288), .val (.int i289)] [])) _
        refine XS.goto X283.here hx rfl (pc0 := 235) (pc' := 258) rfl (hb hby at_235) (by decide) (by decide) ?_
        show Steps p.tables e below (T283.setTop (mkF m 258 #[.val (.int p0), .val (.int p1), .val (.int p2), .val (.int p3), .val (.int p4), .val (.int (2 : Int32)), .val (.int i260), .val (.int i261), .val (.int i262), .val (.int i263), .val (.int i264), .val (.int i265), .val (.int i266), .val (.ref b267), .val (.int i286), .val (.int i287), .val (.int i288), .val (.int i289)] [])) _
        refine XS.aload X283.here hx rfl (hb hby at_258) rfl rfl ?_
        exact kt)
      rw [((by rw [f10]) : (f10 b267 b_vertices_268 k_vertices_268 i260 i261 (0 : Int32) b_states_268 k_states_268 (i263.toInt8.toInt32) (i264.toInt8.toInt32) (0 : Int32) wSUSCEPTIBLE wRECOVERED wINFECTED) = (((31 : Int32) * (((31 : Int32) * (((31 : Int32) * (((31 : Int32) * (1 : Int32)) + i260)) + (i263.toInt8.toInt32))) + i261)) + (i264.toInt8.toInt32)))] at hQ290
      obtain ⟨rfl, N290q, e290⟩ := hQ290
      have N290 := Fr.app N283 N290q
      obtain ⟨cq292, kq292, q292a, q292b, q292c⟩ := isOf hZ e290 E_b267_283
      obtain ⟨_, _, ⟨T292, L292, k292, n292⟩, -, X292, ⟨Lc292, hQ292, l292, y292, z292⟩, st292⟩ := X290.virtualBack hx (y := (⟨"com/example/rippletide/rippletide/model/StateChanges", "count", "()I"⟩ : MethodName)) (z := (⟨"com/example/rippletide/rippletide/model/StateChanges", "count", "()I"⟩ : MethodName)) hown (mvT hZ (hw _ (List.mem_of_getElem? (i := 43) rfl))) (mvT hZ (hw _ (List.mem_of_getElem? (i := 44) rfl))) (notFace_of_selects (args := #[]) (mvT hZ (hw _ (List.mem_of_getElem? (i := 46) rfl)))) (mvT hZ (hw _ (List.mem_of_getElem? (i := 46) rfl))) (mvT hZ (hw _ (List.mem_of_getElem? (i := 45) rfl))) (by decide) (backOf (W := 0) (rm12 l Z a0 hw [] b267 b_vertices_268 k_vertices_268 i260 i261 (0 : Int32) b_states_268 k_states_268 (i263.toInt8.toInt32) (i264.toInt8.toInt32) (0 : Int32) (2 : Int32) wSUSCEPTIBLE wRECOVERED wINFECTED h0 T283.heap n0 (Nat.le_trans Z0 KK283.1) W0 EX283 Zs ⟨E_b267_283, g_b267_283, G_b267_vertices_283, G_b267_states_283, G_b267_count_283, g_b267_vertices_283, ne_b267_vertices_283, V_b267_vertices_283, g_b267_states_283, ne_b267_states_283, V_b267_states_283, nn_b267_vertices_states_283, trivial⟩ ) hZ (hw _ (List.mem_of_getElem? (i := 47) rfl)) (hw _ (List.mem_of_getElem? (i := 2) rfl)) (by decide) (by decide)) q292a q292c (g := (mkF m 270 #[.val (.int p0), .val (.int p1), .val (.int p2), .val (.int p3), .val (.int p4), .val (.int (2 : Int32)), .val (.int i260), .val (.int i261), .val (.int i262), .val (.int i263), .val (.int i264), .val (.int i265), .val (.int i266), .val (.ref b267), .val (.int i286), .val (.int i287), .val (.int i288), .val (.int i289)] [(.ref b267)])) rfl (by rw [hml]; rfl) (Steps.refl _) (argsL := []) (rest := []) (lenOf pd_0 rfl) rfl (by show 2 * 0 + _ ≤ _; exact Nat.le_of_eq rfl) (hb hby at_270) (fun _ _ => ⟨rfl, e290, (by decide : 3 + 0 ≤ _), (by decide : 35 + 0 ≤ _)⟩)
      dsimp only [Pt.U, Pt.locs, Pt.cells, Pt.slots] at X292 l292 y292 z292 st292 hQ292
      subst l292 y292 z292
      unfold Q12 at hQ292
      have k293 : ∀ t, Steps p.tables e below (T290.setTop (mkF m 270 #[.val (.int p0), .val (.int p1), .val (.int p2), .val (.int p3), .val (.int p4), .val (.int (2 : Int32)), .val (.int i260), .val (.int i261), .val (.int i262), .val (.int i263), .val (.int i264), .val (.int i265), .val (.int i266), .val (.ref b267), .val (.int i286), .val (.int i287), .val (.int i288), .val (.int i289)] [(.ref b267)])) t → Steps p.tables e below (s₁.setTop (entryFrame m #[(.int p0), (.int p1), (.int p2), (.int p3), (.int p4)] maxLocals)) t := fun t kt => k291 t (by
        show Steps p.tables e below (T283.setTop (mkF m 260 #[.val (.int p0), .val (.int p1), .val (.int p2), .val (.int p3), .val (.int p4), .val (.int (2 : Int32)), .val (.int i260), .val (.int i261), .val (.int i262), .val (.int i263), .val (.int i264), .val (.int i265), .val (.int i266), .val (.ref b267), .val (.int i286), .val (.int i287), .val (.int i288), .val (.int i289)] [(.ref b267)])) _
        refine st290.trans ?_
        show Steps p.tables e below (T290.setTop (mkF m 263 #[.val (.int p0), .val (.int p1), .val (.int p2), .val (.int p3), .val (.int p4), .val (.int (2 : Int32)), .val (.int i260), .val (.int i261), .val (.int i262), .val (.int i263), .val (.int i264), .val (.int i265), .val (.int i266), .val (.ref b267), .val (.int i286), .val (.int i287), .val (.int i288), .val (.int i289)] [(.int (((31 : Int32) * (((31 : Int32) * (((31 : Int32) * (((31 : Int32) * (1 : Int32)) + i260)) + (i263.toInt8.toInt32))) + i261)) + (i264.toInt8.toInt32)))])) _
        refine XS.iload X290.here hx rfl (hb hby at_263) rfl ?_
        show Steps p.tables e below (T290.setTop (mkF m 265 #[.val (.int p0), .val (.int p1), .val (.int p2), .val (.int p3), .val (.int p4), .val (.int (2 : Int32)), .val (.int i260), .val (.int i261), .val (.int i262), .val (.int i263), .val (.int i264), .val (.int i265), .val (.int i266), .val (.ref b267), .val (.int i286), .val (.int i287), .val (.int i288), .val (.int i289)] [(.int i289), (.int (((31 : Int32) * (((31 : Int32) * (((31 : Int32) * (((31 : Int32) * (1 : Int32)) + i260)) + (i263.toInt8.toInt32))) + i261)) + (i264.toInt8.toInt32)))])) _
        refine XS.icmpNo X290.here hx rfl (hb hby at_265) rfl (teq ((by rw [hi289, hi286, hi287, own_byte hi263, own_byte hi264]; grind) : (((31 : Int32) * (((31 : Int32) * (((31 : Int32) * (((31 : Int32) * (1 : Int32)) + i260)) + (i263.toInt8.toInt32))) + i261)) + (i264.toInt8.toInt32)) = i289)).2 ?_
        show Steps p.tables e below (T290.setTop (mkF m 268 #[.val (.int p0), .val (.int p1), .val (.int p2), .val (.int p3), .val (.int p4), .val (.int (2 : Int32)), .val (.int i260), .val (.int i261), .val (.int i262), .val (.int i263), .val (.int i264), .val (.int i265), .val (.int i266), .val (.ref b267), .val (.int i286), .val (.int i287), .val (.int i288), .val (.int i289)] [])) _
        refine XS.aload X290.here hx rfl (hb hby at_268) rfl rfl ?_
        exact kt)
      rw [((by rw [f12]) : (f12 b267 b_vertices_268 k_vertices_268 i260 i261 (0 : Int32) b_states_268 k_states_268 (i263.toInt8.toInt32) (i264.toInt8.toInt32) (0 : Int32) (2 : Int32) wSUSCEPTIBLE wRECOVERED wINFECTED) = (2 : Int32))] at hQ292
      obtain ⟨rfl, N292q, e292⟩ := hQ292
      have N292 := Fr.app N290 N292q
      obtain ⟨fs, hr, hrun, hended, hW, hsame⟩ := X292.leave (v := some (.int (1 : Int32))) (fun h => by rw [Bd.returns] at h; cases h)
      refine ⟨_, _, k293 _ ?_, hrun, hended, _, _, rfl, ?_, ⟨_, rfl⟩, hW, hsame.mono (by decide) (by decide)⟩
      · show Steps p.tables e below (T290.setTop (mkF m 270 #[.val (.int p0), .val (.int p1), .val (.int p2), .val (.int p3), .val (.int p4), .val (.int (2 : Int32)), .val (.int i260), .val (.int i261), .val (.int i262), .val (.int i263), .val (.int i264), .val (.int i265), .val (.int i266), .val (.ref b267), .val (.int i286), .val (.int i287), .val (.int i288), .val (.int i289)] [(.ref b267)])) _
        refine st292.trans ?_
        show Steps p.tables e below (T292.setTop (mkF m 273 #[.val (.int p0), .val (.int p1), .val (.int p2), .val (.int p3), .val (.int p4), .val (.int (2 : Int32)), .val (.int i260), .val (.int i261), .val (.int i262), .val (.int i263), .val (.int i264), .val (.int i265), .val (.int i266), .val (.ref b267), .val (.int i286), .val (.int i287), .val (.int i288), .val (.int i289)] [(.int (2 : Int32))])) _
        refine XS.iload X292.here hx rfl (hb hby at_273) rfl ?_
        show Steps p.tables e below (T292.setTop (mkF m 275 #[.val (.int p0), .val (.int p1), .val (.int p2), .val (.int p3), .val (.int p4), .val (.int (2 : Int32)), .val (.int i260), .val (.int i261), .val (.int i262), .val (.int i263), .val (.int i264), .val (.int i265), .val (.int i266), .val (.ref b267), .val (.int i286), .val (.int i287), .val (.int i288), .val (.int i289)] [(.int (2 : Int32)), (.int (2 : Int32))])) _
        refine XS.icmpNo X292.here hx rfl (hb hby at_275) rfl (teq (rfl : (2 : Int32) = (2 : Int32))).2 ?_
        show Steps p.tables e below (T292.setTop (mkF m 278 #[.val (.int p0), .val (.int p1), .val (.int p2), .val (.int p3), .val (.int p4), .val (.int (2 : Int32)), .val (.int i260), .val (.int i261), .val (.int i262), .val (.int i263), .val (.int i264), .val (.int i265), .val (.int i266), .val (.ref b267), .val (.int i286), .val (.int i287), .val (.int i288), .val (.int i289)] [])) _
        refine XS.iconst X292.here hx rfl (hb hby at_278) ?_
        show Steps p.tables e below (T292.setTop (mkF m 279 #[.val (.int p0), .val (.int p1), .val (.int p2), .val (.int p3), .val (.int p4), .val (.int (2 : Int32)), .val (.int i260), .val (.int i261), .val (.int i262), .val (.int i263), .val (.int i264), .val (.int i265), .val (.int i266), .val (.ref b267), .val (.int i286), .val (.int i287), .val (.int i288), .val (.int i289)] [(.int (1 : Int32))])) _
        refine XS.goto X292.here hx rfl (pc0 := 279) (pc' := 283) rfl (hb hby at_279) (by decide) (by decide) ?_
        show Steps p.tables e below (T292.setTop (mkF m 283 #[.val (.int p0), .val (.int p1), .val (.int p2), .val (.int p3), .val (.int p4), .val (.int (2 : Int32)), .val (.int i260), .val (.int i261), .val (.int i262), .val (.int i263), .val (.int i264), .val (.int i265), .val (.int i266), .val (.ref b267), .val (.int i286), .val (.int i287), .val (.int i288), .val (.int i289)] [(.int (1 : Int32))])) _
        exact retN X292 hx (t := .boolean) Bd.returns (by simp) (hb hby at_283) hr
      · show Q0 Z p0 p1 p2 p3 p4 wSUSCEPTIBLE wRECOVERED wINFECTED h0 n0 _ T292.heap _
        rw [e292]
        exact ⟨rfl, N292⟩
    · obtain ⟨_, _, ⟨T294, L294, k294, n294⟩, -, X294, ⟨Lc294, hQ294, l294, y294, z294⟩, st294⟩ := Jvm.LawKit.callS X268 hx (y := (⟨"com/example/rippletide/rippletide/model/StateChangesHashCodePinLaw", "state", "(I)Lcom/example/rippletide/rippletide/model/State;"⟩ : MethodName)) hown (mvT hZ (hw _ (List.mem_of_getElem? (i := 15) rfl))) (mvT hZ (hw _ (List.mem_of_getElem? (i := 16) rfl))) (mvT hZ (hw _ (List.mem_of_getElem? (i := 17) rfl))) (mvT hZ (hw _ (List.mem_of_getElem? (i := 18) rfl))) (by decide) (backOf (W := 2) (rm1 l Z a0 hw [] i266 wSUSCEPTIBLE wRECOVERED wINFECTED T268.heap n0 (Nat.le_trans Z0 KK268.1) (W0.ext EX268) ) hZ (hw _ (List.mem_of_getElem? (i := 18) rfl)) (hw _ (List.mem_of_getElem? (i := 17) rfl)) (by decide) (by decide)) (g := (mkF m 92 #[.val (.int p0), .val (.int p1), .val (.int p2), .val (.int p3), .val (.int p4), .val (.int (2 : Int32)), .val (.int i260), .val (.int i261), .val (.int i262), .val (.int i263), .val (.int i264), .val (.int i265), .val (.int i266), .val (.ref b267), .unset, .unset, .unset, .unset] [(.int i266), (.int ((p4.toUInt32 >>> ((1 : Int32) &&& 31).toUInt32).toInt32)), (.ref b267)])) rfl (by rw [hml]; rfl) (argsL := [(.int i266)]) (rest := [(.int ((p4.toUInt32 >>> ((1 : Int32) &&& 31).toUInt32).toInt32)), (.ref b267)]) (lenOf pd_2 rfl) rfl (by show 2 * 0 + _ ≤ _; exact Nat.le_of_eq rfl) (hb hby at_92) (fun _ _ => ⟨rfl, rfl, (by decide : 3 + 0 ≤ _), (by decide : 35 + 0 ≤ _)⟩)
      dsimp only [Pt.U, Pt.locs, Pt.cells, Pt.slots] at X294 l294 y294 z294 st294 hQ294
      subst l294 y294 z294
      unfold Q1 at hQ294
      have k295 : ∀ t, Steps p.tables e below (T268.setTop (mkF m 92 #[.val (.int p0), .val (.int p1), .val (.int p2), .val (.int p3), .val (.int p4), .val (.int (2 : Int32)), .val (.int i260), .val (.int i261), .val (.int i262), .val (.int i263), .val (.int i264), .val (.int i265), .val (.int i266), .val (.ref b267), .unset, .unset, .unset, .unset] [(.int i266), (.int ((p4.toUInt32 >>> ((1 : Int32) &&& 31).toUInt32).toInt32)), (.ref b267)])) t → Steps p.tables e below (s₁.setTop (entryFrame m #[(.int p0), (.int p1), (.int p2), (.int p3), (.int p4)] maxLocals)) t := fun t kt => k272 t (by
        show Steps p.tables e below (T268.setTop (mkF m 81 #[.val (.int p0), .val (.int p1), .val (.int p2), .val (.int p3), .val (.int p4), .val (.int (2 : Int32)), .val (.int i260), .val (.int i261), .val (.int i262), .val (.int i263), .val (.int i264), .val (.int i265), .val (.int i266), .val (.ref b267), .unset, .unset, .unset, .unset] [(.int (p4 &&& (1 : Int32)))])) _
        refine XS.ifNo X268.here hx rfl (hb hby at_81) rfl ((if0 _ _).trans (feq (hc273 : ¬ ((p4 &&& (1 : Int32)) = (0 : Int32)))).1) ?_
        show Steps p.tables e below (T268.setTop (mkF m 84 #[.val (.int p0), .val (.int p1), .val (.int p2), .val (.int p3), .val (.int p4), .val (.int (2 : Int32)), .val (.int i260), .val (.int i261), .val (.int i262), .val (.int i263), .val (.int i264), .val (.int i265), .val (.int i266), .val (.ref b267), .unset, .unset, .unset, .unset] [])) _
        refine XS.aload X268.here hx rfl (hb hby at_84) rfl rfl ?_
        show Steps p.tables e below (T268.setTop (mkF m 86 #[.val (.int p0), .val (.int p1), .val (.int p2), .val (.int p3), .val (.int p4), .val (.int (2 : Int32)), .val (.int i260), .val (.int i261), .val (.int i262), .val (.int i263), .val (.int i264), .val (.int i265), .val (.int i266), .val (.ref b267), .unset, .unset, .unset, .unset] [(.ref b267)])) _
        refine XS.iload X268.here hx rfl (hb hby at_86) rfl ?_
        show Steps p.tables e below (T268.setTop (mkF m 88 #[.val (.int p0), .val (.int p1), .val (.int p2), .val (.int p3), .val (.int p4), .val (.int (2 : Int32)), .val (.int i260), .val (.int i261), .val (.int i262), .val (.int i263), .val (.int i264), .val (.int i265), .val (.int i266), .val (.ref b267), .unset, .unset, .unset, .unset] [(.int p4), (.ref b267)])) _
        refine XS.iconst X268.here hx rfl (hb hby at_88) ?_
        show Steps p.tables e below (T268.setTop (mkF m 89 #[.val (.int p0), .val (.int p1), .val (.int p2), .val (.int p3), .val (.int p4), .val (.int (2 : Int32)), .val (.int i260), .val (.int i261), .val (.int i262), .val (.int i263), .val (.int i264), .val (.int i265), .val (.int i266), .val (.ref b267), .unset, .unset, .unset, .unset] [(.int (1 : Int32)), (.int p4), (.ref b267)])) _
        refine XS.iushr X268.here hx rfl (hb hby at_89) rfl ?_
        show Steps p.tables e below (T268.setTop (mkF m 90 #[.val (.int p0), .val (.int p1), .val (.int p2), .val (.int p3), .val (.int p4), .val (.int (2 : Int32)), .val (.int i260), .val (.int i261), .val (.int i262), .val (.int i263), .val (.int i264), .val (.int i265), .val (.int i266), .val (.ref b267), .unset, .unset, .unset, .unset] [(.int ((p4.toUInt32 >>> ((1 : Int32) &&& 31).toUInt32).toInt32)), (.ref b267)])) _
        refine XS.iload X268.here hx rfl (hb hby at_90) rfl ?_
        exact kt)
      obtain ⟨r296, hr296⟩ : ∃ z, z = (f1 i266 wSUSCEPTIBLE wRECOVERED wINFECTED) := ⟨_, rfl⟩
      rw [← hr296] at hQ294
      obtain ⟨rfl, N294q, e294⟩ := hQ294
      have N294 := Fr.app N268 N294q
      have PFr296 := own_state W0 (own_cs3 hi266)
      rw [← hr296] at PFr296
      obtain ⟨E_r296, F_r296⟩ := PFr296
      obtain ⟨cq297, kq297, q297a, q297b, q297c⟩ := isOf hZ e294 E_b267_268
      obtain ⟨_, _, ⟨T297, L297, k297, n297⟩, -, X297, ⟨Lc297, hQ297, l297, y297, z297⟩, st297⟩ := X294.virtualBack hx (y := (⟨"com/example/rippletide/rippletide/model/StateChanges", "add", "(ILcom/example/rippletide/rippletide/model/State;)V"⟩ : MethodName)) (z := (⟨"com/example/rippletide/rippletide/model/StateChanges", "add", "(ILcom/example/rippletide/rippletide/model/State;)V"⟩ : MethodName)) hown (mvT hZ (hw _ (List.mem_of_getElem? (i := 22) rfl))) (mvT hZ (hw _ (List.mem_of_getElem? (i := 23) rfl))) (notFace_of_selects (args := #[]) (mvT hZ (hw _ (List.mem_of_getElem? (i := 25) rfl)))) (mvT hZ (hw _ (List.mem_of_getElem? (i := 25) rfl))) (mvT hZ (hw _ (List.mem_of_getElem? (i := 24) rfl))) (by decide) (backOf (W := 0) (rm4 l Z a0 hw [] b267 ((p4.toUInt32 >>> ((1 : Int32) &&& 31).toUInt32).toInt32) r296 b_vertices_268 k_vertices_268 (0 : Int32) (0 : Int32) (0 : Int32) b_states_268 k_states_268 (0 : Int32) (0 : Int32) (0 : Int32) i266 wSUSCEPTIBLE wRECOVERED wINFECTED h0 T268.heap n0 (Nat.le_trans Z0 KK268.1) W0 EX268 Zs ⟨E_b267_268, g_b267_268, G_b267_vertices_268, G_b267_states_268, G_b267_count_268, g_b267_vertices_268, ne_b267_vertices_268, V_b267_vertices_268, g_b267_states_268, ne_b267_states_268, V_b267_states_268, nn_b267_vertices_states_268, trivial⟩ F_r296 E_r296 (own_nn (n := 1) (by decide) (by decide) (by decide))) hZ (hw _ (List.mem_of_getElem? (i := 26) rfl)) (hw _ (List.mem_of_getElem? (i := 2) rfl)) (by decide) (by decide)) q297a q297c (g := (mkF m 95 #[.val (.int p0), .val (.int p1), .val (.int p2), .val (.int p3), .val (.int p4), .val (.int (2 : Int32)), .val (.int i260), .val (.int i261), .val (.int i262), .val (.int i263), .val (.int i264), .val (.int i265), .val (.int i266), .val (.ref b267), .unset, .unset, .unset, .unset] [(.ref r296), (.int ((p4.toUInt32 >>> ((1 : Int32) &&& 31).toUInt32).toInt32)), (.ref b267)])) rfl (by rw [hml]; rfl) (Steps.refl _) (argsL := [(.int ((p4.toUInt32 >>> ((1 : Int32) &&& 31).toUInt32).toInt32)), (.ref r296)]) (rest := []) (lenOf pd_3 rfl) rfl (by show 2 * 0 + _ ≤ _; exact Nat.le_of_eq rfl) (hb hby at_95) (fun _ _ => ⟨rfl, e294, (by decide : 3 + 0 ≤ _), (by decide : 35 + 0 ≤ _)⟩)
      dsimp only [Pt.U, Pt.locs, Pt.cells, Pt.slots] at X297 l297 y297 z297 st297 hQ297
      subst l297 y297 z297
      unfold Q4 at hQ297
      have k298 : ∀ t, Steps p.tables e below (T294.setTop (mkF m 95 #[.val (.int p0), .val (.int p1), .val (.int p2), .val (.int p3), .val (.int p4), .val (.int (2 : Int32)), .val (.int i260), .val (.int i261), .val (.int i262), .val (.int i263), .val (.int i264), .val (.int i265), .val (.int i266), .val (.ref b267), .unset, .unset, .unset, .unset] [(.ref r296), (.int ((p4.toUInt32 >>> ((1 : Int32) &&& 31).toUInt32).toInt32)), (.ref b267)])) t → Steps p.tables e below (s₁.setTop (entryFrame m #[(.int p0), (.int p1), (.int p2), (.int p3), (.int p4)] maxLocals)) t := fun t kt => k295 t (by
        show Steps p.tables e below (T268.setTop (mkF m 92 #[.val (.int p0), .val (.int p1), .val (.int p2), .val (.int p3), .val (.int p4), .val (.int (2 : Int32)), .val (.int i260), .val (.int i261), .val (.int i262), .val (.int i263), .val (.int i264), .val (.int i265), .val (.int i266), .val (.ref b267), .unset, .unset, .unset, .unset] [(.int i266), (.int ((p4.toUInt32 >>> ((1 : Int32) &&& 31).toUInt32).toInt32)), (.ref b267)])) _
        refine st294 _ ?_
        exact kt)
      obtain ⟨rfl, N297q, EXc297, Kc297, OB297_p0⟩ := hQ297
      have N297 := Fr.app N294 N297q
      have EX297 : Ext h0 T297.heap := EXc297
      have KK297 : Keep h0 T297.heap ([] : List Addr) := Keep.trans KK268 Kc297 (allS (Or.inr (Nat.le_trans Zs g_b267_vertices_268)) (allS (Or.inr (Nat.le_trans Zs g_b267_states_268)) (allS (Or.inr (Nat.le_trans Zs g_b267_268)) all0)))
      have OBx297_p0 : Obj Z T297.heap n0 b267 b_vertices_268 k_vertices_268 ((p4.toUInt32 >>> ((1 : Int32) &&& 31).toUInt32).toInt32) (0 : Int32) (0 : Int32) b_states_268 k_states_268 (i266.toInt8.toInt32) (0 : Int32) (0 : Int32) (1 : Int32) := OB297_p0
      obtain ⟨E_b267_297, g_b267_297, G_b267_vertices_297, G_b267_states_297, G_b267_count_297, g_b267_vertices_297, ne_b267_vertices_297, V_b267_vertices_297, g_b267_states_297, ne_b267_states_297, V_b267_states_297, nn_b267_vertices_states_297, -⟩ := OBx297_p0
      obtain ⟨cq300, kq300, q300a, q300b, q300c⟩ := isOf hZ rfl E_b267_297
      obtain ⟨_, _, ⟨T300, L300, k300, n300⟩, -, X300, ⟨Lc300, hQ300, l300, y300, z300⟩, st300⟩ := X297.virtualBack hx (y := (⟨"com/example/rippletide/rippletide/model/StateChanges", "clear", "()V"⟩ : MethodName)) (z := (⟨"com/example/rippletide/rippletide/model/StateChanges", "clear", "()V"⟩ : MethodName)) hown (mvT hZ (hw _ (List.mem_of_getElem? (i := 48) rfl))) (mvT hZ (hw _ (List.mem_of_getElem? (i := 49) rfl))) (notFace_of_selects (args := #[]) (mvT hZ (hw _ (List.mem_of_getElem? (i := 51) rfl)))) (mvT hZ (hw _ (List.mem_of_getElem? (i := 51) rfl))) (mvT hZ (hw _ (List.mem_of_getElem? (i := 50) rfl))) (by decide) (backOf (W := 0) (rm7 l Z a0 hw [] b267 b_vertices_268 k_vertices_268 ((p4.toUInt32 >>> ((1 : Int32) &&& 31).toUInt32).toInt32) (0 : Int32) (0 : Int32) b_states_268 k_states_268 (i266.toInt8.toInt32) (0 : Int32) (0 : Int32) (1 : Int32) wSUSCEPTIBLE wRECOVERED wINFECTED h0 T297.heap n0 (Nat.le_trans Z0 KK297.1) W0 EX297 Zs ⟨E_b267_297, g_b267_297, G_b267_vertices_297, G_b267_states_297, G_b267_count_297, g_b267_vertices_297, ne_b267_vertices_297, V_b267_vertices_297, g_b267_states_297, ne_b267_states_297, V_b267_states_297, nn_b267_vertices_states_297, trivial⟩ ) hZ (hw _ (List.mem_of_getElem? (i := 52) rfl)) (hw _ (List.mem_of_getElem? (i := 2) rfl)) (by decide) (by decide)) q300a q300c (g := (mkF m 100 #[.val (.int p0), .val (.int p1), .val (.int p2), .val (.int p3), .val (.int p4), .val (.int (2 : Int32)), .val (.int i260), .val (.int i261), .val (.int i262), .val (.int i263), .val (.int i264), .val (.int i265), .val (.int i266), .val (.ref b267), .unset, .unset, .unset, .unset] [(.ref b267)])) rfl (by rw [hml]; rfl) (Steps.refl _) (argsL := []) (rest := []) (lenOf pd_1 rfl) rfl (by show 2 * 0 + _ ≤ _; exact Nat.le_of_eq rfl) (hb hby at_100) (fun _ _ => ⟨rfl, rfl, (by decide : 3 + 0 ≤ _), (by decide : 35 + 0 ≤ _)⟩)
      dsimp only [Pt.U, Pt.locs, Pt.cells, Pt.slots] at X300 l300 y300 z300 st300 hQ300
      subst l300 y300 z300
      unfold Q7 at hQ300
      have k301 : ∀ t, Steps p.tables e below (T297.setTop (mkF m 100 #[.val (.int p0), .val (.int p1), .val (.int p2), .val (.int p3), .val (.int p4), .val (.int (2 : Int32)), .val (.int i260), .val (.int i261), .val (.int i262), .val (.int i263), .val (.int i264), .val (.int i265), .val (.int i266), .val (.ref b267), .unset, .unset, .unset, .unset] [(.ref b267)])) t → Steps p.tables e below (s₁.setTop (entryFrame m #[(.int p0), (.int p1), (.int p2), (.int p3), (.int p4)] maxLocals)) t := fun t kt => k298 t (by
        show Steps p.tables e below (T294.setTop (mkF m 95 #[.val (.int p0), .val (.int p1), .val (.int p2), .val (.int p3), .val (.int p4), .val (.int (2 : Int32)), .val (.int i260), .val (.int i261), .val (.int i262), .val (.int i263), .val (.int i264), .val (.int i265), .val (.int i266), .val (.ref b267), .unset, .unset, .unset, .unset] [(.ref r296), (.int ((p4.toUInt32 >>> ((1 : Int32) &&& 31).toUInt32).toInt32)), (.ref b267)])) _
        refine st297.trans ?_
        show Steps p.tables e below (T297.setTop (mkF m 98 #[.val (.int p0), .val (.int p1), .val (.int p2), .val (.int p3), .val (.int p4), .val (.int (2 : Int32)), .val (.int i260), .val (.int i261), .val (.int i262), .val (.int i263), .val (.int i264), .val (.int i265), .val (.int i266), .val (.ref b267), .unset, .unset, .unset, .unset] [])) _
        refine XS.aload X297.here hx rfl (hb hby at_98) rfl rfl ?_
        exact kt)
      obtain ⟨rfl, N300q, EXc300, Kc300, OB300_p0⟩ := hQ300
      have N300 := Fr.app N297 N300q
      have EX300 : Ext h0 T300.heap := EXc300
      have KK300 : Keep h0 T300.heap ([] : List Addr) := Keep.trans KK297 Kc300 (allS (Or.inr (Nat.le_trans Zs g_b267_297)) all0)
      have OBx300_p0 : Obj Z T300.heap n0 b267 b_vertices_268 k_vertices_268 ((p4.toUInt32 >>> ((1 : Int32) &&& 31).toUInt32).toInt32) (0 : Int32) (0 : Int32) b_states_268 k_states_268 (i266.toInt8.toInt32) (0 : Int32) (0 : Int32) (0 : Int32) := OB300_p0
      obtain ⟨E_b267_300, g_b267_300, G_b267_vertices_300, G_b267_states_300, G_b267_count_300, g_b267_vertices_300, ne_b267_vertices_300, V_b267_vertices_300, g_b267_states_300, ne_b267_states_300, V_b267_states_300, nn_b267_vertices_states_300, -⟩ := OBx300_p0
      obtain ⟨_, _, ⟨T303, L303, k303, n303⟩, -, X303, ⟨Lc303, hQ303, l303, y303, z303⟩, st303⟩ := Jvm.LawKit.callS X300 hx (y := (⟨"com/example/rippletide/rippletide/model/StateChangesHashCodePinLaw", "state", "(I)Lcom/example/rippletide/rippletide/model/State;"⟩ : MethodName)) hown (mvT hZ (hw _ (List.mem_of_getElem? (i := 15) rfl))) (mvT hZ (hw _ (List.mem_of_getElem? (i := 16) rfl))) (mvT hZ (hw _ (List.mem_of_getElem? (i := 17) rfl))) (mvT hZ (hw _ (List.mem_of_getElem? (i := 18) rfl))) (by decide) (backOf (W := 2) (rm1 l Z a0 hw [] i263 wSUSCEPTIBLE wRECOVERED wINFECTED T300.heap n0 (Nat.le_trans Z0 KK300.1) (W0.ext EX300) ) hZ (hw _ (List.mem_of_getElem? (i := 18) rfl)) (hw _ (List.mem_of_getElem? (i := 17) rfl)) (by decide) (by decide)) (g := (mkF m 115 #[.val (.int p0), .val (.int p1), .val (.int p2), .val (.int p3), .val (.int p4), .val (.int (2 : Int32)), .val (.int i260), .val (.int i261), .val (.int i262), .val (.int i263), .val (.int i264), .val (.int i265), .val (.int i266), .val (.ref b267), .unset, .unset, .unset, .unset] [(.int i263), (.int i260), (.ref b267)])) rfl (by rw [hml]; rfl) (argsL := [(.int i263)]) (rest := [(.int i260), (.ref b267)]) (lenOf pd_2 rfl) rfl (by show 2 * 0 + _ ≤ _; exact Nat.le_of_eq rfl) (hb hby at_115) (fun _ _ => ⟨rfl, rfl, (by decide : 3 + 0 ≤ _), (by decide : 35 + 0 ≤ _)⟩)
      dsimp only [Pt.U, Pt.locs, Pt.cells, Pt.slots] at X303 l303 y303 z303 st303 hQ303
      subst l303 y303 z303
      unfold Q1 at hQ303
      have k304 : ∀ t, Steps p.tables e below (T300.setTop (mkF m 115 #[.val (.int p0), .val (.int p1), .val (.int p2), .val (.int p3), .val (.int p4), .val (.int (2 : Int32)), .val (.int i260), .val (.int i261), .val (.int i262), .val (.int i263), .val (.int i264), .val (.int i265), .val (.int i266), .val (.ref b267), .unset, .unset, .unset, .unset] [(.int i263), (.int i260), (.ref b267)])) t → Steps p.tables e below (s₁.setTop (entryFrame m #[(.int p0), (.int p1), (.int p2), (.int p3), (.int p4)] maxLocals)) t := fun t kt => k301 t (by
        show Steps p.tables e below (T297.setTop (mkF m 100 #[.val (.int p0), .val (.int p1), .val (.int p2), .val (.int p3), .val (.int p4), .val (.int (2 : Int32)), .val (.int i260), .val (.int i261), .val (.int i262), .val (.int i263), .val (.int i264), .val (.int i265), .val (.int i266), .val (.ref b267), .unset, .unset, .unset, .unset] [(.ref b267)])) _
        refine st300.trans ?_
        show Steps p.tables e below (T300.setTop (mkF m 103 #[.val (.int p0), .val (.int p1), .val (.int p2), .val (.int p3), .val (.int p4), .val (.int (2 : Int32)), .val (.int i260), .val (.int i261), .val (.int i262), .val (.int i263), .val (.int i264), .val (.int i265), .val (.int i266), .val (.ref b267), .unset, .unset, .unset, .unset] [])) _
        refine XS.iload X300.here hx rfl (hb hby at_103) rfl ?_
        show Steps p.tables e below (T300.setTop (mkF m 105 #[.val (.int p0), .val (.int p1), .val (.int p2), .val (.int p3), .val (.int p4), .val (.int (2 : Int32)), .val (.int i260), .val (.int i261), .val (.int i262), .val (.int i263), .val (.int i264), .val (.int i265), .val (.int i266), .val (.ref b267), .unset, .unset, .unset, .unset] [(.int (2 : Int32))])) _
        refine XS.iconst X300.here hx rfl (hb hby at_105) ?_
        show Steps p.tables e below (T300.setTop (mkF m 106 #[.val (.int p0), .val (.int p1), .val (.int p2), .val (.int p3), .val (.int p4), .val (.int (2 : Int32)), .val (.int i260), .val (.int i261), .val (.int i262), .val (.int i263), .val (.int i264), .val (.int i265), .val (.int i266), .val (.ref b267), .unset, .unset, .unset, .unset] [(.int (1 : Int32)), (.int (2 : Int32))])) _
        refine XS.icmpNo X300.here hx rfl (hb hby at_106) rfl (flt ((by decide) : ¬ ((2 : Int32) < (1 : Int32)))).1 ?_
        show Steps p.tables e below (T300.setTop (mkF m 109 #[.val (.int p0), .val (.int p1), .val (.int p2), .val (.int p3), .val (.int p4), .val (.int (2 : Int32)), .val (.int i260), .val (.int i261), .val (.int i262), .val (.int i263), .val (.int i264), .val (.int i265), .val (.int i266), .val (.ref b267), .unset, .unset, .unset, .unset] [])) _
        refine XS.aload X300.here hx rfl (hb hby at_109) rfl rfl ?_
        show Steps p.tables e below (T300.setTop (mkF m 111 #[.val (.int p0), .val (.int p1), .val (.int p2), .val (.int p3), .val (.int p4), .val (.int (2 : Int32)), .val (.int i260), .val (.int i261), .val (.int i262), .val (.int i263), .val (.int i264), .val (.int i265), .val (.int i266), .val (.ref b267), .unset, .unset, .unset, .unset] [(.ref b267)])) _
        refine XS.iload X300.here hx rfl (hb hby at_111) rfl ?_
        show Steps p.tables e below (T300.setTop (mkF m 113 #[.val (.int p0), .val (.int p1), .val (.int p2), .val (.int p3), .val (.int p4), .val (.int (2 : Int32)), .val (.int i260), .val (.int i261), .val (.int i262), .val (.int i263), .val (.int i264), .val (.int i265), .val (.int i266), .val (.ref b267), .unset, .unset, .unset, .unset] [(.int i260), (.ref b267)])) _
        refine XS.iload X300.here hx rfl (hb hby at_113) rfl ?_
        exact kt)
      obtain ⟨r305, hr305⟩ : ∃ z, z = (f1 i263 wSUSCEPTIBLE wRECOVERED wINFECTED) := ⟨_, rfl⟩
      rw [← hr305] at hQ303
      obtain ⟨rfl, N303q, e303⟩ := hQ303
      have N303 := Fr.app N300 N303q
      have PFr305 := own_state W0 (own_cs3 hi263)
      rw [← hr305] at PFr305
      obtain ⟨E_r305, F_r305⟩ := PFr305
      obtain ⟨cq306, kq306, q306a, q306b, q306c⟩ := isOf hZ e303 E_b267_300
      obtain ⟨_, _, ⟨T306, L306, k306, n306⟩, -, X306, ⟨Lc306, hQ306, l306, y306, z306⟩, st306⟩ := X303.virtualBack hx (y := (⟨"com/example/rippletide/rippletide/model/StateChanges", "add", "(ILcom/example/rippletide/rippletide/model/State;)V"⟩ : MethodName)) (z := (⟨"com/example/rippletide/rippletide/model/StateChanges", "add", "(ILcom/example/rippletide/rippletide/model/State;)V"⟩ : MethodName)) hown (mvT hZ (hw _ (List.mem_of_getElem? (i := 22) rfl))) (mvT hZ (hw _ (List.mem_of_getElem? (i := 23) rfl))) (notFace_of_selects (args := #[]) (mvT hZ (hw _ (List.mem_of_getElem? (i := 25) rfl)))) (mvT hZ (hw _ (List.mem_of_getElem? (i := 25) rfl))) (mvT hZ (hw _ (List.mem_of_getElem? (i := 24) rfl))) (by decide) (backOf (W := 0) (rm4 l Z a0 hw [] b267 i260 r305 b_vertices_268 k_vertices_268 ((p4.toUInt32 >>> ((1 : Int32) &&& 31).toUInt32).toInt32) (0 : Int32) (0 : Int32) b_states_268 k_states_268 (i266.toInt8.toInt32) (0 : Int32) (0 : Int32) i263 wSUSCEPTIBLE wRECOVERED wINFECTED h0 T300.heap n0 (Nat.le_trans Z0 KK300.1) W0 EX300 Zs ⟨E_b267_300, g_b267_300, G_b267_vertices_300, G_b267_states_300, G_b267_count_300, g_b267_vertices_300, ne_b267_vertices_300, V_b267_vertices_300, g_b267_states_300, ne_b267_states_300, V_b267_states_300, nn_b267_vertices_states_300, trivial⟩ F_r305 E_r305 A1) hZ (hw _ (List.mem_of_getElem? (i := 26) rfl)) (hw _ (List.mem_of_getElem? (i := 2) rfl)) (by decide) (by decide)) q306a q306c (g := (mkF m 118 #[.val (.int p0), .val (.int p1), .val (.int p2), .val (.int p3), .val (.int p4), .val (.int (2 : Int32)), .val (.int i260), .val (.int i261), .val (.int i262), .val (.int i263), .val (.int i264), .val (.int i265), .val (.int i266), .val (.ref b267), .unset, .unset, .unset, .unset] [(.ref r305), (.int i260), (.ref b267)])) rfl (by rw [hml]; rfl) (Steps.refl _) (argsL := [(.int i260), (.ref r305)]) (rest := []) (lenOf pd_3 rfl) rfl (by show 2 * 0 + _ ≤ _; exact Nat.le_of_eq rfl) (hb hby at_118) (fun _ _ => ⟨rfl, e303, (by decide : 3 + 0 ≤ _), (by decide : 35 + 0 ≤ _)⟩)
      dsimp only [Pt.U, Pt.locs, Pt.cells, Pt.slots] at X306 l306 y306 z306 st306 hQ306
      subst l306 y306 z306
      unfold Q4 at hQ306
      have k307 : ∀ t, Steps p.tables e below (T303.setTop (mkF m 118 #[.val (.int p0), .val (.int p1), .val (.int p2), .val (.int p3), .val (.int p4), .val (.int (2 : Int32)), .val (.int i260), .val (.int i261), .val (.int i262), .val (.int i263), .val (.int i264), .val (.int i265), .val (.int i266), .val (.ref b267), .unset, .unset, .unset, .unset] [(.ref r305), (.int i260), (.ref b267)])) t → Steps p.tables e below (s₁.setTop (entryFrame m #[(.int p0), (.int p1), (.int p2), (.int p3), (.int p4)] maxLocals)) t := fun t kt => k304 t (by
        show Steps p.tables e below (T300.setTop (mkF m 115 #[.val (.int p0), .val (.int p1), .val (.int p2), .val (.int p3), .val (.int p4), .val (.int (2 : Int32)), .val (.int i260), .val (.int i261), .val (.int i262), .val (.int i263), .val (.int i264), .val (.int i265), .val (.int i266), .val (.ref b267), .unset, .unset, .unset, .unset] [(.int i263), (.int i260), (.ref b267)])) _
        refine st303 _ ?_
        exact kt)
      obtain ⟨rfl, N306q, EXc306, Kc306, OB306_p0⟩ := hQ306
      have N306 := Fr.app N303 N306q
      have EX306 : Ext h0 T306.heap := EXc306
      have KK306 : Keep h0 T306.heap ([] : List Addr) := Keep.trans KK300 Kc306 (allS (Or.inr (Nat.le_trans Zs g_b267_vertices_300)) (allS (Or.inr (Nat.le_trans Zs g_b267_states_300)) (allS (Or.inr (Nat.le_trans Zs g_b267_300)) all0)))
      have OBx306_p0 : Obj Z T306.heap n0 b267 b_vertices_268 k_vertices_268 i260 (0 : Int32) (0 : Int32) b_states_268 k_states_268 (i263.toInt8.toInt32) (0 : Int32) (0 : Int32) (1 : Int32) := OB306_p0
      obtain ⟨E_b267_306, g_b267_306, G_b267_vertices_306, G_b267_states_306, G_b267_count_306, g_b267_vertices_306, ne_b267_vertices_306, V_b267_vertices_306, g_b267_states_306, ne_b267_states_306, V_b267_states_306, nn_b267_vertices_states_306, -⟩ := OBx306_p0
      obtain ⟨_, _, ⟨T309, L309, k309, n309⟩, -, X309, ⟨Lc309, hQ309, l309, y309, z309⟩, st309⟩ := Jvm.LawKit.callS X306 hx (y := (⟨"com/example/rippletide/rippletide/model/StateChangesHashCodePinLaw", "state", "(I)Lcom/example/rippletide/rippletide/model/State;"⟩ : MethodName)) hown (mvT hZ (hw _ (List.mem_of_getElem? (i := 15) rfl))) (mvT hZ (hw _ (List.mem_of_getElem? (i := 16) rfl))) (mvT hZ (hw _ (List.mem_of_getElem? (i := 17) rfl))) (mvT hZ (hw _ (List.mem_of_getElem? (i := 18) rfl))) (by decide) (backOf (W := 2) (rm1 l Z a0 hw [] i264 wSUSCEPTIBLE wRECOVERED wINFECTED T306.heap n0 (Nat.le_trans Z0 KK306.1) (W0.ext EX306) ) hZ (hw _ (List.mem_of_getElem? (i := 18) rfl)) (hw _ (List.mem_of_getElem? (i := 17) rfl)) (by decide) (by decide)) (g := (mkF m 133 #[.val (.int p0), .val (.int p1), .val (.int p2), .val (.int p3), .val (.int p4), .val (.int (2 : Int32)), .val (.int i260), .val (.int i261), .val (.int i262), .val (.int i263), .val (.int i264), .val (.int i265), .val (.int i266), .val (.ref b267), .unset, .unset, .unset, .unset] [(.int i264), (.int i261), (.ref b267)])) rfl (by rw [hml]; rfl) (argsL := [(.int i264)]) (rest := [(.int i261), (.ref b267)]) (lenOf pd_2 rfl) rfl (by show 2 * 0 + _ ≤ _; exact Nat.le_of_eq rfl) (hb hby at_133) (fun _ _ => ⟨rfl, rfl, (by decide : 3 + 0 ≤ _), (by decide : 35 + 0 ≤ _)⟩)
      dsimp only [Pt.U, Pt.locs, Pt.cells, Pt.slots] at X309 l309 y309 z309 st309 hQ309
      subst l309 y309 z309
      unfold Q1 at hQ309
      have k310 : ∀ t, Steps p.tables e below (T306.setTop (mkF m 133 #[.val (.int p0), .val (.int p1), .val (.int p2), .val (.int p3), .val (.int p4), .val (.int (2 : Int32)), .val (.int i260), .val (.int i261), .val (.int i262), .val (.int i263), .val (.int i264), .val (.int i265), .val (.int i266), .val (.ref b267), .unset, .unset, .unset, .unset] [(.int i264), (.int i261), (.ref b267)])) t → Steps p.tables e below (s₁.setTop (entryFrame m #[(.int p0), (.int p1), (.int p2), (.int p3), (.int p4)] maxLocals)) t := fun t kt => k307 t (by
        show Steps p.tables e below (T303.setTop (mkF m 118 #[.val (.int p0), .val (.int p1), .val (.int p2), .val (.int p3), .val (.int p4), .val (.int (2 : Int32)), .val (.int i260), .val (.int i261), .val (.int i262), .val (.int i263), .val (.int i264), .val (.int i265), .val (.int i266), .val (.ref b267), .unset, .unset, .unset, .unset] [(.ref r305), (.int i260), (.ref b267)])) _
        refine st306.trans ?_
        show Steps p.tables e below (T306.setTop (mkF m 121 #[.val (.int p0), .val (.int p1), .val (.int p2), .val (.int p3), .val (.int p4), .val (.int (2 : Int32)), .val (.int i260), .val (.int i261), .val (.int i262), .val (.int i263), .val (.int i264), .val (.int i265), .val (.int i266), .val (.ref b267), .unset, .unset, .unset, .unset] [])) _
        refine XS.iload X306.here hx rfl (hb hby at_121) rfl ?_
        show Steps p.tables e below (T306.setTop (mkF m 123 #[.val (.int p0), .val (.int p1), .val (.int p2), .val (.int p3), .val (.int p4), .val (.int (2 : Int32)), .val (.int i260), .val (.int i261), .val (.int i262), .val (.int i263), .val (.int i264), .val (.int i265), .val (.int i266), .val (.ref b267), .unset, .unset, .unset, .unset] [(.int (2 : Int32))])) _
        refine XS.iconst X306.here hx rfl (hb hby at_123) ?_
        show Steps p.tables e below (T306.setTop (mkF m 124 #[.val (.int p0), .val (.int p1), .val (.int p2), .val (.int p3), .val (.int p4), .val (.int (2 : Int32)), .val (.int i260), .val (.int i261), .val (.int i262), .val (.int i263), .val (.int i264), .val (.int i265), .val (.int i266), .val (.ref b267), .unset, .unset, .unset, .unset] [(.int (2 : Int32)), (.int (2 : Int32))])) _
        refine XS.icmpNo X306.here hx rfl (hb hby at_124) rfl (flt ((by first | exact Int32.lt_irrefl _ | decide) : ¬ ((2 : Int32) < (2 : Int32)))).1 ?_
        show Steps p.tables e below (T306.setTop (mkF m 127 #[.val (.int p0), .val (.int p1), .val (.int p2), .val (.int p3), .val (.int p4), .val (.int (2 : Int32)), .val (.int i260), .val (.int i261), .val (.int i262), .val (.int i263), .val (.int i264), .val (.int i265), .val (.int i266), .val (.ref b267), .unset, .unset, .unset, .unset] [])) _
        refine XS.aload X306.here hx rfl (hb hby at_127) rfl rfl ?_
        show Steps p.tables e below (T306.setTop (mkF m 129 #[.val (.int p0), .val (.int p1), .val (.int p2), .val (.int p3), .val (.int p4), .val (.int (2 : Int32)), .val (.int i260), .val (.int i261), .val (.int i262), .val (.int i263), .val (.int i264), .val (.int i265), .val (.int i266), .val (.ref b267), .unset, .unset, .unset, .unset] [(.ref b267)])) _
        refine XS.iload X306.here hx rfl (hb hby at_129) rfl ?_
        show Steps p.tables e below (T306.setTop (mkF m 131 #[.val (.int p0), .val (.int p1), .val (.int p2), .val (.int p3), .val (.int p4), .val (.int (2 : Int32)), .val (.int i260), .val (.int i261), .val (.int i262), .val (.int i263), .val (.int i264), .val (.int i265), .val (.int i266), .val (.ref b267), .unset, .unset, .unset, .unset] [(.int i261), (.ref b267)])) _
        refine XS.iload X306.here hx rfl (hb hby at_131) rfl ?_
        exact kt)
      obtain ⟨r311, hr311⟩ : ∃ z, z = (f1 i264 wSUSCEPTIBLE wRECOVERED wINFECTED) := ⟨_, rfl⟩
      rw [← hr311] at hQ309
      obtain ⟨rfl, N309q, e309⟩ := hQ309
      have N309 := Fr.app N306 N309q
      have PFr311 := own_state W0 (own_cs3 hi264)
      rw [← hr311] at PFr311
      obtain ⟨E_r311, F_r311⟩ := PFr311
      obtain ⟨cq312, kq312, q312a, q312b, q312c⟩ := isOf hZ e309 E_b267_306
      obtain ⟨_, _, ⟨T312, L312, k312, n312⟩, -, X312, ⟨Lc312, hQ312, l312, y312, z312⟩, st312⟩ := X309.virtualBack hx (y := (⟨"com/example/rippletide/rippletide/model/StateChanges", "add", "(ILcom/example/rippletide/rippletide/model/State;)V"⟩ : MethodName)) (z := (⟨"com/example/rippletide/rippletide/model/StateChanges", "add", "(ILcom/example/rippletide/rippletide/model/State;)V"⟩ : MethodName)) hown (mvT hZ (hw _ (List.mem_of_getElem? (i := 22) rfl))) (mvT hZ (hw _ (List.mem_of_getElem? (i := 23) rfl))) (notFace_of_selects (args := #[]) (mvT hZ (hw _ (List.mem_of_getElem? (i := 25) rfl)))) (mvT hZ (hw _ (List.mem_of_getElem? (i := 25) rfl))) (mvT hZ (hw _ (List.mem_of_getElem? (i := 24) rfl))) (by decide) (backOf (W := 0) (rm5 l Z a0 hw [] b267 i261 r311 b_vertices_268 k_vertices_268 i260 (0 : Int32) (0 : Int32) b_states_268 k_states_268 (i263.toInt8.toInt32) (0 : Int32) (0 : Int32) i264 wSUSCEPTIBLE wRECOVERED wINFECTED h0 T306.heap n0 (Nat.le_trans Z0 KK306.1) W0 EX306 Zs ⟨E_b267_306, g_b267_306, G_b267_vertices_306, G_b267_states_306, G_b267_count_306, g_b267_vertices_306, ne_b267_vertices_306, V_b267_vertices_306, g_b267_states_306, ne_b267_states_306, V_b267_states_306, nn_b267_vertices_states_306, trivial⟩ F_r311 E_r311 A3 A2) hZ (hw _ (List.mem_of_getElem? (i := 26) rfl)) (hw _ (List.mem_of_getElem? (i := 2) rfl)) (by decide) (by decide)) q312a q312c (g := (mkF m 136 #[.val (.int p0), .val (.int p1), .val (.int p2), .val (.int p3), .val (.int p4), .val (.int (2 : Int32)), .val (.int i260), .val (.int i261), .val (.int i262), .val (.int i263), .val (.int i264), .val (.int i265), .val (.int i266), .val (.ref b267), .unset, .unset, .unset, .unset] [(.ref r311), (.int i261), (.ref b267)])) rfl (by rw [hml]; rfl) (Steps.refl _) (argsL := [(.int i261), (.ref r311)]) (rest := []) (lenOf pd_3 rfl) rfl (by show 2 * 0 + _ ≤ _; exact Nat.le_of_eq rfl) (hb hby at_136) (fun _ _ => ⟨rfl, e309, (by decide : 3 + 0 ≤ _), (by decide : 35 + 0 ≤ _)⟩)
      dsimp only [Pt.U, Pt.locs, Pt.cells, Pt.slots] at X312 l312 y312 z312 st312 hQ312
      subst l312 y312 z312
      unfold Q5 at hQ312
      have k313 : ∀ t, Steps p.tables e below (T309.setTop (mkF m 136 #[.val (.int p0), .val (.int p1), .val (.int p2), .val (.int p3), .val (.int p4), .val (.int (2 : Int32)), .val (.int i260), .val (.int i261), .val (.int i262), .val (.int i263), .val (.int i264), .val (.int i265), .val (.int i266), .val (.ref b267), .unset, .unset, .unset, .unset] [(.ref r311), (.int i261), (.ref b267)])) t → Steps p.tables e below (s₁.setTop (entryFrame m #[(.int p0), (.int p1), (.int p2), (.int p3), (.int p4)] maxLocals)) t := fun t kt => k310 t (by
        show Steps p.tables e below (T306.setTop (mkF m 133 #[.val (.int p0), .val (.int p1), .val (.int p2), .val (.int p3), .val (.int p4), .val (.int (2 : Int32)), .val (.int i260), .val (.int i261), .val (.int i262), .val (.int i263), .val (.int i264), .val (.int i265), .val (.int i266), .val (.ref b267), .unset, .unset, .unset, .unset] [(.int i264), (.int i261), (.ref b267)])) _
        refine st309 _ ?_
        exact kt)
      obtain ⟨rfl, N312q, EXc312, Kc312, OB312_p0⟩ := hQ312
      have N312 := Fr.app N309 N312q
      have EX312 : Ext h0 T312.heap := EXc312
      have KK312 : Keep h0 T312.heap ([] : List Addr) := Keep.trans KK306 Kc312 (allS (Or.inr (Nat.le_trans Zs g_b267_vertices_306)) (allS (Or.inr (Nat.le_trans Zs g_b267_states_306)) (allS (Or.inr (Nat.le_trans Zs g_b267_306)) all0)))
      have OBx312_p0 : Obj Z T312.heap n0 b267 b_vertices_268 k_vertices_268 i260 i261 (0 : Int32) b_states_268 k_states_268 (i263.toInt8.toInt32) (i264.toInt8.toInt32) (0 : Int32) (2 : Int32) := OB312_p0
      obtain ⟨E_b267_312, g_b267_312, G_b267_vertices_312, G_b267_states_312, G_b267_count_312, g_b267_vertices_312, ne_b267_vertices_312, V_b267_vertices_312, g_b267_states_312, ne_b267_states_312, V_b267_states_312, nn_b267_vertices_states_312, -⟩ := OBx312_p0
      obtain ⟨i315, hi315⟩ : ∃ z, z = (((31 : Int32) * i260) + i263) := ⟨_, rfl⟩
      obtain ⟨i316, hi316⟩ : ∃ z, z = (((31 : Int32) * i261) + i264) := ⟨_, rfl⟩
      obtain ⟨i317, hi317⟩ : ∃ z, z = (((31 : Int32) * i262) + i265) := ⟨_, rfl⟩
      obtain ⟨i318, hi318⟩ : ∃ z, z = (((923521 : Int32) + ((961 : Int32) * i315)) + i316) := ⟨_, rfl⟩
      obtain ⟨cq319, kq319, q319a, q319b, q319c⟩ := isOf hZ rfl E_b267_312
      obtain ⟨_, _, ⟨T319, L319, k319, n319⟩, -, X319, ⟨Lc319, hQ319, l319, y319, z319⟩, st319⟩ := X312.virtualBack hx (y := (⟨"com/example/rippletide/rippletide/model/StateChanges", "hashCode", "()I"⟩ : MethodName)) (z := (⟨"com/example/rippletide/rippletide/model/StateChanges", "hashCode", "()I"⟩ : MethodName)) hown (mvT hZ (hw _ (List.mem_of_getElem? (i := 38) rfl))) (mvT hZ (hw _ (List.mem_of_getElem? (i := 39) rfl))) (notFace_of_selects (args := #[]) (mvT hZ (hw _ (List.mem_of_getElem? (i := 41) rfl)))) (mvT hZ (hw _ (List.mem_of_getElem? (i := 41) rfl))) (mvT hZ (hw _ (List.mem_of_getElem? (i := 40) rfl))) (by decide) (backOf (W := 0) (rm10 l Z a0 hw [] b267 b_vertices_268 k_vertices_268 i260 i261 (0 : Int32) b_states_268 k_states_268 (i263.toInt8.toInt32) (i264.toInt8.toInt32) (0 : Int32) wSUSCEPTIBLE wRECOVERED wINFECTED h0 T312.heap n0 (Nat.le_trans Z0 KK312.1) W0 EX312 Zs ⟨E_b267_312, g_b267_312, G_b267_vertices_312, G_b267_states_312, G_b267_count_312, g_b267_vertices_312, ne_b267_vertices_312, V_b267_vertices_312, g_b267_states_312, ne_b267_states_312, V_b267_states_312, nn_b267_vertices_states_312, trivial⟩ ) hZ (hw _ (List.mem_of_getElem? (i := 42) rfl)) (hw _ (List.mem_of_getElem? (i := 2) rfl)) (by decide) (by decide)) q319a q319c (g := (mkF m 260 #[.val (.int p0), .val (.int p1), .val (.int p2), .val (.int p3), .val (.int p4), .val (.int (2 : Int32)), .val (.int i260), .val (.int i261), .val (.int i262), .val (.int i263), .val (.int i264), .val (.int i265), .val (.int i266), .val (.ref b267), .val (.int i315), .val (.int i316), .val (.int i317), .val (.int i318)] [(.ref b267)])) rfl (by rw [hml]; rfl) (Steps.refl _) (argsL := []) (rest := []) (lenOf pd_0 rfl) rfl (by show 2 * 0 + _ ≤ _; exact Nat.le_of_eq rfl) (hb hby at_260) (fun _ _ => ⟨rfl, rfl, (by decide : 3 + 0 ≤ _), (by decide : 35 + 0 ≤ _)⟩)
      dsimp only [Pt.U, Pt.locs, Pt.cells, Pt.slots] at X319 l319 y319 z319 st319 hQ319
      subst l319 y319 z319
      unfold Q10 at hQ319
      have k320 : ∀ t, Steps p.tables e below (T312.setTop (mkF m 260 #[.val (.int p0), .val (.int p1), .val (.int p2), .val (.int p3), .val (.int p4), .val (.int (2 : Int32)), .val (.int i260), .val (.int i261), .val (.int i262), .val (.int i263), .val (.int i264), .val (.int i265), .val (.int i266), .val (.ref b267), .val (.int i315), .val (.int i316), .val (.int i317), .val (.int i318)] [(.ref b267)])) t → Steps p.tables e below (s₁.setTop (entryFrame m #[(.int p0), (.int p1), (.int p2), (.int p3), (.int p4)] maxLocals)) t := fun t kt => k313 t (by
        show Steps p.tables e below (T309.setTop (mkF m 136 #[.val (.int p0), .val (.int p1), .val (.int p2), .val (.int p3), .val (.int p4), .val (.int (2 : Int32)), .val (.int i260), .val (.int i261), .val (.int i262), .val (.int i263), .val (.int i264), .val (.int i265), .val (.int i266), .val (.ref b267), .unset, .unset, .unset, .unset] [(.ref r311), (.int i261), (.ref b267)])) _
        refine st312.trans ?_
        show Steps p.tables e below (T312.setTop (mkF m 139 #[.val (.int p0), .val (.int p1), .val (.int p2), .val (.int p3), .val (.int p4), .val (.int (2 : Int32)), .val (.int i260), .val (.int i261), .val (.int i262), .val (.int i263), .val (.int i264), .val (.int i265), .val (.int i266), .val (.ref b267), .unset, .unset, .unset, .unset] [])) _
        refine XS.iload X312.here hx rfl (hb hby at_139) rfl ?_
        show Steps p.tables e below (T312.setTop (mkF m 141 #[.val (.int p0), .val (.int p1), .val (.int p2), .val (.int p3), .val (.int p4), .val (.int (2 : Int32)), .val (.int i260), .val (.int i261), .val (.int i262), .val (.int i263), .val (.int i264), .val (.int i265), .val (.int i266), .val (.ref b267), .unset, .unset, .unset, .unset] [(.int (2 : Int32))])) _
        refine XS.iconst X312.here hx rfl (hb hby at_141) ?_
        show Steps p.tables e below (T312.setTop (mkF m 142 #[.val (.int p0), .val (.int p1), .val (.int p2), .val (.int p3), .val (.int p4), .val (.int (2 : Int32)), .val (.int i260), .val (.int i261), .val (.int i262), .val (.int i263), .val (.int i264), .val (.int i265), .val (.int i266), .val (.ref b267), .unset, .unset, .unset, .unset] [(.int (3 : Int32)), (.int (2 : Int32))])) _
        refine XS.icmpYes X312.here hx rfl (pc0 := 142) (pc' := 157) rfl (hb hby at_142) rfl (tlt ((by decide) : (2 : Int32) < (3 : Int32))).1 (by decide) (by decide) ?_
        show Steps p.tables e below (T312.setTop (mkF m 157 #[.val (.int p0), .val (.int p1), .val (.int p2), .val (.int p3), .val (.int p4), .val (.int (2 : Int32)), .val (.int i260), .val (.int i261), .val (.int i262), .val (.int i263), .val (.int i264), .val (.int i265), .val (.int i266), .val (.ref b267), .unset, .unset, .unset, .unset] [])) _
        refine XS.bipush X312.here hx rfl (hb hby at_157) ?_
        show Steps p.tables e below (T312.setTop (mkF m 159 #[.val (.int p0), .val (.int p1), .val (.int p2), .val (.int p3), .val (.int p4), .val (.int (2 : Int32)), .val (.int i260), .val (.int i261), .val (.int i262), .val (.int i263), .val (.int i264), .val (.int i265), .val (.int i266), .val (.ref b267), .unset, .unset, .unset, .unset] [(.int (31 : Int32))])) _
        refine XS.iload X312.here hx rfl (hb hby at_159) rfl ?_
        show Steps p.tables e below (T312.setTop (mkF m 161 #[.val (.int p0), .val (.int p1), .val (.int p2), .val (.int p3), .val (.int p4), .val (.int (2 : Int32)), .val (.int i260), .val (.int i261), .val (.int i262), .val (.int i263), .val (.int i264), .val (.int i265), .val (.int i266), .val (.ref b267), .unset, .unset, .unset, .unset] [(.int i260), (.int (31 : Int32))])) _
        refine XS.imul X312.here hx rfl (hb hby at_161) rfl ?_
        show Steps p.tables e below (T312.setTop (mkF m 162 #[.val (.int p0), .val (.int p1), .val (.int p2), .val (.int p3), .val (.int p4), .val (.int (2 : Int32)), .val (.int i260), .val (.int i261), .val (.int i262), .val (.int i263), .val (.int i264), .val (.int i265), .val (.int i266), .val (.ref b267), .unset, .unset, .unset, .unset] [(.int ((31 : Int32) * i260))])) _
        refine XS.iload X312.here hx rfl (hb hby at_162) rfl ?_
        show Steps p.tables e below (T312.setTop (mkF m 164 #[.val (.int p0), .val (.int p1), .val (.int p2), .val (.int p3), .val (.int p4), .val (.int (2 : Int32)), .val (.int i260), .val (.int i261), .val (.int i262), .val (.int i263), .val (.int i264), .val (.int i265), .val (.int i266), .val (.ref b267), .unset, .unset, .unset, .unset] [(.int i263), (.int ((31 : Int32) * i260))])) _
        refine XS.iadd X312.here hx rfl (hb hby at_164) rfl ?_
        rw [← hi315]
        show Steps p.tables e below (T312.setTop (mkF m 165 #[.val (.int p0), .val (.int p1), .val (.int p2), .val (.int p3), .val (.int p4), .val (.int (2 : Int32)), .val (.int i260), .val (.int i261), .val (.int i262), .val (.int i263), .val (.int i264), .val (.int i265), .val (.int i266), .val (.ref b267), .unset, .unset, .unset, .unset] [(.int i315)])) _
        refine XS.istore X312.here hx rfl (hb hby at_165) rfl (l' := #[.val (.int p0), .val (.int p1), .val (.int p2), .val (.int p3), .val (.int p4), .val (.int (2 : Int32)), .val (.int i260), .val (.int i261), .val (.int i262), .val (.int i263), .val (.int i264), .val (.int i265), .val (.int i266), .val (.ref b267), .val (.int i315), .unset, .unset, .unset]) rfl ?_
        show Steps p.tables e below (T312.setTop (mkF m 167 #[.val (.int p0), .val (.int p1), .val (.int p2), .val (.int p3), .val (.int p4), .val (.int (2 : Int32)), .val (.int i260), .val (.int i261), .val (.int i262), .val (.int i263), .val (.int i264), .val (.int i265), .val (.int i266), .val (.ref b267), .val (.int i315), .unset, .unset, .unset] [])) _
        refine XS.bipush X312.here hx rfl (hb hby at_167) ?_
        show Steps p.tables e below (T312.setTop (mkF m 169 #[.val (.int p0), .val (.int p1), .val (.int p2), .val (.int p3), .val (.int p4), .val (.int (2 : Int32)), .val (.int i260), .val (.int i261), .val (.int i262), .val (.int i263), .val (.int i264), .val (.int i265), .val (.int i266), .val (.ref b267), .val (.int i315), .unset, .unset, .unset] [(.int (31 : Int32))])) _
        refine XS.iload X312.here hx rfl (hb hby at_169) rfl ?_
        show Steps p.tables e below (T312.setTop (mkF m 171 #[.val (.int p0), .val (.int p1), .val (.int p2), .val (.int p3), .val (.int p4), .val (.int (2 : Int32)), .val (.int i260), .val (.int i261), .val (.int i262), .val (.int i263), .val (.int i264), .val (.int i265), .val (.int i266), .val (.ref b267), .val (.int i315), .unset, .unset, .unset] [(.int i261), (.int (31 : Int32))])) _
        refine XS.imul X312.here hx rfl (hb hby at_171) rfl ?_
        show Steps p.tables e below (T312.setTop (mkF m 172 #[.val (.int p0), .val (.int p1), .val (.int p2), .val (.int p3), .val (.int p4), .val (.int (2 : Int32)), .val (.int i260), .val (.int i261), .val (.int i262), .val (.int i263), .val (.int i264), .val (.int i265), .val (.int i266), .val (.ref b267), .val (.int i315), .unset, .unset, .unset] [(.int ((31 : Int32) * i261))])) _
        refine XS.iload X312.here hx rfl (hb hby at_172) rfl ?_
        show Steps p.tables e below (T312.setTop (mkF m 174 #[.val (.int p0), .val (.int p1), .val (.int p2), .val (.int p3), .val (.int p4), .val (.int (2 : Int32)), .val (.int i260), .val (.int i261), .val (.int i262), .val (.int i263), .val (.int i264), .val (.int i265), .val (.int i266), .val (.ref b267), .val (.int i315), .unset, .unset, .unset] [(.int i264), (.int ((31 : Int32) * i261))])) _
        refine XS.iadd X312.here hx rfl (hb hby at_174) rfl ?_
        rw [← hi316]
        show Steps p.tables e below (T312.setTop (mkF m 175 #[.val (.int p0), .val (.int p1), .val (.int p2), .val (.int p3), .val (.int p4), .val (.int (2 : Int32)), .val (.int i260), .val (.int i261), .val (.int i262), .val (.int i263), .val (.int i264), .val (.int i265), .val (.int i266), .val (.ref b267), .val (.int i315), .unset, .unset, .unset] [(.int i316)])) _
        refine XS.istore X312.here hx rfl (hb hby at_175) rfl (l' := #[.val (.int p0), .val (.int p1), .val (.int p2), .val (.int p3), .val (.int p4), .val (.int (2 : Int32)), .val (.int i260), .val (.int i261), .val (.int i262), .val (.int i263), .val (.int i264), .val (.int i265), .val (.int i266), .val (.ref b267), .val (.int i315), .val (.int i316), .unset, .unset]) rfl ?_
        show Steps p.tables e below (T312.setTop (mkF m 177 #[.val (.int p0), .val (.int p1), .val (.int p2), .val (.int p3), .val (.int p4), .val (.int (2 : Int32)), .val (.int i260), .val (.int i261), .val (.int i262), .val (.int i263), .val (.int i264), .val (.int i265), .val (.int i266), .val (.ref b267), .val (.int i315), .val (.int i316), .unset, .unset] [])) _
        refine XS.bipush X312.here hx rfl (hb hby at_177) ?_
        show Steps p.tables e below (T312.setTop (mkF m 179 #[.val (.int p0), .val (.int p1), .val (.int p2), .val (.int p3), .val (.int p4), .val (.int (2 : Int32)), .val (.int i260), .val (.int i261), .val (.int i262), .val (.int i263), .val (.int i264), .val (.int i265), .val (.int i266), .val (.ref b267), .val (.int i315), .val (.int i316), .unset, .unset] [(.int (31 : Int32))])) _
        refine XS.iload X312.here hx rfl (hb hby at_179) rfl ?_
        show Steps p.tables e below (T312.setTop (mkF m 181 #[.val (.int p0), .val (.int p1), .val (.int p2), .val (.int p3), .val (.int p4), .val (.int (2 : Int32)), .val (.int i260), .val (.int i261), .val (.int i262), .val (.int i263), .val (.int i264), .val (.int i265), .val (.int i266), .val (.ref b267), .val (.int i315), .val (.int i316), .unset, .unset] [(.int i262), (.int (31 : Int32))])) _
        refine XS.imul X312.here hx rfl (hb hby at_181) rfl ?_
        show Steps p.tables e below (T312.setTop (mkF m 182 #[.val (.int p0), .val (.int p1), .val (.int p2), .val (.int p3), .val (.int p4), .val (.int (2 : Int32)), .val (.int i260), .val (.int i261), .val (.int i262), .val (.int i263), .val (.int i264), .val (.int i265), .val (.int i266), .val (.ref b267), .val (.int i315), .val (.int i316), .unset, .unset] [(.int ((31 : Int32) * i262))])) _
        refine XS.iload X312.here hx rfl (hb hby at_182) rfl ?_
        show Steps p.tables e below (T312.setTop (mkF m 184 #[.val (.int p0), .val (.int p1), .val (.int p2), .val (.int p3), .val (.int p4), .val (.int (2 : Int32)), .val (.int i260), .val (.int i261), .val (.int i262), .val (.int i263), .val (.int i264), .val (.int i265), .val (.int i266), .val (.ref b267), .val (.int i315), .val (.int i316), .unset, .unset] [(.int i265), (.int ((31 : Int32) * i262))])) _
        refine XS.iadd X312.here hx rfl (hb hby at_184) rfl ?_
        rw [← hi317]
        show Steps p.tables e below (T312.setTop (mkF m 185 #[.val (.int p0), .val (.int p1), .val (.int p2), .val (.int p3), .val (.int p4), .val (.int (2 : Int32)), .val (.int i260), .val (.int i261), .val (.int i262), .val (.int i263), .val (.int i264), .val (.int i265), .val (.int i266), .val (.ref b267), .val (.int i315), .val (.int i316), .unset, .unset] [(.int i317)])) _
        refine XS.istore X312.here hx rfl (hb hby at_185) rfl (l' := #[.val (.int p0), .val (.int p1), .val (.int p2), .val (.int p3), .val (.int p4), .val (.int (2 : Int32)), .val (.int i260), .val (.int i261), .val (.int i262), .val (.int i263), .val (.int i264), .val (.int i265), .val (.int i266), .val (.ref b267), .val (.int i315), .val (.int i316), .val (.int i317), .unset]) rfl ?_
        show Steps p.tables e below (T312.setTop (mkF m 187 #[.val (.int p0), .val (.int p1), .val (.int p2), .val (.int p3), .val (.int p4), .val (.int (2 : Int32)), .val (.int i260), .val (.int i261), .val (.int i262), .val (.int i263), .val (.int i264), .val (.int i265), .val (.int i266), .val (.ref b267), .val (.int i315), .val (.int i316), .val (.int i317), .unset] [])) _
        refine XS.iload X312.here hx rfl (hb hby at_187) rfl ?_
        show Steps p.tables e below (T312.setTop (mkF m 189 #[.val (.int p0), .val (.int p1), .val (.int p2), .val (.int p3), .val (.int p4), .val (.int (2 : Int32)), .val (.int i260), .val (.int i261), .val (.int i262), .val (.int i263), .val (.int i264), .val (.int i265), .val (.int i266), .val (.ref b267), .val (.int i315), .val (.int i316), .val (.int i317), .unset] [(.int (2 : Int32))])) _
        refine XS.ifYes X312.here hx rfl (pc0 := 189) (pc' := 198) rfl (hb hby at_189) rfl ((if0 _ _).trans (feq ((by decide) : ¬ ((2 : Int32) = (0 : Int32)))).2) (by decide) (by decide) ?_
        show Steps p.tables e below (T312.setTop (mkF m 198 #[.val (.int p0), .val (.int p1), .val (.int p2), .val (.int p3), .val (.int p4), .val (.int (2 : Int32)), .val (.int i260), .val (.int i261), .val (.int i262), .val (.int i263), .val (.int i264), .val (.int i265), .val (.int i266), .val (.ref b267), .val (.int i315), .val (.int i316), .val (.int i317), .unset] [])) _
        refine XS.iload X312.here hx rfl (hb hby at_198) rfl ?_
        show Steps p.tables e below (T312.setTop (mkF m 200 #[.val (.int p0), .val (.int p1), .val (.int p2), .val (.int p3), .val (.int p4), .val (.int (2 : Int32)), .val (.int i260), .val (.int i261), .val (.int i262), .val (.int i263), .val (.int i264), .val (.int i265), .val (.int i266), .val (.ref b267), .val (.int i315), .val (.int i316), .val (.int i317), .unset] [(.int (2 : Int32))])) _
        refine XS.iconst X312.here hx rfl (hb hby at_200) ?_
        show Steps p.tables e below (T312.setTop (mkF m 201 #[.val (.int p0), .val (.int p1), .val (.int p2), .val (.int p3), .val (.int p4), .val (.int (2 : Int32)), .val (.int i260), .val (.int i261), .val (.int i262), .val (.int i263), .val (.int i264), .val (.int i265), .val (.int i266), .val (.ref b267), .val (.int i315), .val (.int i316), .val (.int i317), .unset] [(.int (1 : Int32)), (.int (2 : Int32))])) _
        refine XS.icmpYes X312.here hx rfl (pc0 := 201) (pc' := 215) rfl (hb hby at_201) rfl (feq ((by decide) : ¬ ((2 : Int32) = (1 : Int32)))).2 (by decide) (by decide) ?_
        show Steps p.tables e below (T312.setTop (mkF m 215 #[.val (.int p0), .val (.int p1), .val (.int p2), .val (.int p3), .val (.int p4), .val (.int (2 : Int32)), .val (.int i260), .val (.int i261), .val (.int i262), .val (.int i263), .val (.int i264), .val (.int i265), .val (.int i266), .val (.ref b267), .val (.int i315), .val (.int i316), .val (.int i317), .unset] [])) _
        refine XS.iload X312.here hx rfl (hb hby at_215) rfl ?_
        show Steps p.tables e below (T312.setTop (mkF m 217 #[.val (.int p0), .val (.int p1), .val (.int p2), .val (.int p3), .val (.int p4), .val (.int (2 : Int32)), .val (.int i260), .val (.int i261), .val (.int i262), .val (.int i263), .val (.int i264), .val (.int i265), .val (.int i266), .val (.ref b267), .val (.int i315), .val (.int i316), .val (.int i317), .unset] [(.int (2 : Int32))])) _
        refine XS.iconst X312.here hx rfl (hb hby at_217) ?_
        show Steps p.tables e below (T312.setTop (mkF m 218 #[.val (.int p0), .val (.int p1), .val (.int p2), .val (.int p3), .val (.int p4), .val (.int (2 : Int32)), .val (.int i260), .val (.int i261), .val (.int i262), .val (.int i263), .val (.int i264), .val (.int i265), .val (.int i266), .val (.ref b267), .val (.int i315), .val (.int i316), .val (.int i317), .unset] [(.int (2 : Int32)), (.int (2 : Int32))])) _
        refine XS.icmpNo X312.here hx rfl (hb hby at_218) rfl (teq (rfl : (2 : Int32) = (2 : Int32))).2 ?_
        show Steps p.tables e below (T312.setTop (mkF m 221 #[.val (.int p0), .val (.int p1), .val (.int p2), .val (.int p3), .val (.int p4), .val (.int (2 : Int32)), .val (.int i260), .val (.int i261), .val (.int i262), .val (.int i263), .val (.int i264), .val (.int i265), .val (.int i266), .val (.ref b267), .val (.int i315), .val (.int i316), .val (.int i317), .unset] [])) _
        refine X312.ldcInt hx hown (mvT hZ (hw _ (List.mem_of_getElem? (i := 54) rfl))) (g := (mkF m 221 #[.val (.int p0), .val (.int p1), .val (.int p2), .val (.int p3), .val (.int p4), .val (.int (2 : Int32)), .val (.int i260), .val (.int i261), .val (.int i262), .val (.int i263), .val (.int i264), .val (.int i265), .val (.int i266), .val (.ref b267), .val (.int i315), .val (.int i316), .val (.int i317), .unset] [])) rfl (hb hby at_221) _ ?_
        show Steps p.tables e below (T312.setTop (mkF m 223 #[.val (.int p0), .val (.int p1), .val (.int p2), .val (.int p3), .val (.int p4), .val (.int (2 : Int32)), .val (.int i260), .val (.int i261), .val (.int i262), .val (.int i263), .val (.int i264), .val (.int i265), .val (.int i266), .val (.ref b267), .val (.int i315), .val (.int i316), .val (.int i317), .unset] [(.int (923521 : Int32))])) _
        refine XS.sipush X312.here hx rfl (hb hby at_223) ?_
        show Steps p.tables e below (T312.setTop (mkF m 226 #[.val (.int p0), .val (.int p1), .val (.int p2), .val (.int p3), .val (.int p4), .val (.int (2 : Int32)), .val (.int i260), .val (.int i261), .val (.int i262), .val (.int i263), .val (.int i264), .val (.int i265), .val (.int i266), .val (.ref b267), .val (.int i315), .val (.int i316), .val (.int i317), .unset] [(.int (961 : Int32)), (.int (923521 : Int32))])) _
        refine XS.iload X312.here hx rfl (hb hby at_226) rfl ?_
        show Steps p.tables e below (T312.setTop (mkF m 228 #[.val (.int p0), .val (.int p1), .val (.int p2), .val (.int p3), .val (.int p4), .val (.int (2 : Int32)), .val (.int i260), .val (.int i261), .val (.int i262), .val (.int i263), .val (.int i264), .val (.int i265), .val (.int i266), .val (.ref b267), .val (.int i315), .val (.int i316), .val (.int i317), .unset] [(.int i315), (.int (961 : Int32)), (.int (923521 : Int32))])) _
        refine XS.imul X312.here hx rfl (hb hby at_228) rfl ?_
        show Steps p.tables e below (T312.setTop (mkF m 229 #[.val (.int p0), .val (.int p1), .val (.int p2), .val (.int p3), .val (.int p4), .val (.int (2 : Int32)), .val (.int i260), .val (.int i261), .val (.int i262), .val (.int i263), .val (.int i264), .val (.int i265), .val (.int i266), .val (.ref b267), .val (.int i315), .val (.int i316), .val (.int i317), .unset] [(.int ((961 : Int32) * i315)), (.int (923521 : Int32))])) _
        refine XS.iadd X312.here hx rfl (hb hby at_229) rfl ?_
        show Steps p.tables e below (T312.setTop (mkF m 230 #[.val (.int p0), .val (.int p1), .val (.int p2), .val (.int p3), .val (.int p4), .val (.int (2 : Int32)), .val (.int i260), .val (.int i261), .val (.int i262), .val (.int i263), .val (.int i264), .val (.int i265), .val (.int i266), .val (.ref b267), .val (.int i315), .val (.int i316), .val (.int i317), .unset] [(.int ((923521 : Int32) + ((961 : Int32) * i315)))])) _
        refine XS.iload X312.here hx rfl (hb hby at_230) rfl ?_
        show Steps p.tables e below (T312.setTop (mkF m 232 #[.val (.int p0), .val (.int p1), .val (.int p2), .val (.int p3), .val (.int p4), .val (.int (2 : Int32)), .val (.int i260), .val (.int i261), .val (.int i262), .val (.int i263), .val (.int i264), .val (.int i265), .val (.int i266), .val (.ref b267), .val (.int i315), .val (.int i316), .val (.int i317), .unset] [(.int i316), (.int ((923521 : Int32) + ((961 : Int32) * i315)))])) _
        refine XS.iadd X312.here hx rfl (hb hby at_232) rfl ?_
        rw [← hi318]
        show Steps p.tables e below (T312.setTop (mkF m 233 #[.val (.int p0), .val (.int p1), .val (.int p2), .val (.int p3), .val (.int p4), .val (.int (2 : Int32)), .val (.int i260), .val (.int i261), .val (.int i262), .val (.int i263), .val (.int i264), .val (.int i265), .val (.int i266), .val (.ref b267), .val (.int i315), .val (.int i316), .val (.int i317), .unset] [(.int i318)])) _
        refine XS.istore X312.here hx rfl (hb hby at_233) rfl (l' := #[.val (.int p0), .val (.int p1), .val (.int p2), .val (.int p3), .val (.int p4), .val (.int (2 : Int32)), .val (.int i260), .val (.int i261), .val (.int i262), .val (.int i263), .val (.int i264), .val (.int i265), .val (.int i266), .val (.ref b267), .val (.int i315), .val (.int i316), .val (.int i317), .val (.int i318)]) rfl ?_
        show Steps p.tables e below (T312.setTop (mkF m 235 #[.val (.int p0), .val (.int p1), .val (.int p2), .val (.int p3), .val (.int p4), .val (.int (2 : Int32)), .val (.int i260), .val (.int i261), .val (.int i262), .val (.int i263), .val (.int i264), .val (.int i265), .val (.int i266), .val (.ref b267), .val (.int i315), .val (.int i316), .val (.int i317), .val (.int i318)] [])) _
        refine XS.goto X312.here hx rfl (pc0 := 235) (pc' := 258) rfl (hb hby at_235) (by decide) (by decide) ?_
        show Steps p.tables e below (T312.setTop (mkF m 258 #[.val (.int p0), .val (.int p1), .val (.int p2), .val (.int p3), .val (.int p4), .val (.int (2 : Int32)), .val (.int i260), .val (.int i261), .val (.int i262), .val (.int i263), .val (.int i264), .val (.int i265), .val (.int i266), .val (.ref b267), .val (.int i315), .val (.int i316), .val (.int i317), .val (.int i318)] [])) _
        refine XS.aload X312.here hx rfl (hb hby at_258) rfl rfl ?_
        exact kt)
      rw [((by rw [f10]) : (f10 b267 b_vertices_268 k_vertices_268 i260 i261 (0 : Int32) b_states_268 k_states_268 (i263.toInt8.toInt32) (i264.toInt8.toInt32) (0 : Int32) wSUSCEPTIBLE wRECOVERED wINFECTED) = (((31 : Int32) * (((31 : Int32) * (((31 : Int32) * (((31 : Int32) * (1 : Int32)) + i260)) + (i263.toInt8.toInt32))) + i261)) + (i264.toInt8.toInt32)))] at hQ319
      obtain ⟨rfl, N319q, e319⟩ := hQ319
      have N319 := Fr.app N312 N319q
      obtain ⟨cq321, kq321, q321a, q321b, q321c⟩ := isOf hZ e319 E_b267_312
      obtain ⟨_, _, ⟨T321, L321, k321, n321⟩, -, X321, ⟨Lc321, hQ321, l321, y321, z321⟩, st321⟩ := X319.virtualBack hx (y := (⟨"com/example/rippletide/rippletide/model/StateChanges", "count", "()I"⟩ : MethodName)) (z := (⟨"com/example/rippletide/rippletide/model/StateChanges", "count", "()I"⟩ : MethodName)) hown (mvT hZ (hw _ (List.mem_of_getElem? (i := 43) rfl))) (mvT hZ (hw _ (List.mem_of_getElem? (i := 44) rfl))) (notFace_of_selects (args := #[]) (mvT hZ (hw _ (List.mem_of_getElem? (i := 46) rfl)))) (mvT hZ (hw _ (List.mem_of_getElem? (i := 46) rfl))) (mvT hZ (hw _ (List.mem_of_getElem? (i := 45) rfl))) (by decide) (backOf (W := 0) (rm12 l Z a0 hw [] b267 b_vertices_268 k_vertices_268 i260 i261 (0 : Int32) b_states_268 k_states_268 (i263.toInt8.toInt32) (i264.toInt8.toInt32) (0 : Int32) (2 : Int32) wSUSCEPTIBLE wRECOVERED wINFECTED h0 T312.heap n0 (Nat.le_trans Z0 KK312.1) W0 EX312 Zs ⟨E_b267_312, g_b267_312, G_b267_vertices_312, G_b267_states_312, G_b267_count_312, g_b267_vertices_312, ne_b267_vertices_312, V_b267_vertices_312, g_b267_states_312, ne_b267_states_312, V_b267_states_312, nn_b267_vertices_states_312, trivial⟩ ) hZ (hw _ (List.mem_of_getElem? (i := 47) rfl)) (hw _ (List.mem_of_getElem? (i := 2) rfl)) (by decide) (by decide)) q321a q321c (g := (mkF m 270 #[.val (.int p0), .val (.int p1), .val (.int p2), .val (.int p3), .val (.int p4), .val (.int (2 : Int32)), .val (.int i260), .val (.int i261), .val (.int i262), .val (.int i263), .val (.int i264), .val (.int i265), .val (.int i266), .val (.ref b267), .val (.int i315), .val (.int i316), .val (.int i317), .val (.int i318)] [(.ref b267)])) rfl (by rw [hml]; rfl) (Steps.refl _) (argsL := []) (rest := []) (lenOf pd_0 rfl) rfl (by show 2 * 0 + _ ≤ _; exact Nat.le_of_eq rfl) (hb hby at_270) (fun _ _ => ⟨rfl, e319, (by decide : 3 + 0 ≤ _), (by decide : 35 + 0 ≤ _)⟩)
      dsimp only [Pt.U, Pt.locs, Pt.cells, Pt.slots] at X321 l321 y321 z321 st321 hQ321
      subst l321 y321 z321
      unfold Q12 at hQ321
      have k322 : ∀ t, Steps p.tables e below (T319.setTop (mkF m 270 #[.val (.int p0), .val (.int p1), .val (.int p2), .val (.int p3), .val (.int p4), .val (.int (2 : Int32)), .val (.int i260), .val (.int i261), .val (.int i262), .val (.int i263), .val (.int i264), .val (.int i265), .val (.int i266), .val (.ref b267), .val (.int i315), .val (.int i316), .val (.int i317), .val (.int i318)] [(.ref b267)])) t → Steps p.tables e below (s₁.setTop (entryFrame m #[(.int p0), (.int p1), (.int p2), (.int p3), (.int p4)] maxLocals)) t := fun t kt => k320 t (by
        show Steps p.tables e below (T312.setTop (mkF m 260 #[.val (.int p0), .val (.int p1), .val (.int p2), .val (.int p3), .val (.int p4), .val (.int (2 : Int32)), .val (.int i260), .val (.int i261), .val (.int i262), .val (.int i263), .val (.int i264), .val (.int i265), .val (.int i266), .val (.ref b267), .val (.int i315), .val (.int i316), .val (.int i317), .val (.int i318)] [(.ref b267)])) _
        refine st319.trans ?_
        show Steps p.tables e below (T319.setTop (mkF m 263 #[.val (.int p0), .val (.int p1), .val (.int p2), .val (.int p3), .val (.int p4), .val (.int (2 : Int32)), .val (.int i260), .val (.int i261), .val (.int i262), .val (.int i263), .val (.int i264), .val (.int i265), .val (.int i266), .val (.ref b267), .val (.int i315), .val (.int i316), .val (.int i317), .val (.int i318)] [(.int (((31 : Int32) * (((31 : Int32) * (((31 : Int32) * (((31 : Int32) * (1 : Int32)) + i260)) + (i263.toInt8.toInt32))) + i261)) + (i264.toInt8.toInt32)))])) _
        refine XS.iload X319.here hx rfl (hb hby at_263) rfl ?_
        show Steps p.tables e below (T319.setTop (mkF m 265 #[.val (.int p0), .val (.int p1), .val (.int p2), .val (.int p3), .val (.int p4), .val (.int (2 : Int32)), .val (.int i260), .val (.int i261), .val (.int i262), .val (.int i263), .val (.int i264), .val (.int i265), .val (.int i266), .val (.ref b267), .val (.int i315), .val (.int i316), .val (.int i317), .val (.int i318)] [(.int i318), (.int (((31 : Int32) * (((31 : Int32) * (((31 : Int32) * (((31 : Int32) * (1 : Int32)) + i260)) + (i263.toInt8.toInt32))) + i261)) + (i264.toInt8.toInt32)))])) _
        refine XS.icmpNo X319.here hx rfl (hb hby at_265) rfl (teq ((by rw [hi318, hi315, hi316, own_byte hi263, own_byte hi264]; grind) : (((31 : Int32) * (((31 : Int32) * (((31 : Int32) * (((31 : Int32) * (1 : Int32)) + i260)) + (i263.toInt8.toInt32))) + i261)) + (i264.toInt8.toInt32)) = i318)).2 ?_
        show Steps p.tables e below (T319.setTop (mkF m 268 #[.val (.int p0), .val (.int p1), .val (.int p2), .val (.int p3), .val (.int p4), .val (.int (2 : Int32)), .val (.int i260), .val (.int i261), .val (.int i262), .val (.int i263), .val (.int i264), .val (.int i265), .val (.int i266), .val (.ref b267), .val (.int i315), .val (.int i316), .val (.int i317), .val (.int i318)] [])) _
        refine XS.aload X319.here hx rfl (hb hby at_268) rfl rfl ?_
        exact kt)
      rw [((by rw [f12]) : (f12 b267 b_vertices_268 k_vertices_268 i260 i261 (0 : Int32) b_states_268 k_states_268 (i263.toInt8.toInt32) (i264.toInt8.toInt32) (0 : Int32) (2 : Int32) wSUSCEPTIBLE wRECOVERED wINFECTED) = (2 : Int32))] at hQ321
      obtain ⟨rfl, N321q, e321⟩ := hQ321
      have N321 := Fr.app N319 N321q
      obtain ⟨fs, hr, hrun, hended, hW, hsame⟩ := X321.leave (v := some (.int (1 : Int32))) (fun h => by rw [Bd.returns] at h; cases h)
      refine ⟨_, _, k322 _ ?_, hrun, hended, _, _, rfl, ?_, ⟨_, rfl⟩, hW, hsame.mono (by decide) (by decide)⟩
      · show Steps p.tables e below (T319.setTop (mkF m 270 #[.val (.int p0), .val (.int p1), .val (.int p2), .val (.int p3), .val (.int p4), .val (.int (2 : Int32)), .val (.int i260), .val (.int i261), .val (.int i262), .val (.int i263), .val (.int i264), .val (.int i265), .val (.int i266), .val (.ref b267), .val (.int i315), .val (.int i316), .val (.int i317), .val (.int i318)] [(.ref b267)])) _
        refine st321.trans ?_
        show Steps p.tables e below (T321.setTop (mkF m 273 #[.val (.int p0), .val (.int p1), .val (.int p2), .val (.int p3), .val (.int p4), .val (.int (2 : Int32)), .val (.int i260), .val (.int i261), .val (.int i262), .val (.int i263), .val (.int i264), .val (.int i265), .val (.int i266), .val (.ref b267), .val (.int i315), .val (.int i316), .val (.int i317), .val (.int i318)] [(.int (2 : Int32))])) _
        refine XS.iload X321.here hx rfl (hb hby at_273) rfl ?_
        show Steps p.tables e below (T321.setTop (mkF m 275 #[.val (.int p0), .val (.int p1), .val (.int p2), .val (.int p3), .val (.int p4), .val (.int (2 : Int32)), .val (.int i260), .val (.int i261), .val (.int i262), .val (.int i263), .val (.int i264), .val (.int i265), .val (.int i266), .val (.ref b267), .val (.int i315), .val (.int i316), .val (.int i317), .val (.int i318)] [(.int (2 : Int32)), (.int (2 : Int32))])) _
        refine XS.icmpNo X321.here hx rfl (hb hby at_275) rfl (teq (rfl : (2 : Int32) = (2 : Int32))).2 ?_
        show Steps p.tables e below (T321.setTop (mkF m 278 #[.val (.int p0), .val (.int p1), .val (.int p2), .val (.int p3), .val (.int p4), .val (.int (2 : Int32)), .val (.int i260), .val (.int i261), .val (.int i262), .val (.int i263), .val (.int i264), .val (.int i265), .val (.int i266), .val (.ref b267), .val (.int i315), .val (.int i316), .val (.int i317), .val (.int i318)] [])) _
        refine XS.iconst X321.here hx rfl (hb hby at_278) ?_
        show Steps p.tables e below (T321.setTop (mkF m 279 #[.val (.int p0), .val (.int p1), .val (.int p2), .val (.int p3), .val (.int p4), .val (.int (2 : Int32)), .val (.int i260), .val (.int i261), .val (.int i262), .val (.int i263), .val (.int i264), .val (.int i265), .val (.int i266), .val (.ref b267), .val (.int i315), .val (.int i316), .val (.int i317), .val (.int i318)] [(.int (1 : Int32))])) _
        refine XS.goto X321.here hx rfl (pc0 := 279) (pc' := 283) rfl (hb hby at_279) (by decide) (by decide) ?_
        show Steps p.tables e below (T321.setTop (mkF m 283 #[.val (.int p0), .val (.int p1), .val (.int p2), .val (.int p3), .val (.int p4), .val (.int (2 : Int32)), .val (.int i260), .val (.int i261), .val (.int i262), .val (.int i263), .val (.int i264), .val (.int i265), .val (.int i266), .val (.ref b267), .val (.int i315), .val (.int i316), .val (.int i317), .val (.int i318)] [(.int (1 : Int32))])) _
        exact retN X321 hx (t := .boolean) Bd.returns (by simp) (hb hby at_283) hr
      · show Q0 Z p0 p1 p2 p3 p4 wSUSCEPTIBLE wRECOVERED wINFECTED h0 n0 _ T321.heap _
        rw [e321]
        exact ⟨rfl, N321⟩
  · subst hv171
    obtain ⟨i323, hi323⟩ : ∃ z, z = ((p0.toUInt32 >>> ((3 : Int32) &&& 31).toUInt32).toInt32) := ⟨_, rfl⟩
    obtain ⟨i324, hi324⟩ : ∃ z, z = ((i323 + (1 : Int32)) + ((p1.toUInt32 >>> ((3 : Int32) &&& 31).toUInt32).toInt32)) := ⟨_, rfl⟩
    obtain ⟨i325, hi325⟩ : ∃ z, z = ((i324 + (1 : Int32)) + ((p2.toUInt32 >>> ((2 : Int32) &&& 31).toUInt32).toInt32)) := ⟨_, rfl⟩
    obtain ⟨A1, A2, A3, A4, A5⟩ := own_arith hi323 hi324 hi325
    obtain ⟨i326, hi326⟩ : ∃ z, z = ((((p3.toUInt32 >>> ((2 : Int32) &&& 31).toUInt32).toInt32) &&& (3 : Int32)) % (3 : Int32)) := ⟨_, rfl⟩
    obtain ⟨i327, hi327⟩ : ∃ z, z = ((((p3.toUInt32 >>> ((4 : Int32) &&& 31).toUInt32).toInt32) &&& (3 : Int32)) % (3 : Int32)) := ⟨_, rfl⟩
    obtain ⟨i328, hi328⟩ : ∃ z, z = ((((p3.toUInt32 >>> ((6 : Int32) &&& 31).toUInt32).toInt32) &&& (3 : Int32)) % (3 : Int32)) := ⟨_, rfl⟩
    obtain ⟨i329, hi329⟩ : ∃ z, z = ((((p3.toUInt32 >>> ((8 : Int32) &&& 31).toUInt32).toInt32) &&& (3 : Int32)) % (3 : Int32)) := ⟨_, rfl⟩
    obtain ⟨T330, h330, X330, e330, E330, A330, D330, -, st330⟩ := newO X0 hx hZ hown (hw _ (List.mem_of_getElem? (i := 0) rfl)) (hw _ (List.mem_of_getElem? (i := 1) rfl)) (hw _ (List.mem_of_getElem? (i := 2) rfl)) e0 (g := (mkF m 68 #[.val (.int p0), .val (.int p1), .val (.int p2), .val (.int p3), .val (.int p4), .val (.int (3 : Int32)), .val (.int i323), .val (.int i324), .val (.int i325), .val (.int i326), .val (.int i327), .val (.int i328), .val (.int i329), .unset, .unset, .unset, .unset, .unset] [])) rfl (hb hby at_68) (by decide) (by decide)
    obtain ⟨b330, g330⟩ : ∃ z, z = h0.size := ⟨_, rfl⟩
    have g_b330 : n0 ≤ b330 := Nat.le_trans Z0 (Nat.le_of_eq g330.symm)
    have sz_b330 : h0.size ≤ b330 := Nat.le_of_eq g330.symm
    rw [← g330] at A330 D330 st330
    have EX330 : Ext h0 h330 := E330
    have KK330 : Keep h0 h330 ([] : List Addr) := Keep.ext (Keep.refl h0 ([] : List Addr)) E330
    have G330_vertices : Fld Z h330 b330 "com/example/rippletide/rippletide/model/StateChanges" "vertices" "[I" .null := D330 (Or.inl (hw _ (List.mem_of_getElem? (i := 11) rfl))) (ty := (.array .int)) (by decide)
    have G330_states : Fld Z h330 b330 "com/example/rippletide/rippletide/model/StateChanges" "states" "[B" .null := D330 (Or.inl (hw _ (List.mem_of_getElem? (i := 14) rfl))) (ty := (.array .byte)) (by decide)
    have G330_count : Fld Z h330 b330 "com/example/rippletide/rippletide/model/StateChanges" "count" "I" (.int (0 : Int32)) := D330 (Or.inl (hw _ (List.mem_of_getElem? (i := 28) rfl))) (ty := .int) (by decide)
    obtain ⟨_, _, ⟨T331, L331, k331, n331⟩, -, X331, ⟨Lc331, hQ331, l331, y331, z331⟩, st331⟩ := X330.specialBack hx (y := (⟨"com/example/rippletide/rippletide/model/StateChanges", "<init>", "()V"⟩ : MethodName)) rfl hown (mvT hZ (hw _ (List.mem_of_getElem? (i := 3) rfl))) (mvT hZ (hw _ (List.mem_of_getElem? (i := 4) rfl))) (mvT hZ (hw _ (List.mem_of_getElem? (i := 5) rfl))) (by decide) (backOf (W := 1) (rm3 l Z a0 hw [] b330 wSUSCEPTIBLE wRECOVERED wINFECTED h0 h330 n0 (Nat.le_trans Z0 KK330.1) W0 EX330 Zs A330 g_b330 G330_vertices G330_states G330_count ) hZ (hw _ (List.mem_of_getElem? (i := 5) rfl)) (hw _ (List.mem_of_getElem? (i := 2) rfl)) (by decide) (by decide)) (g := (mkF m 72 #[.val (.int p0), .val (.int p1), .val (.int p2), .val (.int p3), .val (.int p4), .val (.int (3 : Int32)), .val (.int i323), .val (.int i324), .val (.int i325), .val (.int i326), .val (.int i327), .val (.int i328), .val (.int i329), .unset, .unset, .unset, .unset, .unset] [(.ref b330), (.ref b330)])) rfl (by rw [hml]; rfl) (Steps.refl _) (a := b330) (argsL := []) (rest := [(.ref b330)]) (lenOf pd_1 rfl) rfl (by show 2 * 0 + _ ≤ _; exact Nat.le_of_eq rfl) (hb hby at_72) (fun _ _ => ⟨rfl, e330, (by decide : 1 + 2 ≤ _), (by decide : 3 + 32 ≤ _)⟩)
    dsimp only [Pt.U, Pt.locs, Pt.cells, Pt.slots] at X331 l331 y331 z331 st331 hQ331
    subst l331 y331 z331
    unfold Q3 at hQ331
    obtain ⟨b_vertices_331, k_vertices_331, b_states_331, k_states_331, rfl, N331q, EXc331, Kc331, OB331_p0⟩ := hQ331
    have N331 := Fr.app N0 N331q
    have EX331 : Ext h0 T331.heap := EXc331
    have KK331 : Keep h0 T331.heap ([] : List Addr) := Keep.trans KK330 Kc331 (allS (Or.inr (Nat.le_trans Zs g_b330)) all0)
    have OBx331_p0 : Obj Z T331.heap n0 b330 b_vertices_331 k_vertices_331 (0 : Int32) (0 : Int32) (0 : Int32) b_states_331 k_states_331 (0 : Int32) (0 : Int32) (0 : Int32) (0 : Int32) := OB331_p0
    obtain ⟨E_b330_331, g_b330_331, G_b330_vertices_331, G_b330_states_331, G_b330_count_331, g_b330_vertices_331, ne_b330_vertices_331, V_b330_vertices_331, g_b330_states_331, ne_b330_states_331, V_b330_states_331, nn_b330_vertices_states_331, -⟩ := OBx331_p0
    have k335 : ∀ t, Steps p.tables e below (T331.setTop (mkF m 81 #[.val (.int p0), .val (.int p1), .val (.int p2), .val (.int p3), .val (.int p4), .val (.int (3 : Int32)), .val (.int i323), .val (.int i324), .val (.int i325), .val (.int i326), .val (.int i327), .val (.int i328), .val (.int i329), .val (.ref b330), .unset, .unset, .unset, .unset] [(.int (p4 &&& (1 : Int32)))])) t → Steps p.tables e below (s₁.setTop (entryFrame m #[(.int p0), (.int p1), (.int p2), (.int p3), (.int p4)] maxLocals)) t := fun t kt => k170 t (by
      show Steps p.tables e below (s₁.setTop (mkF m 5 #[.val (.int p0), .val (.int p1), .val (.int p2), .val (.int p3), .val (.int p4), .val (.int (3 : Int32)), .unset, .unset, .unset, .unset, .unset, .unset, .unset, .unset, .unset, .unset, .unset, .unset] [])) _
      refine XS.iloadN X0.here hx rfl (hb hby at_5) rfl ?_
      show Steps p.tables e below (s₁.setTop (mkF m 6 #[.val (.int p0), .val (.int p1), .val (.int p2), .val (.int p3), .val (.int p4), .val (.int (3 : Int32)), .unset, .unset, .unset, .unset, .unset, .unset, .unset, .unset, .unset, .unset, .unset, .unset] [(.int p0)])) _
      refine XS.iconst X0.here hx rfl (hb hby at_6) ?_
      show Steps p.tables e below (s₁.setTop (mkF m 7 #[.val (.int p0), .val (.int p1), .val (.int p2), .val (.int p3), .val (.int p4), .val (.int (3 : Int32)), .unset, .unset, .unset, .unset, .unset, .unset, .unset, .unset, .unset, .unset, .unset, .unset] [(.int (3 : Int32)), (.int p0)])) _
      refine XS.iushr X0.here hx rfl (hb hby at_7) rfl ?_
      rw [← hi323]
      show Steps p.tables e below (s₁.setTop (mkF m 8 #[.val (.int p0), .val (.int p1), .val (.int p2), .val (.int p3), .val (.int p4), .val (.int (3 : Int32)), .unset, .unset, .unset, .unset, .unset, .unset, .unset, .unset, .unset, .unset, .unset, .unset] [(.int i323)])) _
      refine XS.istore X0.here hx rfl (hb hby at_8) rfl (l' := #[.val (.int p0), .val (.int p1), .val (.int p2), .val (.int p3), .val (.int p4), .val (.int (3 : Int32)), .val (.int i323), .unset, .unset, .unset, .unset, .unset, .unset, .unset, .unset, .unset, .unset, .unset]) rfl ?_
      show Steps p.tables e below (s₁.setTop (mkF m 10 #[.val (.int p0), .val (.int p1), .val (.int p2), .val (.int p3), .val (.int p4), .val (.int (3 : Int32)), .val (.int i323), .unset, .unset, .unset, .unset, .unset, .unset, .unset, .unset, .unset, .unset, .unset] [])) _
      refine XS.iload X0.here hx rfl (hb hby at_10) rfl ?_
      show Steps p.tables e below (s₁.setTop (mkF m 12 #[.val (.int p0), .val (.int p1), .val (.int p2), .val (.int p3), .val (.int p4), .val (.int (3 : Int32)), .val (.int i323), .unset, .unset, .unset, .unset, .unset, .unset, .unset, .unset, .unset, .unset, .unset] [(.int i323)])) _
      refine XS.iconst X0.here hx rfl (hb hby at_12) ?_
      show Steps p.tables e below (s₁.setTop (mkF m 13 #[.val (.int p0), .val (.int p1), .val (.int p2), .val (.int p3), .val (.int p4), .val (.int (3 : Int32)), .val (.int i323), .unset, .unset, .unset, .unset, .unset, .unset, .unset, .unset, .unset, .unset, .unset] [(.int (1 : Int32)), (.int i323)])) _
      refine XS.iadd X0.here hx rfl (hb hby at_13) rfl ?_
      show Steps p.tables e below (s₁.setTop (mkF m 14 #[.val (.int p0), .val (.int p1), .val (.int p2), .val (.int p3), .val (.int p4), .val (.int (3 : Int32)), .val (.int i323), .unset, .unset, .unset, .unset, .unset, .unset, .unset, .unset, .unset, .unset, .unset] [(.int (i323 + (1 : Int32)))])) _
      refine XS.iloadN X0.here hx rfl (hb hby at_14) rfl ?_
      show Steps p.tables e below (s₁.setTop (mkF m 15 #[.val (.int p0), .val (.int p1), .val (.int p2), .val (.int p3), .val (.int p4), .val (.int (3 : Int32)), .val (.int i323), .unset, .unset, .unset, .unset, .unset, .unset, .unset, .unset, .unset, .unset, .unset] [(.int p1), (.int (i323 + (1 : Int32)))])) _
      refine XS.iconst X0.here hx rfl (hb hby at_15) ?_
      show Steps p.tables e below (s₁.setTop (mkF m 16 #[.val (.int p0), .val (.int p1), .val (.int p2), .val (.int p3), .val (.int p4), .val (.int (3 : Int32)), .val (.int i323), .unset, .unset, .unset, .unset, .unset, .unset, .unset, .unset, .unset, .unset, .unset] [(.int (3 : Int32)), (.int p1), (.int (i323 + (1 : Int32)))])) _
      refine XS.iushr X0.here hx rfl (hb hby at_16) rfl ?_
      show Steps p.tables e below (s₁.setTop (mkF m 17 #[.val (.int p0), .val (.int p1), .val (.int p2), .val (.int p3), .val (.int p4), .val (.int (3 : Int32)), .val (.int i323), .unset, .unset, .unset, .unset, .unset, .unset, .unset, .unset, .unset, .unset, .unset] [(.int ((p1.toUInt32 >>> ((3 : Int32) &&& 31).toUInt32).toInt32)), (.int (i323 + (1 : Int32)))])) _
      refine XS.iadd X0.here hx rfl (hb hby at_17) rfl ?_
      rw [← hi324]
      show Steps p.tables e below (s₁.setTop (mkF m 18 #[.val (.int p0), .val (.int p1), .val (.int p2), .val (.int p3), .val (.int p4), .val (.int (3 : Int32)), .val (.int i323), .unset, .unset, .unset, .unset, .unset, .unset, .unset, .unset, .unset, .unset, .unset] [(.int i324)])) _
      refine XS.istore X0.here hx rfl (hb hby at_18) rfl (l' := #[.val (.int p0), .val (.int p1), .val (.int p2), .val (.int p3), .val (.int p4), .val (.int (3 : Int32)), .val (.int i323), .val (.int i324), .unset, .unset, .unset, .unset, .unset, .unset, .unset, .unset, .unset, .unset]) rfl ?_
      show Steps p.tables e below (s₁.setTop (mkF m 20 #[.val (.int p0), .val (.int p1), .val (.int p2), .val (.int p3), .val (.int p4), .val (.int (3 : Int32)), .val (.int i323), .val (.int i324), .unset, .unset, .unset, .unset, .unset, .unset, .unset, .unset, .unset, .unset] [])) _
      refine XS.iload X0.here hx rfl (hb hby at_20) rfl ?_
      show Steps p.tables e below (s₁.setTop (mkF m 22 #[.val (.int p0), .val (.int p1), .val (.int p2), .val (.int p3), .val (.int p4), .val (.int (3 : Int32)), .val (.int i323), .val (.int i324), .unset, .unset, .unset, .unset, .unset, .unset, .unset, .unset, .unset, .unset] [(.int i324)])) _
      refine XS.iconst X0.here hx rfl (hb hby at_22) ?_
      show Steps p.tables e below (s₁.setTop (mkF m 23 #[.val (.int p0), .val (.int p1), .val (.int p2), .val (.int p3), .val (.int p4), .val (.int (3 : Int32)), .val (.int i323), .val (.int i324), .unset, .unset, .unset, .unset, .unset, .unset, .unset, .unset, .unset, .unset] [(.int (1 : Int32)), (.int i324)])) _
      refine XS.iadd X0.here hx rfl (hb hby at_23) rfl ?_
      show Steps p.tables e below (s₁.setTop (mkF m 24 #[.val (.int p0), .val (.int p1), .val (.int p2), .val (.int p3), .val (.int p4), .val (.int (3 : Int32)), .val (.int i323), .val (.int i324), .unset, .unset, .unset, .unset, .unset, .unset, .unset, .unset, .unset, .unset] [(.int (i324 + (1 : Int32)))])) _
      refine XS.iloadN X0.here hx rfl (hb hby at_24) rfl ?_
      show Steps p.tables e below (s₁.setTop (mkF m 25 #[.val (.int p0), .val (.int p1), .val (.int p2), .val (.int p3), .val (.int p4), .val (.int (3 : Int32)), .val (.int i323), .val (.int i324), .unset, .unset, .unset, .unset, .unset, .unset, .unset, .unset, .unset, .unset] [(.int p2), (.int (i324 + (1 : Int32)))])) _
      refine XS.iconst X0.here hx rfl (hb hby at_25) ?_
      show Steps p.tables e below (s₁.setTop (mkF m 26 #[.val (.int p0), .val (.int p1), .val (.int p2), .val (.int p3), .val (.int p4), .val (.int (3 : Int32)), .val (.int i323), .val (.int i324), .unset, .unset, .unset, .unset, .unset, .unset, .unset, .unset, .unset, .unset] [(.int (2 : Int32)), (.int p2), (.int (i324 + (1 : Int32)))])) _
      refine XS.iushr X0.here hx rfl (hb hby at_26) rfl ?_
      show Steps p.tables e below (s₁.setTop (mkF m 27 #[.val (.int p0), .val (.int p1), .val (.int p2), .val (.int p3), .val (.int p4), .val (.int (3 : Int32)), .val (.int i323), .val (.int i324), .unset, .unset, .unset, .unset, .unset, .unset, .unset, .unset, .unset, .unset] [(.int ((p2.toUInt32 >>> ((2 : Int32) &&& 31).toUInt32).toInt32)), (.int (i324 + (1 : Int32)))])) _
      refine XS.iadd X0.here hx rfl (hb hby at_27) rfl ?_
      rw [← hi325]
      show Steps p.tables e below (s₁.setTop (mkF m 28 #[.val (.int p0), .val (.int p1), .val (.int p2), .val (.int p3), .val (.int p4), .val (.int (3 : Int32)), .val (.int i323), .val (.int i324), .unset, .unset, .unset, .unset, .unset, .unset, .unset, .unset, .unset, .unset] [(.int i325)])) _
      refine XS.istore X0.here hx rfl (hb hby at_28) rfl (l' := #[.val (.int p0), .val (.int p1), .val (.int p2), .val (.int p3), .val (.int p4), .val (.int (3 : Int32)), .val (.int i323), .val (.int i324), .val (.int i325), .unset, .unset, .unset, .unset, .unset, .unset, .unset, .unset, .unset]) rfl ?_
      show Steps p.tables e below (s₁.setTop (mkF m 30 #[.val (.int p0), .val (.int p1), .val (.int p2), .val (.int p3), .val (.int p4), .val (.int (3 : Int32)), .val (.int i323), .val (.int i324), .val (.int i325), .unset, .unset, .unset, .unset, .unset, .unset, .unset, .unset, .unset] [])) _
      refine XS.iloadN X0.here hx rfl (hb hby at_30) rfl ?_
      show Steps p.tables e below (s₁.setTop (mkF m 31 #[.val (.int p0), .val (.int p1), .val (.int p2), .val (.int p3), .val (.int p4), .val (.int (3 : Int32)), .val (.int i323), .val (.int i324), .val (.int i325), .unset, .unset, .unset, .unset, .unset, .unset, .unset, .unset, .unset] [(.int p3)])) _
      refine XS.iconst X0.here hx rfl (hb hby at_31) ?_
      show Steps p.tables e below (s₁.setTop (mkF m 32 #[.val (.int p0), .val (.int p1), .val (.int p2), .val (.int p3), .val (.int p4), .val (.int (3 : Int32)), .val (.int i323), .val (.int i324), .val (.int i325), .unset, .unset, .unset, .unset, .unset, .unset, .unset, .unset, .unset] [(.int (2 : Int32)), (.int p3)])) _
      refine XS.iushr X0.here hx rfl (hb hby at_32) rfl ?_
      show Steps p.tables e below (s₁.setTop (mkF m 33 #[.val (.int p0), .val (.int p1), .val (.int p2), .val (.int p3), .val (.int p4), .val (.int (3 : Int32)), .val (.int i323), .val (.int i324), .val (.int i325), .unset, .unset, .unset, .unset, .unset, .unset, .unset, .unset, .unset] [(.int ((p3.toUInt32 >>> ((2 : Int32) &&& 31).toUInt32).toInt32))])) _
      refine XS.iconst X0.here hx rfl (hb hby at_33) ?_
      show Steps p.tables e below (s₁.setTop (mkF m 34 #[.val (.int p0), .val (.int p1), .val (.int p2), .val (.int p3), .val (.int p4), .val (.int (3 : Int32)), .val (.int i323), .val (.int i324), .val (.int i325), .unset, .unset, .unset, .unset, .unset, .unset, .unset, .unset, .unset] [(.int (3 : Int32)), (.int ((p3.toUInt32 >>> ((2 : Int32) &&& 31).toUInt32).toInt32))])) _
      refine XS.iand X0.here hx rfl (hb hby at_34) rfl ?_
      show Steps p.tables e below (s₁.setTop (mkF m 35 #[.val (.int p0), .val (.int p1), .val (.int p2), .val (.int p3), .val (.int p4), .val (.int (3 : Int32)), .val (.int i323), .val (.int i324), .val (.int i325), .unset, .unset, .unset, .unset, .unset, .unset, .unset, .unset, .unset] [(.int (((p3.toUInt32 >>> ((2 : Int32) &&& 31).toUInt32).toInt32) &&& (3 : Int32)))])) _
      refine XS.iconst X0.here hx rfl (hb hby at_35) ?_
      show Steps p.tables e below (s₁.setTop (mkF m 36 #[.val (.int p0), .val (.int p1), .val (.int p2), .val (.int p3), .val (.int p4), .val (.int (3 : Int32)), .val (.int i323), .val (.int i324), .val (.int i325), .unset, .unset, .unset, .unset, .unset, .unset, .unset, .unset, .unset] [(.int (3 : Int32)), (.int (((p3.toUInt32 >>> ((2 : Int32) &&& 31).toUInt32).toInt32) &&& (3 : Int32)))])) _
      refine iremM X0 hx rfl (hb hby at_36) rfl (by decide) ?_
      rw [← hi326]
      show Steps p.tables e below (s₁.setTop (mkF m 37 #[.val (.int p0), .val (.int p1), .val (.int p2), .val (.int p3), .val (.int p4), .val (.int (3 : Int32)), .val (.int i323), .val (.int i324), .val (.int i325), .unset, .unset, .unset, .unset, .unset, .unset, .unset, .unset, .unset] [(.int i326)])) _
      refine XS.istore X0.here hx rfl (hb hby at_37) rfl (l' := #[.val (.int p0), .val (.int p1), .val (.int p2), .val (.int p3), .val (.int p4), .val (.int (3 : Int32)), .val (.int i323), .val (.int i324), .val (.int i325), .val (.int i326), .unset, .unset, .unset, .unset, .unset, .unset, .unset, .unset]) rfl ?_
      show Steps p.tables e below (s₁.setTop (mkF m 39 #[.val (.int p0), .val (.int p1), .val (.int p2), .val (.int p3), .val (.int p4), .val (.int (3 : Int32)), .val (.int i323), .val (.int i324), .val (.int i325), .val (.int i326), .unset, .unset, .unset, .unset, .unset, .unset, .unset, .unset] [])) _
      refine XS.iloadN X0.here hx rfl (hb hby at_39) rfl ?_
      show Steps p.tables e below (s₁.setTop (mkF m 40 #[.val (.int p0), .val (.int p1), .val (.int p2), .val (.int p3), .val (.int p4), .val (.int (3 : Int32)), .val (.int i323), .val (.int i324), .val (.int i325), .val (.int i326), .unset, .unset, .unset, .unset, .unset, .unset, .unset, .unset] [(.int p3)])) _
      refine XS.iconst X0.here hx rfl (hb hby at_40) ?_
      show Steps p.tables e below (s₁.setTop (mkF m 41 #[.val (.int p0), .val (.int p1), .val (.int p2), .val (.int p3), .val (.int p4), .val (.int (3 : Int32)), .val (.int i323), .val (.int i324), .val (.int i325), .val (.int i326), .unset, .unset, .unset, .unset, .unset, .unset, .unset, .unset] [(.int (4 : Int32)), (.int p3)])) _
      refine XS.iushr X0.here hx rfl (hb hby at_41) rfl ?_
      show Steps p.tables e below (s₁.setTop (mkF m 42 #[.val (.int p0), .val (.int p1), .val (.int p2), .val (.int p3), .val (.int p4), .val (.int (3 : Int32)), .val (.int i323), .val (.int i324), .val (.int i325), .val (.int i326), .unset, .unset, .unset, .unset, .unset, .unset, .unset, .unset] [(.int ((p3.toUInt32 >>> ((4 : Int32) &&& 31).toUInt32).toInt32))])) _
      refine XS.iconst X0.here hx rfl (hb hby at_42) ?_
      show Steps p.tables e below (s₁.setTop (mkF m 43 #[.val (.int p0), .val (.int p1), .val (.int p2), .val (.int p3), .val (.int p4), .val (.int (3 : Int32)), .val (.int i323), .val (.int i324), .val (.int i325), .val (.int i326), .unset, .unset, .unset, .unset, .unset, .unset, .unset, .unset] [(.int (3 : Int32)), (.int ((p3.toUInt32 >>> ((4 : Int32) &&& 31).toUInt32).toInt32))])) _
      refine XS.iand X0.here hx rfl (hb hby at_43) rfl ?_
      show Steps p.tables e below (s₁.setTop (mkF m 44 #[.val (.int p0), .val (.int p1), .val (.int p2), .val (.int p3), .val (.int p4), .val (.int (3 : Int32)), .val (.int i323), .val (.int i324), .val (.int i325), .val (.int i326), .unset, .unset, .unset, .unset, .unset, .unset, .unset, .unset] [(.int (((p3.toUInt32 >>> ((4 : Int32) &&& 31).toUInt32).toInt32) &&& (3 : Int32)))])) _
      refine XS.iconst X0.here hx rfl (hb hby at_44) ?_
      show Steps p.tables e below (s₁.setTop (mkF m 45 #[.val (.int p0), .val (.int p1), .val (.int p2), .val (.int p3), .val (.int p4), .val (.int (3 : Int32)), .val (.int i323), .val (.int i324), .val (.int i325), .val (.int i326), .unset, .unset, .unset, .unset, .unset, .unset, .unset, .unset] [(.int (3 : Int32)), (.int (((p3.toUInt32 >>> ((4 : Int32) &&& 31).toUInt32).toInt32) &&& (3 : Int32)))])) _
      refine iremM X0 hx rfl (hb hby at_45) rfl (by decide) ?_
      rw [← hi327]
      show Steps p.tables e below (s₁.setTop (mkF m 46 #[.val (.int p0), .val (.int p1), .val (.int p2), .val (.int p3), .val (.int p4), .val (.int (3 : Int32)), .val (.int i323), .val (.int i324), .val (.int i325), .val (.int i326), .unset, .unset, .unset, .unset, .unset, .unset, .unset, .unset] [(.int i327)])) _
      refine XS.istore X0.here hx rfl (hb hby at_46) rfl (l' := #[.val (.int p0), .val (.int p1), .val (.int p2), .val (.int p3), .val (.int p4), .val (.int (3 : Int32)), .val (.int i323), .val (.int i324), .val (.int i325), .val (.int i326), .val (.int i327), .unset, .unset, .unset, .unset, .unset, .unset, .unset]) rfl ?_
      show Steps p.tables e below (s₁.setTop (mkF m 48 #[.val (.int p0), .val (.int p1), .val (.int p2), .val (.int p3), .val (.int p4), .val (.int (3 : Int32)), .val (.int i323), .val (.int i324), .val (.int i325), .val (.int i326), .val (.int i327), .unset, .unset, .unset, .unset, .unset, .unset, .unset] [])) _
      refine XS.iloadN X0.here hx rfl (hb hby at_48) rfl ?_
      show Steps p.tables e below (s₁.setTop (mkF m 49 #[.val (.int p0), .val (.int p1), .val (.int p2), .val (.int p3), .val (.int p4), .val (.int (3 : Int32)), .val (.int i323), .val (.int i324), .val (.int i325), .val (.int i326), .val (.int i327), .unset, .unset, .unset, .unset, .unset, .unset, .unset] [(.int p3)])) _
      refine XS.bipush X0.here hx rfl (hb hby at_49) ?_
      show Steps p.tables e below (s₁.setTop (mkF m 51 #[.val (.int p0), .val (.int p1), .val (.int p2), .val (.int p3), .val (.int p4), .val (.int (3 : Int32)), .val (.int i323), .val (.int i324), .val (.int i325), .val (.int i326), .val (.int i327), .unset, .unset, .unset, .unset, .unset, .unset, .unset] [(.int (6 : Int32)), (.int p3)])) _
      refine XS.iushr X0.here hx rfl (hb hby at_51) rfl ?_
      show Steps p.tables e below (s₁.setTop (mkF m 52 #[.val (.int p0), .val (.int p1), .val (.int p2), .val (.int p3), .val (.int p4), .val (.int (3 : Int32)), .val (.int i323), .val (.int i324), .val (.int i325), .val (.int i326), .val (.int i327), .unset, .unset, .unset, .unset, .unset, .unset, .unset] [(.int ((p3.toUInt32 >>> ((6 : Int32) &&& 31).toUInt32).toInt32))])) _
      refine XS.iconst X0.here hx rfl (hb hby at_52) ?_
      show Steps p.tables e below (s₁.setTop (mkF m 53 #[.val (.int p0), .val (.int p1), .val (.int p2), .val (.int p3), .val (.int p4), .val (.int (3 : Int32)), .val (.int i323), .val (.int i324), .val (.int i325), .val (.int i326), .val (.int i327), .unset, .unset, .unset, .unset, .unset, .unset, .unset] [(.int (3 : Int32)), (.int ((p3.toUInt32 >>> ((6 : Int32) &&& 31).toUInt32).toInt32))])) _
      refine XS.iand X0.here hx rfl (hb hby at_53) rfl ?_
      show Steps p.tables e below (s₁.setTop (mkF m 54 #[.val (.int p0), .val (.int p1), .val (.int p2), .val (.int p3), .val (.int p4), .val (.int (3 : Int32)), .val (.int i323), .val (.int i324), .val (.int i325), .val (.int i326), .val (.int i327), .unset, .unset, .unset, .unset, .unset, .unset, .unset] [(.int (((p3.toUInt32 >>> ((6 : Int32) &&& 31).toUInt32).toInt32) &&& (3 : Int32)))])) _
      refine XS.iconst X0.here hx rfl (hb hby at_54) ?_
      show Steps p.tables e below (s₁.setTop (mkF m 55 #[.val (.int p0), .val (.int p1), .val (.int p2), .val (.int p3), .val (.int p4), .val (.int (3 : Int32)), .val (.int i323), .val (.int i324), .val (.int i325), .val (.int i326), .val (.int i327), .unset, .unset, .unset, .unset, .unset, .unset, .unset] [(.int (3 : Int32)), (.int (((p3.toUInt32 >>> ((6 : Int32) &&& 31).toUInt32).toInt32) &&& (3 : Int32)))])) _
      refine iremM X0 hx rfl (hb hby at_55) rfl (by decide) ?_
      rw [← hi328]
      show Steps p.tables e below (s₁.setTop (mkF m 56 #[.val (.int p0), .val (.int p1), .val (.int p2), .val (.int p3), .val (.int p4), .val (.int (3 : Int32)), .val (.int i323), .val (.int i324), .val (.int i325), .val (.int i326), .val (.int i327), .unset, .unset, .unset, .unset, .unset, .unset, .unset] [(.int i328)])) _
      refine XS.istore X0.here hx rfl (hb hby at_56) rfl (l' := #[.val (.int p0), .val (.int p1), .val (.int p2), .val (.int p3), .val (.int p4), .val (.int (3 : Int32)), .val (.int i323), .val (.int i324), .val (.int i325), .val (.int i326), .val (.int i327), .val (.int i328), .unset, .unset, .unset, .unset, .unset, .unset]) rfl ?_
      show Steps p.tables e below (s₁.setTop (mkF m 58 #[.val (.int p0), .val (.int p1), .val (.int p2), .val (.int p3), .val (.int p4), .val (.int (3 : Int32)), .val (.int i323), .val (.int i324), .val (.int i325), .val (.int i326), .val (.int i327), .val (.int i328), .unset, .unset, .unset, .unset, .unset, .unset] [])) _
      refine XS.iloadN X0.here hx rfl (hb hby at_58) rfl ?_
      show Steps p.tables e below (s₁.setTop (mkF m 59 #[.val (.int p0), .val (.int p1), .val (.int p2), .val (.int p3), .val (.int p4), .val (.int (3 : Int32)), .val (.int i323), .val (.int i324), .val (.int i325), .val (.int i326), .val (.int i327), .val (.int i328), .unset, .unset, .unset, .unset, .unset, .unset] [(.int p3)])) _
      refine XS.bipush X0.here hx rfl (hb hby at_59) ?_
      show Steps p.tables e below (s₁.setTop (mkF m 61 #[.val (.int p0), .val (.int p1), .val (.int p2), .val (.int p3), .val (.int p4), .val (.int (3 : Int32)), .val (.int i323), .val (.int i324), .val (.int i325), .val (.int i326), .val (.int i327), .val (.int i328), .unset, .unset, .unset, .unset, .unset, .unset] [(.int (8 : Int32)), (.int p3)])) _
      refine XS.iushr X0.here hx rfl (hb hby at_61) rfl ?_
      show Steps p.tables e below (s₁.setTop (mkF m 62 #[.val (.int p0), .val (.int p1), .val (.int p2), .val (.int p3), .val (.int p4), .val (.int (3 : Int32)), .val (.int i323), .val (.int i324), .val (.int i325), .val (.int i326), .val (.int i327), .val (.int i328), .unset, .unset, .unset, .unset, .unset, .unset] [(.int ((p3.toUInt32 >>> ((8 : Int32) &&& 31).toUInt32).toInt32))])) _
      refine XS.iconst X0.here hx rfl (hb hby at_62) ?_
      show Steps p.tables e below (s₁.setTop (mkF m 63 #[.val (.int p0), .val (.int p1), .val (.int p2), .val (.int p3), .val (.int p4), .val (.int (3 : Int32)), .val (.int i323), .val (.int i324), .val (.int i325), .val (.int i326), .val (.int i327), .val (.int i328), .unset, .unset, .unset, .unset, .unset, .unset] [(.int (3 : Int32)), (.int ((p3.toUInt32 >>> ((8 : Int32) &&& 31).toUInt32).toInt32))])) _
      refine XS.iand X0.here hx rfl (hb hby at_63) rfl ?_
      show Steps p.tables e below (s₁.setTop (mkF m 64 #[.val (.int p0), .val (.int p1), .val (.int p2), .val (.int p3), .val (.int p4), .val (.int (3 : Int32)), .val (.int i323), .val (.int i324), .val (.int i325), .val (.int i326), .val (.int i327), .val (.int i328), .unset, .unset, .unset, .unset, .unset, .unset] [(.int (((p3.toUInt32 >>> ((8 : Int32) &&& 31).toUInt32).toInt32) &&& (3 : Int32)))])) _
      refine XS.iconst X0.here hx rfl (hb hby at_64) ?_
      show Steps p.tables e below (s₁.setTop (mkF m 65 #[.val (.int p0), .val (.int p1), .val (.int p2), .val (.int p3), .val (.int p4), .val (.int (3 : Int32)), .val (.int i323), .val (.int i324), .val (.int i325), .val (.int i326), .val (.int i327), .val (.int i328), .unset, .unset, .unset, .unset, .unset, .unset] [(.int (3 : Int32)), (.int (((p3.toUInt32 >>> ((8 : Int32) &&& 31).toUInt32).toInt32) &&& (3 : Int32)))])) _
      refine iremM X0 hx rfl (hb hby at_65) rfl (by decide) ?_
      rw [← hi329]
      show Steps p.tables e below (s₁.setTop (mkF m 66 #[.val (.int p0), .val (.int p1), .val (.int p2), .val (.int p3), .val (.int p4), .val (.int (3 : Int32)), .val (.int i323), .val (.int i324), .val (.int i325), .val (.int i326), .val (.int i327), .val (.int i328), .unset, .unset, .unset, .unset, .unset, .unset] [(.int i329)])) _
      refine XS.istore X0.here hx rfl (hb hby at_66) rfl (l' := #[.val (.int p0), .val (.int p1), .val (.int p2), .val (.int p3), .val (.int p4), .val (.int (3 : Int32)), .val (.int i323), .val (.int i324), .val (.int i325), .val (.int i326), .val (.int i327), .val (.int i328), .val (.int i329), .unset, .unset, .unset, .unset, .unset]) rfl ?_
      show Steps p.tables e below (s₁.setTop (mkF m 68 #[.val (.int p0), .val (.int p1), .val (.int p2), .val (.int p3), .val (.int p4), .val (.int (3 : Int32)), .val (.int i323), .val (.int i324), .val (.int i325), .val (.int i326), .val (.int i327), .val (.int i328), .val (.int i329), .unset, .unset, .unset, .unset, .unset] [])) _
      refine st330 _ ?_
      show Steps p.tables e below (T330.setTop (mkF m 71 #[.val (.int p0), .val (.int p1), .val (.int p2), .val (.int p3), .val (.int p4), .val (.int (3 : Int32)), .val (.int i323), .val (.int i324), .val (.int i325), .val (.int i326), .val (.int i327), .val (.int i328), .val (.int i329), .unset, .unset, .unset, .unset, .unset] [(.ref b330)])) _
      refine XS.dup X330.here hx rfl (hb hby at_71) rfl rfl ?_
      show Steps p.tables e below (T330.setTop (mkF m 72 #[.val (.int p0), .val (.int p1), .val (.int p2), .val (.int p3), .val (.int p4), .val (.int (3 : Int32)), .val (.int i323), .val (.int i324), .val (.int i325), .val (.int i326), .val (.int i327), .val (.int i328), .val (.int i329), .unset, .unset, .unset, .unset, .unset] [(.ref b330), (.ref b330)])) _
      refine st331.trans ?_
      show Steps p.tables e below (T331.setTop (mkF m 75 #[.val (.int p0), .val (.int p1), .val (.int p2), .val (.int p3), .val (.int p4), .val (.int (3 : Int32)), .val (.int i323), .val (.int i324), .val (.int i325), .val (.int i326), .val (.int i327), .val (.int i328), .val (.int i329), .unset, .unset, .unset, .unset, .unset] [(.ref b330)])) _
      refine XS.astore X331.here hx rfl (hb hby at_75) rfl rfl (l' := #[.val (.int p0), .val (.int p1), .val (.int p2), .val (.int p3), .val (.int p4), .val (.int (3 : Int32)), .val (.int i323), .val (.int i324), .val (.int i325), .val (.int i326), .val (.int i327), .val (.int i328), .val (.int i329), .val (.ref b330), .unset, .unset, .unset, .unset]) rfl ?_
      show Steps p.tables e below (T331.setTop (mkF m 77 #[.val (.int p0), .val (.int p1), .val (.int p2), .val (.int p3), .val (.int p4), .val (.int (3 : Int32)), .val (.int i323), .val (.int i324), .val (.int i325), .val (.int i326), .val (.int i327), .val (.int i328), .val (.int i329), .val (.ref b330), .unset, .unset, .unset, .unset] [])) _
      refine XS.iload X331.here hx rfl (hb hby at_77) rfl ?_
      show Steps p.tables e below (T331.setTop (mkF m 79 #[.val (.int p0), .val (.int p1), .val (.int p2), .val (.int p3), .val (.int p4), .val (.int (3 : Int32)), .val (.int i323), .val (.int i324), .val (.int i325), .val (.int i326), .val (.int i327), .val (.int i328), .val (.int i329), .val (.ref b330), .unset, .unset, .unset, .unset] [(.int p4)])) _
      refine XS.iconst X331.here hx rfl (hb hby at_79) ?_
      show Steps p.tables e below (T331.setTop (mkF m 80 #[.val (.int p0), .val (.int p1), .val (.int p2), .val (.int p3), .val (.int p4), .val (.int (3 : Int32)), .val (.int i323), .val (.int i324), .val (.int i325), .val (.int i326), .val (.int i327), .val (.int i328), .val (.int i329), .val (.ref b330), .unset, .unset, .unset, .unset] [(.int (1 : Int32)), (.int p4)])) _
      refine XS.iand X331.here hx rfl (hb hby at_80) rfl ?_
      exact kt)
    by_cases hc336 : (p4 &&& (1 : Int32)) = (0 : Int32)
    · obtain ⟨_, _, ⟨T337, L337, k337, n337⟩, -, X337, ⟨Lc337, hQ337, l337, y337, z337⟩, st337⟩ := Jvm.LawKit.callS X331 hx (y := (⟨"com/example/rippletide/rippletide/model/StateChangesHashCodePinLaw", "state", "(I)Lcom/example/rippletide/rippletide/model/State;"⟩ : MethodName)) hown (mvT hZ (hw _ (List.mem_of_getElem? (i := 15) rfl))) (mvT hZ (hw _ (List.mem_of_getElem? (i := 16) rfl))) (mvT hZ (hw _ (List.mem_of_getElem? (i := 17) rfl))) (mvT hZ (hw _ (List.mem_of_getElem? (i := 18) rfl))) (by decide) (backOf (W := 2) (rm1 l Z a0 hw [] i326 wSUSCEPTIBLE wRECOVERED wINFECTED T331.heap n0 (Nat.le_trans Z0 KK331.1) (W0.ext EX331) ) hZ (hw _ (List.mem_of_getElem? (i := 18) rfl)) (hw _ (List.mem_of_getElem? (i := 17) rfl)) (by decide) (by decide)) (g := (mkF m 115 #[.val (.int p0), .val (.int p1), .val (.int p2), .val (.int p3), .val (.int p4), .val (.int (3 : Int32)), .val (.int i323), .val (.int i324), .val (.int i325), .val (.int i326), .val (.int i327), .val (.int i328), .val (.int i329), .val (.ref b330), .unset, .unset, .unset, .unset] [(.int i326), (.int i323), (.ref b330)])) rfl (by rw [hml]; rfl) (argsL := [(.int i326)]) (rest := [(.int i323), (.ref b330)]) (lenOf pd_2 rfl) rfl (by show 2 * 0 + _ ≤ _; exact Nat.le_of_eq rfl) (hb hby at_115) (fun _ _ => ⟨rfl, rfl, (by decide : 3 + 0 ≤ _), (by decide : 35 + 0 ≤ _)⟩)
      dsimp only [Pt.U, Pt.locs, Pt.cells, Pt.slots] at X337 l337 y337 z337 st337 hQ337
      subst l337 y337 z337
      unfold Q1 at hQ337
      have k338 : ∀ t, Steps p.tables e below (T331.setTop (mkF m 115 #[.val (.int p0), .val (.int p1), .val (.int p2), .val (.int p3), .val (.int p4), .val (.int (3 : Int32)), .val (.int i323), .val (.int i324), .val (.int i325), .val (.int i326), .val (.int i327), .val (.int i328), .val (.int i329), .val (.ref b330), .unset, .unset, .unset, .unset] [(.int i326), (.int i323), (.ref b330)])) t → Steps p.tables e below (s₁.setTop (entryFrame m #[(.int p0), (.int p1), (.int p2), (.int p3), (.int p4)] maxLocals)) t := fun t kt => k335 t (by
        show Steps p.tables e below (T331.setTop (mkF m 81 #[.val (.int p0), .val (.int p1), .val (.int p2), .val (.int p3), .val (.int p4), .val (.int (3 : Int32)), .val (.int i323), .val (.int i324), .val (.int i325), .val (.int i326), .val (.int i327), .val (.int i328), .val (.int i329), .val (.ref b330), .unset, .unset, .unset, .unset] [(.int (p4 &&& (1 : Int32)))])) _
        refine XS.ifYes X331.here hx rfl (pc0 := 81) (pc' := 103) rfl (hb hby at_81) rfl ((if0 _ _).trans (teq (hc336 : (p4 &&& (1 : Int32)) = (0 : Int32))).1) (by decide) (by decide) ?_
        show Steps p.tables e below (T331.setTop (mkF m 103 #[.val (.int p0), .val (.int p1), .val (.int p2), .val (.int p3), .val (.int p4), .val (.int (3 : Int32)), .val (.int i323), .val (.int i324), .val (.int i325), .val (.int i326), .val (.int i327), .val (.int i328), .val (.int i329), .val (.ref b330), .unset, .unset, .unset, .unset] [])) _
        refine XS.iload X331.here hx rfl (hb hby at_103) rfl ?_
        show Steps p.tables e below (T331.setTop (mkF m 105 #[.val (.int p0), .val (.int p1), .val (.int p2), .val (.int p3), .val (.int p4), .val (.int (3 : Int32)), .val (.int i323), .val (.int i324), .val (.int i325), .val (.int i326), .val (.int i327), .val (.int i328), .val (.int i329), .val (.ref b330), .unset, .unset, .unset, .unset] [(.int (3 : Int32))])) _
        refine XS.iconst X331.here hx rfl (hb hby at_105) ?_
        show Steps p.tables e below (T331.setTop (mkF m 106 #[.val (.int p0), .val (.int p1), .val (.int p2), .val (.int p3), .val (.int p4), .val (.int (3 : Int32)), .val (.int i323), .val (.int i324), .val (.int i325), .val (.int i326), .val (.int i327), .val (.int i328), .val (.int i329), .val (.ref b330), .unset, .unset, .unset, .unset] [(.int (1 : Int32)), (.int (3 : Int32))])) _
        refine XS.icmpNo X331.here hx rfl (hb hby at_106) rfl (flt ((by decide) : ¬ ((3 : Int32) < (1 : Int32)))).1 ?_
        show Steps p.tables e below (T331.setTop (mkF m 109 #[.val (.int p0), .val (.int p1), .val (.int p2), .val (.int p3), .val (.int p4), .val (.int (3 : Int32)), .val (.int i323), .val (.int i324), .val (.int i325), .val (.int i326), .val (.int i327), .val (.int i328), .val (.int i329), .val (.ref b330), .unset, .unset, .unset, .unset] [])) _
        refine XS.aload X331.here hx rfl (hb hby at_109) rfl rfl ?_
        show Steps p.tables e below (T331.setTop (mkF m 111 #[.val (.int p0), .val (.int p1), .val (.int p2), .val (.int p3), .val (.int p4), .val (.int (3 : Int32)), .val (.int i323), .val (.int i324), .val (.int i325), .val (.int i326), .val (.int i327), .val (.int i328), .val (.int i329), .val (.ref b330), .unset, .unset, .unset, .unset] [(.ref b330)])) _
        refine XS.iload X331.here hx rfl (hb hby at_111) rfl ?_
        show Steps p.tables e below (T331.setTop (mkF m 113 #[.val (.int p0), .val (.int p1), .val (.int p2), .val (.int p3), .val (.int p4), .val (.int (3 : Int32)), .val (.int i323), .val (.int i324), .val (.int i325), .val (.int i326), .val (.int i327), .val (.int i328), .val (.int i329), .val (.ref b330), .unset, .unset, .unset, .unset] [(.int i323), (.ref b330)])) _
        refine XS.iload X331.here hx rfl (hb hby at_113) rfl ?_
        exact kt)
      obtain ⟨r339, hr339⟩ : ∃ z, z = (f1 i326 wSUSCEPTIBLE wRECOVERED wINFECTED) := ⟨_, rfl⟩
      rw [← hr339] at hQ337
      obtain ⟨rfl, N337q, e337⟩ := hQ337
      have N337 := Fr.app N331 N337q
      have PFr339 := own_state W0 (own_cs3 hi326)
      rw [← hr339] at PFr339
      obtain ⟨E_r339, F_r339⟩ := PFr339
      obtain ⟨cq340, kq340, q340a, q340b, q340c⟩ := isOf hZ e337 E_b330_331
      obtain ⟨_, _, ⟨T340, L340, k340, n340⟩, -, X340, ⟨Lc340, hQ340, l340, y340, z340⟩, st340⟩ := X337.virtualBack hx (y := (⟨"com/example/rippletide/rippletide/model/StateChanges", "add", "(ILcom/example/rippletide/rippletide/model/State;)V"⟩ : MethodName)) (z := (⟨"com/example/rippletide/rippletide/model/StateChanges", "add", "(ILcom/example/rippletide/rippletide/model/State;)V"⟩ : MethodName)) hown (mvT hZ (hw _ (List.mem_of_getElem? (i := 22) rfl))) (mvT hZ (hw _ (List.mem_of_getElem? (i := 23) rfl))) (notFace_of_selects (args := #[]) (mvT hZ (hw _ (List.mem_of_getElem? (i := 25) rfl)))) (mvT hZ (hw _ (List.mem_of_getElem? (i := 25) rfl))) (mvT hZ (hw _ (List.mem_of_getElem? (i := 24) rfl))) (by decide) (backOf (W := 0) (rm4 l Z a0 hw [] b330 i323 r339 b_vertices_331 k_vertices_331 (0 : Int32) (0 : Int32) (0 : Int32) b_states_331 k_states_331 (0 : Int32) (0 : Int32) (0 : Int32) i326 wSUSCEPTIBLE wRECOVERED wINFECTED h0 T331.heap n0 (Nat.le_trans Z0 KK331.1) W0 EX331 Zs ⟨E_b330_331, g_b330_331, G_b330_vertices_331, G_b330_states_331, G_b330_count_331, g_b330_vertices_331, ne_b330_vertices_331, V_b330_vertices_331, g_b330_states_331, ne_b330_states_331, V_b330_states_331, nn_b330_vertices_states_331, trivial⟩ F_r339 E_r339 A1) hZ (hw _ (List.mem_of_getElem? (i := 26) rfl)) (hw _ (List.mem_of_getElem? (i := 2) rfl)) (by decide) (by decide)) q340a q340c (g := (mkF m 118 #[.val (.int p0), .val (.int p1), .val (.int p2), .val (.int p3), .val (.int p4), .val (.int (3 : Int32)), .val (.int i323), .val (.int i324), .val (.int i325), .val (.int i326), .val (.int i327), .val (.int i328), .val (.int i329), .val (.ref b330), .unset, .unset, .unset, .unset] [(.ref r339), (.int i323), (.ref b330)])) rfl (by rw [hml]; rfl) (Steps.refl _) (argsL := [(.int i323), (.ref r339)]) (rest := []) (lenOf pd_3 rfl) rfl (by show 2 * 0 + _ ≤ _; exact Nat.le_of_eq rfl) (hb hby at_118) (fun _ _ => ⟨rfl, e337, (by decide : 3 + 0 ≤ _), (by decide : 35 + 0 ≤ _)⟩)
      dsimp only [Pt.U, Pt.locs, Pt.cells, Pt.slots] at X340 l340 y340 z340 st340 hQ340
      subst l340 y340 z340
      unfold Q4 at hQ340
      have k341 : ∀ t, Steps p.tables e below (T337.setTop (mkF m 118 #[.val (.int p0), .val (.int p1), .val (.int p2), .val (.int p3), .val (.int p4), .val (.int (3 : Int32)), .val (.int i323), .val (.int i324), .val (.int i325), .val (.int i326), .val (.int i327), .val (.int i328), .val (.int i329), .val (.ref b330), .unset, .unset, .unset, .unset] [(.ref r339), (.int i323), (.ref b330)])) t → Steps p.tables e below (s₁.setTop (entryFrame m #[(.int p0), (.int p1), (.int p2), (.int p3), (.int p4)] maxLocals)) t := fun t kt => k338 t (by
        show Steps p.tables e below (T331.setTop (mkF m 115 #[.val (.int p0), .val (.int p1), .val (.int p2), .val (.int p3), .val (.int p4), .val (.int (3 : Int32)), .val (.int i323), .val (.int i324), .val (.int i325), .val (.int i326), .val (.int i327), .val (.int i328), .val (.int i329), .val (.ref b330), .unset, .unset, .unset, .unset] [(.int i326), (.int i323), (.ref b330)])) _
        refine st337 _ ?_
        exact kt)
      obtain ⟨rfl, N340q, EXc340, Kc340, OB340_p0⟩ := hQ340
      have N340 := Fr.app N337 N340q
      have EX340 : Ext h0 T340.heap := EXc340
      have KK340 : Keep h0 T340.heap ([] : List Addr) := Keep.trans KK331 Kc340 (allS (Or.inr (Nat.le_trans Zs g_b330_vertices_331)) (allS (Or.inr (Nat.le_trans Zs g_b330_states_331)) (allS (Or.inr (Nat.le_trans Zs g_b330_331)) all0)))
      have OBx340_p0 : Obj Z T340.heap n0 b330 b_vertices_331 k_vertices_331 i323 (0 : Int32) (0 : Int32) b_states_331 k_states_331 (i326.toInt8.toInt32) (0 : Int32) (0 : Int32) (1 : Int32) := OB340_p0
      obtain ⟨E_b330_340, g_b330_340, G_b330_vertices_340, G_b330_states_340, G_b330_count_340, g_b330_vertices_340, ne_b330_vertices_340, V_b330_vertices_340, g_b330_states_340, ne_b330_states_340, V_b330_states_340, nn_b330_vertices_states_340, -⟩ := OBx340_p0
      obtain ⟨_, _, ⟨T343, L343, k343, n343⟩, -, X343, ⟨Lc343, hQ343, l343, y343, z343⟩, st343⟩ := Jvm.LawKit.callS X340 hx (y := (⟨"com/example/rippletide/rippletide/model/StateChangesHashCodePinLaw", "state", "(I)Lcom/example/rippletide/rippletide/model/State;"⟩ : MethodName)) hown (mvT hZ (hw _ (List.mem_of_getElem? (i := 15) rfl))) (mvT hZ (hw _ (List.mem_of_getElem? (i := 16) rfl))) (mvT hZ (hw _ (List.mem_of_getElem? (i := 17) rfl))) (mvT hZ (hw _ (List.mem_of_getElem? (i := 18) rfl))) (by decide) (backOf (W := 2) (rm1 l Z a0 hw [] i327 wSUSCEPTIBLE wRECOVERED wINFECTED T340.heap n0 (Nat.le_trans Z0 KK340.1) (W0.ext EX340) ) hZ (hw _ (List.mem_of_getElem? (i := 18) rfl)) (hw _ (List.mem_of_getElem? (i := 17) rfl)) (by decide) (by decide)) (g := (mkF m 133 #[.val (.int p0), .val (.int p1), .val (.int p2), .val (.int p3), .val (.int p4), .val (.int (3 : Int32)), .val (.int i323), .val (.int i324), .val (.int i325), .val (.int i326), .val (.int i327), .val (.int i328), .val (.int i329), .val (.ref b330), .unset, .unset, .unset, .unset] [(.int i327), (.int i324), (.ref b330)])) rfl (by rw [hml]; rfl) (argsL := [(.int i327)]) (rest := [(.int i324), (.ref b330)]) (lenOf pd_2 rfl) rfl (by show 2 * 0 + _ ≤ _; exact Nat.le_of_eq rfl) (hb hby at_133) (fun _ _ => ⟨rfl, rfl, (by decide : 3 + 0 ≤ _), (by decide : 35 + 0 ≤ _)⟩)
      dsimp only [Pt.U, Pt.locs, Pt.cells, Pt.slots] at X343 l343 y343 z343 st343 hQ343
      subst l343 y343 z343
      unfold Q1 at hQ343
      have k344 : ∀ t, Steps p.tables e below (T340.setTop (mkF m 133 #[.val (.int p0), .val (.int p1), .val (.int p2), .val (.int p3), .val (.int p4), .val (.int (3 : Int32)), .val (.int i323), .val (.int i324), .val (.int i325), .val (.int i326), .val (.int i327), .val (.int i328), .val (.int i329), .val (.ref b330), .unset, .unset, .unset, .unset] [(.int i327), (.int i324), (.ref b330)])) t → Steps p.tables e below (s₁.setTop (entryFrame m #[(.int p0), (.int p1), (.int p2), (.int p3), (.int p4)] maxLocals)) t := fun t kt => k341 t (by
        show Steps p.tables e below (T337.setTop (mkF m 118 #[.val (.int p0), .val (.int p1), .val (.int p2), .val (.int p3), .val (.int p4), .val (.int (3 : Int32)), .val (.int i323), .val (.int i324), .val (.int i325), .val (.int i326), .val (.int i327), .val (.int i328), .val (.int i329), .val (.ref b330), .unset, .unset, .unset, .unset] [(.ref r339), (.int i323), (.ref b330)])) _
        refine st340.trans ?_
        show Steps p.tables e below (T340.setTop (mkF m 121 #[.val (.int p0), .val (.int p1), .val (.int p2), .val (.int p3), .val (.int p4), .val (.int (3 : Int32)), .val (.int i323), .val (.int i324), .val (.int i325), .val (.int i326), .val (.int i327), .val (.int i328), .val (.int i329), .val (.ref b330), .unset, .unset, .unset, .unset] [])) _
        refine XS.iload X340.here hx rfl (hb hby at_121) rfl ?_
        show Steps p.tables e below (T340.setTop (mkF m 123 #[.val (.int p0), .val (.int p1), .val (.int p2), .val (.int p3), .val (.int p4), .val (.int (3 : Int32)), .val (.int i323), .val (.int i324), .val (.int i325), .val (.int i326), .val (.int i327), .val (.int i328), .val (.int i329), .val (.ref b330), .unset, .unset, .unset, .unset] [(.int (3 : Int32))])) _
        refine XS.iconst X340.here hx rfl (hb hby at_123) ?_
        show Steps p.tables e below (T340.setTop (mkF m 124 #[.val (.int p0), .val (.int p1), .val (.int p2), .val (.int p3), .val (.int p4), .val (.int (3 : Int32)), .val (.int i323), .val (.int i324), .val (.int i325), .val (.int i326), .val (.int i327), .val (.int i328), .val (.int i329), .val (.ref b330), .unset, .unset, .unset, .unset] [(.int (2 : Int32)), (.int (3 : Int32))])) _
        refine XS.icmpNo X340.here hx rfl (hb hby at_124) rfl (flt ((by decide) : ¬ ((3 : Int32) < (2 : Int32)))).1 ?_
        show Steps p.tables e below (T340.setTop (mkF m 127 #[.val (.int p0), .val (.int p1), .val (.int p2), .val (.int p3), .val (.int p4), .val (.int (3 : Int32)), .val (.int i323), .val (.int i324), .val (.int i325), .val (.int i326), .val (.int i327), .val (.int i328), .val (.int i329), .val (.ref b330), .unset, .unset, .unset, .unset] [])) _
        refine XS.aload X340.here hx rfl (hb hby at_127) rfl rfl ?_
        show Steps p.tables e below (T340.setTop (mkF m 129 #[.val (.int p0), .val (.int p1), .val (.int p2), .val (.int p3), .val (.int p4), .val (.int (3 : Int32)), .val (.int i323), .val (.int i324), .val (.int i325), .val (.int i326), .val (.int i327), .val (.int i328), .val (.int i329), .val (.ref b330), .unset, .unset, .unset, .unset] [(.ref b330)])) _
        refine XS.iload X340.here hx rfl (hb hby at_129) rfl ?_
        show Steps p.tables e below (T340.setTop (mkF m 131 #[.val (.int p0), .val (.int p1), .val (.int p2), .val (.int p3), .val (.int p4), .val (.int (3 : Int32)), .val (.int i323), .val (.int i324), .val (.int i325), .val (.int i326), .val (.int i327), .val (.int i328), .val (.int i329), .val (.ref b330), .unset, .unset, .unset, .unset] [(.int i324), (.ref b330)])) _
        refine XS.iload X340.here hx rfl (hb hby at_131) rfl ?_
        exact kt)
      obtain ⟨r345, hr345⟩ : ∃ z, z = (f1 i327 wSUSCEPTIBLE wRECOVERED wINFECTED) := ⟨_, rfl⟩
      rw [← hr345] at hQ343
      obtain ⟨rfl, N343q, e343⟩ := hQ343
      have N343 := Fr.app N340 N343q
      have PFr345 := own_state W0 (own_cs3 hi327)
      rw [← hr345] at PFr345
      obtain ⟨E_r345, F_r345⟩ := PFr345
      obtain ⟨cq346, kq346, q346a, q346b, q346c⟩ := isOf hZ e343 E_b330_340
      obtain ⟨_, _, ⟨T346, L346, k346, n346⟩, -, X346, ⟨Lc346, hQ346, l346, y346, z346⟩, st346⟩ := X343.virtualBack hx (y := (⟨"com/example/rippletide/rippletide/model/StateChanges", "add", "(ILcom/example/rippletide/rippletide/model/State;)V"⟩ : MethodName)) (z := (⟨"com/example/rippletide/rippletide/model/StateChanges", "add", "(ILcom/example/rippletide/rippletide/model/State;)V"⟩ : MethodName)) hown (mvT hZ (hw _ (List.mem_of_getElem? (i := 22) rfl))) (mvT hZ (hw _ (List.mem_of_getElem? (i := 23) rfl))) (notFace_of_selects (args := #[]) (mvT hZ (hw _ (List.mem_of_getElem? (i := 25) rfl)))) (mvT hZ (hw _ (List.mem_of_getElem? (i := 25) rfl))) (mvT hZ (hw _ (List.mem_of_getElem? (i := 24) rfl))) (by decide) (backOf (W := 0) (rm5 l Z a0 hw [] b330 i324 r345 b_vertices_331 k_vertices_331 i323 (0 : Int32) (0 : Int32) b_states_331 k_states_331 (i326.toInt8.toInt32) (0 : Int32) (0 : Int32) i327 wSUSCEPTIBLE wRECOVERED wINFECTED h0 T340.heap n0 (Nat.le_trans Z0 KK340.1) W0 EX340 Zs ⟨E_b330_340, g_b330_340, G_b330_vertices_340, G_b330_states_340, G_b330_count_340, g_b330_vertices_340, ne_b330_vertices_340, V_b330_vertices_340, g_b330_states_340, ne_b330_states_340, V_b330_states_340, nn_b330_vertices_states_340, trivial⟩ F_r345 E_r345 A3 A2) hZ (hw _ (List.mem_of_getElem? (i := 26) rfl)) (hw _ (List.mem_of_getElem? (i := 2) rfl)) (by decide) (by decide)) q346a q346c (g := (mkF m 136 #[.val (.int p0), .val (.int p1), .val (.int p2), .val (.int p3), .val (.int p4), .val (.int (3 : Int32)), .val (.int i323), .val (.int i324), .val (.int i325), .val (.int i326), .val (.int i327), .val (.int i328), .val (.int i329), .val (.ref b330), .unset, .unset, .unset, .unset] [(.ref r345), (.int i324), (.ref b330)])) rfl (by rw [hml]; rfl) (Steps.refl _) (argsL := [(.int i324), (.ref r345)]) (rest := []) (lenOf pd_3 rfl) rfl (by show 2 * 0 + _ ≤ _; exact Nat.le_of_eq rfl) (hb hby at_136) (fun _ _ => ⟨rfl, e343, (by decide : 3 + 0 ≤ _), (by decide : 35 + 0 ≤ _)⟩)
      dsimp only [Pt.U, Pt.locs, Pt.cells, Pt.slots] at X346 l346 y346 z346 st346 hQ346
      subst l346 y346 z346
      unfold Q5 at hQ346
      have k347 : ∀ t, Steps p.tables e below (T343.setTop (mkF m 136 #[.val (.int p0), .val (.int p1), .val (.int p2), .val (.int p3), .val (.int p4), .val (.int (3 : Int32)), .val (.int i323), .val (.int i324), .val (.int i325), .val (.int i326), .val (.int i327), .val (.int i328), .val (.int i329), .val (.ref b330), .unset, .unset, .unset, .unset] [(.ref r345), (.int i324), (.ref b330)])) t → Steps p.tables e below (s₁.setTop (entryFrame m #[(.int p0), (.int p1), (.int p2), (.int p3), (.int p4)] maxLocals)) t := fun t kt => k344 t (by
        show Steps p.tables e below (T340.setTop (mkF m 133 #[.val (.int p0), .val (.int p1), .val (.int p2), .val (.int p3), .val (.int p4), .val (.int (3 : Int32)), .val (.int i323), .val (.int i324), .val (.int i325), .val (.int i326), .val (.int i327), .val (.int i328), .val (.int i329), .val (.ref b330), .unset, .unset, .unset, .unset] [(.int i327), (.int i324), (.ref b330)])) _
        refine st343 _ ?_
        exact kt)
      obtain ⟨rfl, N346q, EXc346, Kc346, OB346_p0⟩ := hQ346
      have N346 := Fr.app N343 N346q
      have EX346 : Ext h0 T346.heap := EXc346
      have KK346 : Keep h0 T346.heap ([] : List Addr) := Keep.trans KK340 Kc346 (allS (Or.inr (Nat.le_trans Zs g_b330_vertices_340)) (allS (Or.inr (Nat.le_trans Zs g_b330_states_340)) (allS (Or.inr (Nat.le_trans Zs g_b330_340)) all0)))
      have OBx346_p0 : Obj Z T346.heap n0 b330 b_vertices_331 k_vertices_331 i323 i324 (0 : Int32) b_states_331 k_states_331 (i326.toInt8.toInt32) (i327.toInt8.toInt32) (0 : Int32) (2 : Int32) := OB346_p0
      obtain ⟨E_b330_346, g_b330_346, G_b330_vertices_346, G_b330_states_346, G_b330_count_346, g_b330_vertices_346, ne_b330_vertices_346, V_b330_vertices_346, g_b330_states_346, ne_b330_states_346, V_b330_states_346, nn_b330_vertices_states_346, -⟩ := OBx346_p0
      obtain ⟨_, _, ⟨T349, L349, k349, n349⟩, -, X349, ⟨Lc349, hQ349, l349, y349, z349⟩, st349⟩ := Jvm.LawKit.callS X346 hx (y := (⟨"com/example/rippletide/rippletide/model/StateChangesHashCodePinLaw", "state", "(I)Lcom/example/rippletide/rippletide/model/State;"⟩ : MethodName)) hown (mvT hZ (hw _ (List.mem_of_getElem? (i := 15) rfl))) (mvT hZ (hw _ (List.mem_of_getElem? (i := 16) rfl))) (mvT hZ (hw _ (List.mem_of_getElem? (i := 17) rfl))) (mvT hZ (hw _ (List.mem_of_getElem? (i := 18) rfl))) (by decide) (backOf (W := 2) (rm1 l Z a0 hw [] i328 wSUSCEPTIBLE wRECOVERED wINFECTED T346.heap n0 (Nat.le_trans Z0 KK346.1) (W0.ext EX346) ) hZ (hw _ (List.mem_of_getElem? (i := 18) rfl)) (hw _ (List.mem_of_getElem? (i := 17) rfl)) (by decide) (by decide)) (g := (mkF m 151 #[.val (.int p0), .val (.int p1), .val (.int p2), .val (.int p3), .val (.int p4), .val (.int (3 : Int32)), .val (.int i323), .val (.int i324), .val (.int i325), .val (.int i326), .val (.int i327), .val (.int i328), .val (.int i329), .val (.ref b330), .unset, .unset, .unset, .unset] [(.int i328), (.int i325), (.ref b330)])) rfl (by rw [hml]; rfl) (argsL := [(.int i328)]) (rest := [(.int i325), (.ref b330)]) (lenOf pd_2 rfl) rfl (by show 2 * 0 + _ ≤ _; exact Nat.le_of_eq rfl) (hb hby at_151) (fun _ _ => ⟨rfl, rfl, (by decide : 3 + 0 ≤ _), (by decide : 35 + 0 ≤ _)⟩)
      dsimp only [Pt.U, Pt.locs, Pt.cells, Pt.slots] at X349 l349 y349 z349 st349 hQ349
      subst l349 y349 z349
      unfold Q1 at hQ349
      have k350 : ∀ t, Steps p.tables e below (T346.setTop (mkF m 151 #[.val (.int p0), .val (.int p1), .val (.int p2), .val (.int p3), .val (.int p4), .val (.int (3 : Int32)), .val (.int i323), .val (.int i324), .val (.int i325), .val (.int i326), .val (.int i327), .val (.int i328), .val (.int i329), .val (.ref b330), .unset, .unset, .unset, .unset] [(.int i328), (.int i325), (.ref b330)])) t → Steps p.tables e below (s₁.setTop (entryFrame m #[(.int p0), (.int p1), (.int p2), (.int p3), (.int p4)] maxLocals)) t := fun t kt => k347 t (by
        show Steps p.tables e below (T343.setTop (mkF m 136 #[.val (.int p0), .val (.int p1), .val (.int p2), .val (.int p3), .val (.int p4), .val (.int (3 : Int32)), .val (.int i323), .val (.int i324), .val (.int i325), .val (.int i326), .val (.int i327), .val (.int i328), .val (.int i329), .val (.ref b330), .unset, .unset, .unset, .unset] [(.ref r345), (.int i324), (.ref b330)])) _
        refine st346.trans ?_
        show Steps p.tables e below (T346.setTop (mkF m 139 #[.val (.int p0), .val (.int p1), .val (.int p2), .val (.int p3), .val (.int p4), .val (.int (3 : Int32)), .val (.int i323), .val (.int i324), .val (.int i325), .val (.int i326), .val (.int i327), .val (.int i328), .val (.int i329), .val (.ref b330), .unset, .unset, .unset, .unset] [])) _
        refine XS.iload X346.here hx rfl (hb hby at_139) rfl ?_
        show Steps p.tables e below (T346.setTop (mkF m 141 #[.val (.int p0), .val (.int p1), .val (.int p2), .val (.int p3), .val (.int p4), .val (.int (3 : Int32)), .val (.int i323), .val (.int i324), .val (.int i325), .val (.int i326), .val (.int i327), .val (.int i328), .val (.int i329), .val (.ref b330), .unset, .unset, .unset, .unset] [(.int (3 : Int32))])) _
        refine XS.iconst X346.here hx rfl (hb hby at_141) ?_
        show Steps p.tables e below (T346.setTop (mkF m 142 #[.val (.int p0), .val (.int p1), .val (.int p2), .val (.int p3), .val (.int p4), .val (.int (3 : Int32)), .val (.int i323), .val (.int i324), .val (.int i325), .val (.int i326), .val (.int i327), .val (.int i328), .val (.int i329), .val (.ref b330), .unset, .unset, .unset, .unset] [(.int (3 : Int32)), (.int (3 : Int32))])) _
        refine XS.icmpNo X346.here hx rfl (hb hby at_142) rfl (flt ((by first | exact Int32.lt_irrefl _ | decide) : ¬ ((3 : Int32) < (3 : Int32)))).1 ?_
        show Steps p.tables e below (T346.setTop (mkF m 145 #[.val (.int p0), .val (.int p1), .val (.int p2), .val (.int p3), .val (.int p4), .val (.int (3 : Int32)), .val (.int i323), .val (.int i324), .val (.int i325), .val (.int i326), .val (.int i327), .val (.int i328), .val (.int i329), .val (.ref b330), .unset, .unset, .unset, .unset] [])) _
        refine XS.aload X346.here hx rfl (hb hby at_145) rfl rfl ?_
        show Steps p.tables e below (T346.setTop (mkF m 147 #[.val (.int p0), .val (.int p1), .val (.int p2), .val (.int p3), .val (.int p4), .val (.int (3 : Int32)), .val (.int i323), .val (.int i324), .val (.int i325), .val (.int i326), .val (.int i327), .val (.int i328), .val (.int i329), .val (.ref b330), .unset, .unset, .unset, .unset] [(.ref b330)])) _
        refine XS.iload X346.here hx rfl (hb hby at_147) rfl ?_
        show Steps p.tables e below (T346.setTop (mkF m 149 #[.val (.int p0), .val (.int p1), .val (.int p2), .val (.int p3), .val (.int p4), .val (.int (3 : Int32)), .val (.int i323), .val (.int i324), .val (.int i325), .val (.int i326), .val (.int i327), .val (.int i328), .val (.int i329), .val (.ref b330), .unset, .unset, .unset, .unset] [(.int i325), (.ref b330)])) _
        refine XS.iload X346.here hx rfl (hb hby at_149) rfl ?_
        exact kt)
      obtain ⟨r351, hr351⟩ : ∃ z, z = (f1 i328 wSUSCEPTIBLE wRECOVERED wINFECTED) := ⟨_, rfl⟩
      rw [← hr351] at hQ349
      obtain ⟨rfl, N349q, e349⟩ := hQ349
      have N349 := Fr.app N346 N349q
      have PFr351 := own_state W0 (own_cs3 hi328)
      rw [← hr351] at PFr351
      obtain ⟨E_r351, F_r351⟩ := PFr351
      obtain ⟨cq352, kq352, q352a, q352b, q352c⟩ := isOf hZ e349 E_b330_346
      obtain ⟨_, _, ⟨T352, L352, k352, n352⟩, -, X352, ⟨Lc352, hQ352, l352, y352, z352⟩, st352⟩ := X349.virtualBack hx (y := (⟨"com/example/rippletide/rippletide/model/StateChanges", "add", "(ILcom/example/rippletide/rippletide/model/State;)V"⟩ : MethodName)) (z := (⟨"com/example/rippletide/rippletide/model/StateChanges", "add", "(ILcom/example/rippletide/rippletide/model/State;)V"⟩ : MethodName)) hown (mvT hZ (hw _ (List.mem_of_getElem? (i := 22) rfl))) (mvT hZ (hw _ (List.mem_of_getElem? (i := 23) rfl))) (notFace_of_selects (args := #[]) (mvT hZ (hw _ (List.mem_of_getElem? (i := 25) rfl)))) (mvT hZ (hw _ (List.mem_of_getElem? (i := 25) rfl))) (mvT hZ (hw _ (List.mem_of_getElem? (i := 24) rfl))) (by decide) (backOf (W := 0) (rm6 l Z a0 hw [] b330 i325 r351 b_vertices_331 k_vertices_331 i323 i324 (0 : Int32) b_states_331 k_states_331 (i326.toInt8.toInt32) (i327.toInt8.toInt32) (0 : Int32) i328 wSUSCEPTIBLE wRECOVERED wINFECTED h0 T346.heap n0 (Nat.le_trans Z0 KK346.1) W0 EX346 Zs ⟨E_b330_346, g_b330_346, G_b330_vertices_346, G_b330_states_346, G_b330_count_346, g_b330_vertices_346, ne_b330_vertices_346, V_b330_vertices_346, g_b330_states_346, ne_b330_states_346, V_b330_states_346, nn_b330_vertices_states_346, trivial⟩ F_r351 E_r351 A5 A4) hZ (hw _ (List.mem_of_getElem? (i := 26) rfl)) (hw _ (List.mem_of_getElem? (i := 2) rfl)) (by decide) (by decide)) q352a q352c (g := (mkF m 154 #[.val (.int p0), .val (.int p1), .val (.int p2), .val (.int p3), .val (.int p4), .val (.int (3 : Int32)), .val (.int i323), .val (.int i324), .val (.int i325), .val (.int i326), .val (.int i327), .val (.int i328), .val (.int i329), .val (.ref b330), .unset, .unset, .unset, .unset] [(.ref r351), (.int i325), (.ref b330)])) rfl (by rw [hml]; rfl) (Steps.refl _) (argsL := [(.int i325), (.ref r351)]) (rest := []) (lenOf pd_3 rfl) rfl (by show 2 * 0 + _ ≤ _; exact Nat.le_of_eq rfl) (hb hby at_154) (fun _ _ => ⟨rfl, e349, (by decide : 3 + 0 ≤ _), (by decide : 35 + 0 ≤ _)⟩)
      dsimp only [Pt.U, Pt.locs, Pt.cells, Pt.slots] at X352 l352 y352 z352 st352 hQ352
      subst l352 y352 z352
      unfold Q6 at hQ352
      have k353 : ∀ t, Steps p.tables e below (T349.setTop (mkF m 154 #[.val (.int p0), .val (.int p1), .val (.int p2), .val (.int p3), .val (.int p4), .val (.int (3 : Int32)), .val (.int i323), .val (.int i324), .val (.int i325), .val (.int i326), .val (.int i327), .val (.int i328), .val (.int i329), .val (.ref b330), .unset, .unset, .unset, .unset] [(.ref r351), (.int i325), (.ref b330)])) t → Steps p.tables e below (s₁.setTop (entryFrame m #[(.int p0), (.int p1), (.int p2), (.int p3), (.int p4)] maxLocals)) t := fun t kt => k350 t (by
        show Steps p.tables e below (T346.setTop (mkF m 151 #[.val (.int p0), .val (.int p1), .val (.int p2), .val (.int p3), .val (.int p4), .val (.int (3 : Int32)), .val (.int i323), .val (.int i324), .val (.int i325), .val (.int i326), .val (.int i327), .val (.int i328), .val (.int i329), .val (.ref b330), .unset, .unset, .unset, .unset] [(.int i328), (.int i325), (.ref b330)])) _
        refine st349 _ ?_
        exact kt)
      obtain ⟨rfl, N352q, EXc352, Kc352, OB352_p0⟩ := hQ352
      have N352 := Fr.app N349 N352q
      have EX352 : Ext h0 T352.heap := EXc352
      have KK352 : Keep h0 T352.heap ([] : List Addr) := Keep.trans KK346 Kc352 (allS (Or.inr (Nat.le_trans Zs g_b330_vertices_346)) (allS (Or.inr (Nat.le_trans Zs g_b330_states_346)) (allS (Or.inr (Nat.le_trans Zs g_b330_346)) all0)))
      have OBx352_p0 : Obj Z T352.heap n0 b330 b_vertices_331 k_vertices_331 i323 i324 i325 b_states_331 k_states_331 (i326.toInt8.toInt32) (i327.toInt8.toInt32) (i328.toInt8.toInt32) (3 : Int32) := OB352_p0
      obtain ⟨E_b330_352, g_b330_352, G_b330_vertices_352, G_b330_states_352, G_b330_count_352, g_b330_vertices_352, ne_b330_vertices_352, V_b330_vertices_352, g_b330_states_352, ne_b330_states_352, V_b330_states_352, nn_b330_vertices_states_352, -⟩ := OBx352_p0
      obtain ⟨i355, hi355⟩ : ∃ z, z = (((31 : Int32) * i323) + i326) := ⟨_, rfl⟩
      obtain ⟨i356, hi356⟩ : ∃ z, z = (((31 : Int32) * i324) + i327) := ⟨_, rfl⟩
      obtain ⟨i357, hi357⟩ : ∃ z, z = (((31 : Int32) * i325) + i328) := ⟨_, rfl⟩
      obtain ⟨i358, hi358⟩ : ∃ z, z = ((((887503681 : Int32) + ((923521 : Int32) * i355)) + ((961 : Int32) * i356)) + i357) := ⟨_, rfl⟩
      obtain ⟨cq359, kq359, q359a, q359b, q359c⟩ := isOf hZ rfl E_b330_352
      obtain ⟨_, _, ⟨T359, L359, k359, n359⟩, -, X359, ⟨Lc359, hQ359, l359, y359, z359⟩, st359⟩ := X352.virtualBack hx (y := (⟨"com/example/rippletide/rippletide/model/StateChanges", "hashCode", "()I"⟩ : MethodName)) (z := (⟨"com/example/rippletide/rippletide/model/StateChanges", "hashCode", "()I"⟩ : MethodName)) hown (mvT hZ (hw _ (List.mem_of_getElem? (i := 38) rfl))) (mvT hZ (hw _ (List.mem_of_getElem? (i := 39) rfl))) (notFace_of_selects (args := #[]) (mvT hZ (hw _ (List.mem_of_getElem? (i := 41) rfl)))) (mvT hZ (hw _ (List.mem_of_getElem? (i := 41) rfl))) (mvT hZ (hw _ (List.mem_of_getElem? (i := 40) rfl))) (by decide) (backOf (W := 0) (rm11 l Z a0 hw [] b330 b_vertices_331 k_vertices_331 i323 i324 i325 b_states_331 k_states_331 (i326.toInt8.toInt32) (i327.toInt8.toInt32) (i328.toInt8.toInt32) wSUSCEPTIBLE wRECOVERED wINFECTED h0 T352.heap n0 (Nat.le_trans Z0 KK352.1) W0 EX352 Zs ⟨E_b330_352, g_b330_352, G_b330_vertices_352, G_b330_states_352, G_b330_count_352, g_b330_vertices_352, ne_b330_vertices_352, V_b330_vertices_352, g_b330_states_352, ne_b330_states_352, V_b330_states_352, nn_b330_vertices_states_352, trivial⟩ ) hZ (hw _ (List.mem_of_getElem? (i := 42) rfl)) (hw _ (List.mem_of_getElem? (i := 2) rfl)) (by decide) (by decide)) q359a q359c (g := (mkF m 260 #[.val (.int p0), .val (.int p1), .val (.int p2), .val (.int p3), .val (.int p4), .val (.int (3 : Int32)), .val (.int i323), .val (.int i324), .val (.int i325), .val (.int i326), .val (.int i327), .val (.int i328), .val (.int i329), .val (.ref b330), .val (.int i355), .val (.int i356), .val (.int i357), .val (.int i358)] [(.ref b330)])) rfl (by rw [hml]; rfl) (Steps.refl _) (argsL := []) (rest := []) (lenOf pd_0 rfl) rfl (by show 2 * 0 + _ ≤ _; exact Nat.le_of_eq rfl) (hb hby at_260) (fun _ _ => ⟨rfl, rfl, (by decide : 3 + 0 ≤ _), (by decide : 35 + 0 ≤ _)⟩)
      dsimp only [Pt.U, Pt.locs, Pt.cells, Pt.slots] at X359 l359 y359 z359 st359 hQ359
      subst l359 y359 z359
      unfold Q11 at hQ359
      have k360 : ∀ t, Steps p.tables e below (T352.setTop (mkF m 260 #[.val (.int p0), .val (.int p1), .val (.int p2), .val (.int p3), .val (.int p4), .val (.int (3 : Int32)), .val (.int i323), .val (.int i324), .val (.int i325), .val (.int i326), .val (.int i327), .val (.int i328), .val (.int i329), .val (.ref b330), .val (.int i355), .val (.int i356), .val (.int i357), .val (.int i358)] [(.ref b330)])) t → Steps p.tables e below (s₁.setTop (entryFrame m #[(.int p0), (.int p1), (.int p2), (.int p3), (.int p4)] maxLocals)) t := fun t kt => k353 t (by
        show Steps p.tables e below (T349.setTop (mkF m 154 #[.val (.int p0), .val (.int p1), .val (.int p2), .val (.int p3), .val (.int p4), .val (.int (3 : Int32)), .val (.int i323), .val (.int i324), .val (.int i325), .val (.int i326), .val (.int i327), .val (.int i328), .val (.int i329), .val (.ref b330), .unset, .unset, .unset, .unset] [(.ref r351), (.int i325), (.ref b330)])) _
        refine st352.trans ?_
        show Steps p.tables e below (T352.setTop (mkF m 157 #[.val (.int p0), .val (.int p1), .val (.int p2), .val (.int p3), .val (.int p4), .val (.int (3 : Int32)), .val (.int i323), .val (.int i324), .val (.int i325), .val (.int i326), .val (.int i327), .val (.int i328), .val (.int i329), .val (.ref b330), .unset, .unset, .unset, .unset] [])) _
        refine XS.bipush X352.here hx rfl (hb hby at_157) ?_
        show Steps p.tables e below (T352.setTop (mkF m 159 #[.val (.int p0), .val (.int p1), .val (.int p2), .val (.int p3), .val (.int p4), .val (.int (3 : Int32)), .val (.int i323), .val (.int i324), .val (.int i325), .val (.int i326), .val (.int i327), .val (.int i328), .val (.int i329), .val (.ref b330), .unset, .unset, .unset, .unset] [(.int (31 : Int32))])) _
        refine XS.iload X352.here hx rfl (hb hby at_159) rfl ?_
        show Steps p.tables e below (T352.setTop (mkF m 161 #[.val (.int p0), .val (.int p1), .val (.int p2), .val (.int p3), .val (.int p4), .val (.int (3 : Int32)), .val (.int i323), .val (.int i324), .val (.int i325), .val (.int i326), .val (.int i327), .val (.int i328), .val (.int i329), .val (.ref b330), .unset, .unset, .unset, .unset] [(.int i323), (.int (31 : Int32))])) _
        refine XS.imul X352.here hx rfl (hb hby at_161) rfl ?_
        show Steps p.tables e below (T352.setTop (mkF m 162 #[.val (.int p0), .val (.int p1), .val (.int p2), .val (.int p3), .val (.int p4), .val (.int (3 : Int32)), .val (.int i323), .val (.int i324), .val (.int i325), .val (.int i326), .val (.int i327), .val (.int i328), .val (.int i329), .val (.ref b330), .unset, .unset, .unset, .unset] [(.int ((31 : Int32) * i323))])) _
        refine XS.iload X352.here hx rfl (hb hby at_162) rfl ?_
        show Steps p.tables e below (T352.setTop (mkF m 164 #[.val (.int p0), .val (.int p1), .val (.int p2), .val (.int p3), .val (.int p4), .val (.int (3 : Int32)), .val (.int i323), .val (.int i324), .val (.int i325), .val (.int i326), .val (.int i327), .val (.int i328), .val (.int i329), .val (.ref b330), .unset, .unset, .unset, .unset] [(.int i326), (.int ((31 : Int32) * i323))])) _
        refine XS.iadd X352.here hx rfl (hb hby at_164) rfl ?_
        rw [← hi355]
        show Steps p.tables e below (T352.setTop (mkF m 165 #[.val (.int p0), .val (.int p1), .val (.int p2), .val (.int p3), .val (.int p4), .val (.int (3 : Int32)), .val (.int i323), .val (.int i324), .val (.int i325), .val (.int i326), .val (.int i327), .val (.int i328), .val (.int i329), .val (.ref b330), .unset, .unset, .unset, .unset] [(.int i355)])) _
        refine XS.istore X352.here hx rfl (hb hby at_165) rfl (l' := #[.val (.int p0), .val (.int p1), .val (.int p2), .val (.int p3), .val (.int p4), .val (.int (3 : Int32)), .val (.int i323), .val (.int i324), .val (.int i325), .val (.int i326), .val (.int i327), .val (.int i328), .val (.int i329), .val (.ref b330), .val (.int i355), .unset, .unset, .unset]) rfl ?_
        show Steps p.tables e below (T352.setTop (mkF m 167 #[.val (.int p0), .val (.int p1), .val (.int p2), .val (.int p3), .val (.int p4), .val (.int (3 : Int32)), .val (.int i323), .val (.int i324), .val (.int i325), .val (.int i326), .val (.int i327), .val (.int i328), .val (.int i329), .val (.ref b330), .val (.int i355), .unset, .unset, .unset] [])) _
        refine XS.bipush X352.here hx rfl (hb hby at_167) ?_
        show Steps p.tables e below (T352.setTop (mkF m 169 #[.val (.int p0), .val (.int p1), .val (.int p2), .val (.int p3), .val (.int p4), .val (.int (3 : Int32)), .val (.int i323), .val (.int i324), .val (.int i325), .val (.int i326), .val (.int i327), .val (.int i328), .val (.int i329), .val (.ref b330), .val (.int i355), .unset, .unset, .unset] [(.int (31 : Int32))])) _
        refine XS.iload X352.here hx rfl (hb hby at_169) rfl ?_
        show Steps p.tables e below (T352.setTop (mkF m 171 #[.val (.int p0), .val (.int p1), .val (.int p2), .val (.int p3), .val (.int p4), .val (.int (3 : Int32)), .val (.int i323), .val (.int i324), .val (.int i325), .val (.int i326), .val (.int i327), .val (.int i328), .val (.int i329), .val (.ref b330), .val (.int i355), .unset, .unset, .unset] [(.int i324), (.int (31 : Int32))])) _
        refine XS.imul X352.here hx rfl (hb hby at_171) rfl ?_
        show Steps p.tables e below (T352.setTop (mkF m 172 #[.val (.int p0), .val (.int p1), .val (.int p2), .val (.int p3), .val (.int p4), .val (.int (3 : Int32)), .val (.int i323), .val (.int i324), .val (.int i325), .val (.int i326), .val (.int i327), .val (.int i328), .val (.int i329), .val (.ref b330), .val (.int i355), .unset, .unset, .unset] [(.int ((31 : Int32) * i324))])) _
        refine XS.iload X352.here hx rfl (hb hby at_172) rfl ?_
        show Steps p.tables e below (T352.setTop (mkF m 174 #[.val (.int p0), .val (.int p1), .val (.int p2), .val (.int p3), .val (.int p4), .val (.int (3 : Int32)), .val (.int i323), .val (.int i324), .val (.int i325), .val (.int i326), .val (.int i327), .val (.int i328), .val (.int i329), .val (.ref b330), .val (.int i355), .unset, .unset, .unset] [(.int i327), (.int ((31 : Int32) * i324))])) _
        refine XS.iadd X352.here hx rfl (hb hby at_174) rfl ?_
        rw [← hi356]
        show Steps p.tables e below (T352.setTop (mkF m 175 #[.val (.int p0), .val (.int p1), .val (.int p2), .val (.int p3), .val (.int p4), .val (.int (3 : Int32)), .val (.int i323), .val (.int i324), .val (.int i325), .val (.int i326), .val (.int i327), .val (.int i328), .val (.int i329), .val (.ref b330), .val (.int i355), .unset, .unset, .unset] [(.int i356)])) _
        refine XS.istore X352.here hx rfl (hb hby at_175) rfl (l' := #[.val (.int p0), .val (.int p1), .val (.int p2), .val (.int p3), .val (.int p4), .val (.int (3 : Int32)), .val (.int i323), .val (.int i324), .val (.int i325), .val (.int i326), .val (.int i327), .val (.int i328), .val (.int i329), .val (.ref b330), .val (.int i355), .val (.int i356), .unset, .unset]) rfl ?_
        show Steps p.tables e below (T352.setTop (mkF m 177 #[.val (.int p0), .val (.int p1), .val (.int p2), .val (.int p3), .val (.int p4), .val (.int (3 : Int32)), .val (.int i323), .val (.int i324), .val (.int i325), .val (.int i326), .val (.int i327), .val (.int i328), .val (.int i329), .val (.ref b330), .val (.int i355), .val (.int i356), .unset, .unset] [])) _
        refine XS.bipush X352.here hx rfl (hb hby at_177) ?_
        show Steps p.tables e below (T352.setTop (mkF m 179 #[.val (.int p0), .val (.int p1), .val (.int p2), .val (.int p3), .val (.int p4), .val (.int (3 : Int32)), .val (.int i323), .val (.int i324), .val (.int i325), .val (.int i326), .val (.int i327), .val (.int i328), .val (.int i329), .val (.ref b330), .val (.int i355), .val (.int i356), .unset, .unset] [(.int (31 : Int32))])) _
        refine XS.iload X352.here hx rfl (hb hby at_179) rfl ?_
        show Steps p.tables e below (T352.setTop (mkF m 181 #[.val (.int p0), .val (.int p1), .val (.int p2), .val (.int p3), .val (.int p4), .val (.int (3 : Int32)), .val (.int i323), .val (.int i324), .val (.int i325), .val (.int i326), .val (.int i327), .val (.int i328), .val (.int i329), .val (.ref b330), .val (.int i355), .val (.int i356), .unset, .unset] [(.int i325), (.int (31 : Int32))])) _
        refine XS.imul X352.here hx rfl (hb hby at_181) rfl ?_
        show Steps p.tables e below (T352.setTop (mkF m 182 #[.val (.int p0), .val (.int p1), .val (.int p2), .val (.int p3), .val (.int p4), .val (.int (3 : Int32)), .val (.int i323), .val (.int i324), .val (.int i325), .val (.int i326), .val (.int i327), .val (.int i328), .val (.int i329), .val (.ref b330), .val (.int i355), .val (.int i356), .unset, .unset] [(.int ((31 : Int32) * i325))])) _
        refine XS.iload X352.here hx rfl (hb hby at_182) rfl ?_
        show Steps p.tables e below (T352.setTop (mkF m 184 #[.val (.int p0), .val (.int p1), .val (.int p2), .val (.int p3), .val (.int p4), .val (.int (3 : Int32)), .val (.int i323), .val (.int i324), .val (.int i325), .val (.int i326), .val (.int i327), .val (.int i328), .val (.int i329), .val (.ref b330), .val (.int i355), .val (.int i356), .unset, .unset] [(.int i328), (.int ((31 : Int32) * i325))])) _
        refine XS.iadd X352.here hx rfl (hb hby at_184) rfl ?_
        rw [← hi357]
        show Steps p.tables e below (T352.setTop (mkF m 185 #[.val (.int p0), .val (.int p1), .val (.int p2), .val (.int p3), .val (.int p4), .val (.int (3 : Int32)), .val (.int i323), .val (.int i324), .val (.int i325), .val (.int i326), .val (.int i327), .val (.int i328), .val (.int i329), .val (.ref b330), .val (.int i355), .val (.int i356), .unset, .unset] [(.int i357)])) _
        refine XS.istore X352.here hx rfl (hb hby at_185) rfl (l' := #[.val (.int p0), .val (.int p1), .val (.int p2), .val (.int p3), .val (.int p4), .val (.int (3 : Int32)), .val (.int i323), .val (.int i324), .val (.int i325), .val (.int i326), .val (.int i327), .val (.int i328), .val (.int i329), .val (.ref b330), .val (.int i355), .val (.int i356), .val (.int i357), .unset]) rfl ?_
        show Steps p.tables e below (T352.setTop (mkF m 187 #[.val (.int p0), .val (.int p1), .val (.int p2), .val (.int p3), .val (.int p4), .val (.int (3 : Int32)), .val (.int i323), .val (.int i324), .val (.int i325), .val (.int i326), .val (.int i327), .val (.int i328), .val (.int i329), .val (.ref b330), .val (.int i355), .val (.int i356), .val (.int i357), .unset] [])) _
        refine XS.iload X352.here hx rfl (hb hby at_187) rfl ?_
        show Steps p.tables e below (T352.setTop (mkF m 189 #[.val (.int p0), .val (.int p1), .val (.int p2), .val (.int p3), .val (.int p4), .val (.int (3 : Int32)), .val (.int i323), .val (.int i324), .val (.int i325), .val (.int i326), .val (.int i327), .val (.int i328), .val (.int i329), .val (.ref b330), .val (.int i355), .val (.int i356), .val (.int i357), .unset] [(.int (3 : Int32))])) _
        refine XS.ifYes X352.here hx rfl (pc0 := 189) (pc' := 198) rfl (hb hby at_189) rfl ((if0 _ _).trans (feq ((by decide) : ¬ ((3 : Int32) = (0 : Int32)))).2) (by decide) (by decide) ?_
        show Steps p.tables e below (T352.setTop (mkF m 198 #[.val (.int p0), .val (.int p1), .val (.int p2), .val (.int p3), .val (.int p4), .val (.int (3 : Int32)), .val (.int i323), .val (.int i324), .val (.int i325), .val (.int i326), .val (.int i327), .val (.int i328), .val (.int i329), .val (.ref b330), .val (.int i355), .val (.int i356), .val (.int i357), .unset] [])) _
        refine XS.iload X352.here hx rfl (hb hby at_198) rfl ?_
        show Steps p.tables e below (T352.setTop (mkF m 200 #[.val (.int p0), .val (.int p1), .val (.int p2), .val (.int p3), .val (.int p4), .val (.int (3 : Int32)), .val (.int i323), .val (.int i324), .val (.int i325), .val (.int i326), .val (.int i327), .val (.int i328), .val (.int i329), .val (.ref b330), .val (.int i355), .val (.int i356), .val (.int i357), .unset] [(.int (3 : Int32))])) _
        refine XS.iconst X352.here hx rfl (hb hby at_200) ?_
        show Steps p.tables e below (T352.setTop (mkF m 201 #[.val (.int p0), .val (.int p1), .val (.int p2), .val (.int p3), .val (.int p4), .val (.int (3 : Int32)), .val (.int i323), .val (.int i324), .val (.int i325), .val (.int i326), .val (.int i327), .val (.int i328), .val (.int i329), .val (.ref b330), .val (.int i355), .val (.int i356), .val (.int i357), .unset] [(.int (1 : Int32)), (.int (3 : Int32))])) _
        refine XS.icmpYes X352.here hx rfl (pc0 := 201) (pc' := 215) rfl (hb hby at_201) rfl (feq ((by decide) : ¬ ((3 : Int32) = (1 : Int32)))).2 (by decide) (by decide) ?_
        show Steps p.tables e below (T352.setTop (mkF m 215 #[.val (.int p0), .val (.int p1), .val (.int p2), .val (.int p3), .val (.int p4), .val (.int (3 : Int32)), .val (.int i323), .val (.int i324), .val (.int i325), .val (.int i326), .val (.int i327), .val (.int i328), .val (.int i329), .val (.ref b330), .val (.int i355), .val (.int i356), .val (.int i357), .unset] [])) _
        refine XS.iload X352.here hx rfl (hb hby at_215) rfl ?_
        show Steps p.tables e below (T352.setTop (mkF m 217 #[.val (.int p0), .val (.int p1), .val (.int p2), .val (.int p3), .val (.int p4), .val (.int (3 : Int32)), .val (.int i323), .val (.int i324), .val (.int i325), .val (.int i326), .val (.int i327), .val (.int i328), .val (.int i329), .val (.ref b330), .val (.int i355), .val (.int i356), .val (.int i357), .unset] [(.int (3 : Int32))])) _
        refine XS.iconst X352.here hx rfl (hb hby at_217) ?_
        show Steps p.tables e below (T352.setTop (mkF m 218 #[.val (.int p0), .val (.int p1), .val (.int p2), .val (.int p3), .val (.int p4), .val (.int (3 : Int32)), .val (.int i323), .val (.int i324), .val (.int i325), .val (.int i326), .val (.int i327), .val (.int i328), .val (.int i329), .val (.ref b330), .val (.int i355), .val (.int i356), .val (.int i357), .unset] [(.int (2 : Int32)), (.int (3 : Int32))])) _
        refine XS.icmpYes X352.here hx rfl (pc0 := 218) (pc' := 238) rfl (hb hby at_218) rfl (feq ((by decide) : ¬ ((3 : Int32) = (2 : Int32)))).2 (by decide) (by decide) ?_
        show Steps p.tables e below (T352.setTop (mkF m 238 #[.val (.int p0), .val (.int p1), .val (.int p2), .val (.int p3), .val (.int p4), .val (.int (3 : Int32)), .val (.int i323), .val (.int i324), .val (.int i325), .val (.int i326), .val (.int i327), .val (.int i328), .val (.int i329), .val (.ref b330), .val (.int i355), .val (.int i356), .val (.int i357), .unset] [])) _
        refine X352.ldcInt hx hown (mvT hZ (hw _ (List.mem_of_getElem? (i := 53) rfl))) (g := (mkF m 238 #[.val (.int p0), .val (.int p1), .val (.int p2), .val (.int p3), .val (.int p4), .val (.int (3 : Int32)), .val (.int i323), .val (.int i324), .val (.int i325), .val (.int i326), .val (.int i327), .val (.int i328), .val (.int i329), .val (.ref b330), .val (.int i355), .val (.int i356), .val (.int i357), .unset] [])) rfl (hb hby at_238) _ ?_
        show Steps p.tables e below (T352.setTop (mkF m 240 #[.val (.int p0), .val (.int p1), .val (.int p2), .val (.int p3), .val (.int p4), .val (.int (3 : Int32)), .val (.int i323), .val (.int i324), .val (.int i325), .val (.int i326), .val (.int i327), .val (.int i328), .val (.int i329), .val (.ref b330), .val (.int i355), .val (.int i356), .val (.int i357), .unset] [(.int (887503681 : Int32))])) _
        refine X352.ldcInt hx hown (mvT hZ (hw _ (List.mem_of_getElem? (i := 54) rfl))) (g := (mkF m 240 #[.val (.int p0), .val (.int p1), .val (.int p2), .val (.int p3), .val (.int p4), .val (.int (3 : Int32)), .val (.int i323), .val (.int i324), .val (.int i325), .val (.int i326), .val (.int i327), .val (.int i328), .val (.int i329), .val (.ref b330), .val (.int i355), .val (.int i356), .val (.int i357), .unset] [(.int (887503681 : Int32))])) rfl (hb hby at_240) _ ?_
        show Steps p.tables e below (T352.setTop (mkF m 242 #[.val (.int p0), .val (.int p1), .val (.int p2), .val (.int p3), .val (.int p4), .val (.int (3 : Int32)), .val (.int i323), .val (.int i324), .val (.int i325), .val (.int i326), .val (.int i327), .val (.int i328), .val (.int i329), .val (.ref b330), .val (.int i355), .val (.int i356), .val (.int i357), .unset] [(.int (923521 : Int32)), (.int (887503681 : Int32))])) _
        refine XS.iload X352.here hx rfl (hb hby at_242) rfl ?_
        show Steps p.tables e below (T352.setTop (mkF m 244 #[.val (.int p0), .val (.int p1), .val (.int p2), .val (.int p3), .val (.int p4), .val (.int (3 : Int32)), .val (.int i323), .val (.int i324), .val (.int i325), .val (.int i326), .val (.int i327), .val (.int i328), .val (.int i329), .val (.ref b330), .val (.int i355), .val (.int i356), .val (.int i357), .unset] [(.int i355), (.int (923521 : Int32)), (.int (887503681 : Int32))])) _
        refine XS.imul X352.here hx rfl (hb hby at_244) rfl ?_
        show Steps p.tables e below (T352.setTop (mkF m 245 #[.val (.int p0), .val (.int p1), .val (.int p2), .val (.int p3), .val (.int p4), .val (.int (3 : Int32)), .val (.int i323), .val (.int i324), .val (.int i325), .val (.int i326), .val (.int i327), .val (.int i328), .val (.int i329), .val (.ref b330), .val (.int i355), .val (.int i356), .val (.int i357), .unset] [(.int ((923521 : Int32) * i355)), (.int (887503681 : Int32))])) _
        refine XS.iadd X352.here hx rfl (hb hby at_245) rfl ?_
        show Steps p.tables e below (T352.setTop (mkF m 246 #[.val (.int p0), .val (.int p1), .val (.int p2), .val (.int p3), .val (.int p4), .val (.int (3 : Int32)), .val (.int i323), .val (.int i324), .val (.int i325), .val (.int i326), .val (.int i327), .val (.int i328), .val (.int i329), .val (.ref b330), .val (.int i355), .val (.int i356), .val (.int i357), .unset] [(.int ((887503681 : Int32) + ((923521 : Int32) * i355)))])) _
        refine XS.sipush X352.here hx rfl (hb hby at_246) ?_
        show Steps p.tables e below (T352.setTop (mkF m 249 #[.val (.int p0), .val (.int p1), .val (.int p2), .val (.int p3), .val (.int p4), .val (.int (3 : Int32)), .val (.int i323), .val (.int i324), .val (.int i325), .val (.int i326), .val (.int i327), .val (.int i328), .val (.int i329), .val (.ref b330), .val (.int i355), .val (.int i356), .val (.int i357), .unset] [(.int (961 : Int32)), (.int ((887503681 : Int32) + ((923521 : Int32) * i355)))])) _
        refine XS.iload X352.here hx rfl (hb hby at_249) rfl ?_
        show Steps p.tables e below (T352.setTop (mkF m 251 #[.val (.int p0), .val (.int p1), .val (.int p2), .val (.int p3), .val (.int p4), .val (.int (3 : Int32)), .val (.int i323), .val (.int i324), .val (.int i325), .val (.int i326), .val (.int i327), .val (.int i328), .val (.int i329), .val (.ref b330), .val (.int i355), .val (.int i356), .val (.int i357), .unset] [(.int i356), (.int (961 : Int32)), (.int ((887503681 : Int32) + ((923521 : Int32) * i355)))])) _
        refine XS.imul X352.here hx rfl (hb hby at_251) rfl ?_
        show Steps p.tables e below (T352.setTop (mkF m 252 #[.val (.int p0), .val (.int p1), .val (.int p2), .val (.int p3), .val (.int p4), .val (.int (3 : Int32)), .val (.int i323), .val (.int i324), .val (.int i325), .val (.int i326), .val (.int i327), .val (.int i328), .val (.int i329), .val (.ref b330), .val (.int i355), .val (.int i356), .val (.int i357), .unset] [(.int ((961 : Int32) * i356)), (.int ((887503681 : Int32) + ((923521 : Int32) * i355)))])) _
        refine XS.iadd X352.here hx rfl (hb hby at_252) rfl ?_
        show Steps p.tables e below (T352.setTop (mkF m 253 #[.val (.int p0), .val (.int p1), .val (.int p2), .val (.int p3), .val (.int p4), .val (.int (3 : Int32)), .val (.int i323), .val (.int i324), .val (.int i325), .val (.int i326), .val (.int i327), .val (.int i328), .val (.int i329), .val (.ref b330), .val (.int i355), .val (.int i356), .val (.int i357), .unset] [(.int (((887503681 : Int32) + ((923521 : Int32) * i355)) + ((961 : Int32) * i356)))])) _
        refine XS.iload X352.here hx rfl (hb hby at_253) rfl ?_
        show Steps p.tables e below (T352.setTop (mkF m 255 #[.val (.int p0), .val (.int p1), .val (.int p2), .val (.int p3), .val (.int p4), .val (.int (3 : Int32)), .val (.int i323), .val (.int i324), .val (.int i325), .val (.int i326), .val (.int i327), .val (.int i328), .val (.int i329), .val (.ref b330), .val (.int i355), .val (.int i356), .val (.int i357), .unset] [(.int i357), (.int (((887503681 : Int32) + ((923521 : Int32) * i355)) + ((961 : Int32) * i356)))])) _
        refine XS.iadd X352.here hx rfl (hb hby at_255) rfl ?_
        rw [← hi358]
        show Steps p.tables e below (T352.setTop (mkF m 256 #[.val (.int p0), .val (.int p1), .val (.int p2), .val (.int p3), .val (.int p4), .val (.int (3 : Int32)), .val (.int i323), .val (.int i324), .val (.int i325), .val (.int i326), .val (.int i327), .val (.int i328), .val (.int i329), .val (.ref b330), .val (.int i355), .val (.int i356), .val (.int i357), .unset] [(.int i358)])) _
        refine XS.istore X352.here hx rfl (hb hby at_256) rfl (l' := #[.val (.int p0), .val (.int p1), .val (.int p2), .val (.int p3), .val (.int p4), .val (.int (3 : Int32)), .val (.int i323), .val (.int i324), .val (.int i325), .val (.int i326), .val (.int i327), .val (.int i328), .val (.int i329), .val (.ref b330), .val (.int i355), .val (.int i356), .val (.int i357), .val (.int i358)]) rfl ?_
        show Steps p.tables e below (T352.setTop (mkF m 258 #[.val (.int p0), .val (.int p1), .val (.int p2), .val (.int p3), .val (.int p4), .val (.int (3 : Int32)), .val (.int i323), .val (.int i324), .val (.int i325), .val (.int i326), .val (.int i327), .val (.int i328), .val (.int i329), .val (.ref b330), .val (.int i355), .val (.int i356), .val (.int i357), .val (.int i358)] [])) _
        refine XS.aload X352.here hx rfl (hb hby at_258) rfl rfl ?_
        exact kt)
      rw [((by rw [f11]) : (f11 b330 b_vertices_331 k_vertices_331 i323 i324 i325 b_states_331 k_states_331 (i326.toInt8.toInt32) (i327.toInt8.toInt32) (i328.toInt8.toInt32) wSUSCEPTIBLE wRECOVERED wINFECTED) = (((31 : Int32) * (((31 : Int32) * (((31 : Int32) * (((31 : Int32) * (((31 : Int32) * (((31 : Int32) * (1 : Int32)) + i323)) + (i326.toInt8.toInt32))) + i324)) + (i327.toInt8.toInt32))) + i325)) + (i328.toInt8.toInt32)))] at hQ359
      obtain ⟨rfl, N359q, e359⟩ := hQ359
      have N359 := Fr.app N352 N359q
      obtain ⟨cq361, kq361, q361a, q361b, q361c⟩ := isOf hZ e359 E_b330_352
      obtain ⟨_, _, ⟨T361, L361, k361, n361⟩, -, X361, ⟨Lc361, hQ361, l361, y361, z361⟩, st361⟩ := X359.virtualBack hx (y := (⟨"com/example/rippletide/rippletide/model/StateChanges", "count", "()I"⟩ : MethodName)) (z := (⟨"com/example/rippletide/rippletide/model/StateChanges", "count", "()I"⟩ : MethodName)) hown (mvT hZ (hw _ (List.mem_of_getElem? (i := 43) rfl))) (mvT hZ (hw _ (List.mem_of_getElem? (i := 44) rfl))) (notFace_of_selects (args := #[]) (mvT hZ (hw _ (List.mem_of_getElem? (i := 46) rfl)))) (mvT hZ (hw _ (List.mem_of_getElem? (i := 46) rfl))) (mvT hZ (hw _ (List.mem_of_getElem? (i := 45) rfl))) (by decide) (backOf (W := 0) (rm12 l Z a0 hw [] b330 b_vertices_331 k_vertices_331 i323 i324 i325 b_states_331 k_states_331 (i326.toInt8.toInt32) (i327.toInt8.toInt32) (i328.toInt8.toInt32) (3 : Int32) wSUSCEPTIBLE wRECOVERED wINFECTED h0 T352.heap n0 (Nat.le_trans Z0 KK352.1) W0 EX352 Zs ⟨E_b330_352, g_b330_352, G_b330_vertices_352, G_b330_states_352, G_b330_count_352, g_b330_vertices_352, ne_b330_vertices_352, V_b330_vertices_352, g_b330_states_352, ne_b330_states_352, V_b330_states_352, nn_b330_vertices_states_352, trivial⟩ ) hZ (hw _ (List.mem_of_getElem? (i := 47) rfl)) (hw _ (List.mem_of_getElem? (i := 2) rfl)) (by decide) (by decide)) q361a q361c (g := (mkF m 270 #[.val (.int p0), .val (.int p1), .val (.int p2), .val (.int p3), .val (.int p4), .val (.int (3 : Int32)), .val (.int i323), .val (.int i324), .val (.int i325), .val (.int i326), .val (.int i327), .val (.int i328), .val (.int i329), .val (.ref b330), .val (.int i355), .val (.int i356), .val (.int i357), .val (.int i358)] [(.ref b330)])) rfl (by rw [hml]; rfl) (Steps.refl _) (argsL := []) (rest := []) (lenOf pd_0 rfl) rfl (by show 2 * 0 + _ ≤ _; exact Nat.le_of_eq rfl) (hb hby at_270) (fun _ _ => ⟨rfl, e359, (by decide : 3 + 0 ≤ _), (by decide : 35 + 0 ≤ _)⟩)
      dsimp only [Pt.U, Pt.locs, Pt.cells, Pt.slots] at X361 l361 y361 z361 st361 hQ361
      subst l361 y361 z361
      unfold Q12 at hQ361
      have k362 : ∀ t, Steps p.tables e below (T359.setTop (mkF m 270 #[.val (.int p0), .val (.int p1), .val (.int p2), .val (.int p3), .val (.int p4), .val (.int (3 : Int32)), .val (.int i323), .val (.int i324), .val (.int i325), .val (.int i326), .val (.int i327), .val (.int i328), .val (.int i329), .val (.ref b330), .val (.int i355), .val (.int i356), .val (.int i357), .val (.int i358)] [(.ref b330)])) t → Steps p.tables e below (s₁.setTop (entryFrame m #[(.int p0), (.int p1), (.int p2), (.int p3), (.int p4)] maxLocals)) t := fun t kt => k360 t (by
        show Steps p.tables e below (T352.setTop (mkF m 260 #[.val (.int p0), .val (.int p1), .val (.int p2), .val (.int p3), .val (.int p4), .val (.int (3 : Int32)), .val (.int i323), .val (.int i324), .val (.int i325), .val (.int i326), .val (.int i327), .val (.int i328), .val (.int i329), .val (.ref b330), .val (.int i355), .val (.int i356), .val (.int i357), .val (.int i358)] [(.ref b330)])) _
        refine st359.trans ?_
        show Steps p.tables e below (T359.setTop (mkF m 263 #[.val (.int p0), .val (.int p1), .val (.int p2), .val (.int p3), .val (.int p4), .val (.int (3 : Int32)), .val (.int i323), .val (.int i324), .val (.int i325), .val (.int i326), .val (.int i327), .val (.int i328), .val (.int i329), .val (.ref b330), .val (.int i355), .val (.int i356), .val (.int i357), .val (.int i358)] [(.int (((31 : Int32) * (((31 : Int32) * (((31 : Int32) * (((31 : Int32) * (((31 : Int32) * (((31 : Int32) * (1 : Int32)) + i323)) + (i326.toInt8.toInt32))) + i324)) + (i327.toInt8.toInt32))) + i325)) + (i328.toInt8.toInt32)))])) _
        refine XS.iload X359.here hx rfl (hb hby at_263) rfl ?_
        show Steps p.tables e below (T359.setTop (mkF m 265 #[.val (.int p0), .val (.int p1), .val (.int p2), .val (.int p3), .val (.int p4), .val (.int (3 : Int32)), .val (.int i323), .val (.int i324), .val (.int i325), .val (.int i326), .val (.int i327), .val (.int i328), .val (.int i329), .val (.ref b330), .val (.int i355), .val (.int i356), .val (.int i357), .val (.int i358)] [(.int i358), (.int (((31 : Int32) * (((31 : Int32) * (((31 : Int32) * (((31 : Int32) * (((31 : Int32) * (((31 : Int32) * (1 : Int32)) + i323)) + (i326.toInt8.toInt32))) + i324)) + (i327.toInt8.toInt32))) + i325)) + (i328.toInt8.toInt32)))])) _
        refine XS.icmpNo X359.here hx rfl (hb hby at_265) rfl (teq ((by rw [hi358, hi355, hi356, hi357, own_byte hi326, own_byte hi327, own_byte hi328]; grind) : (((31 : Int32) * (((31 : Int32) * (((31 : Int32) * (((31 : Int32) * (((31 : Int32) * (((31 : Int32) * (1 : Int32)) + i323)) + (i326.toInt8.toInt32))) + i324)) + (i327.toInt8.toInt32))) + i325)) + (i328.toInt8.toInt32)) = i358)).2 ?_
        show Steps p.tables e below (T359.setTop (mkF m 268 #[.val (.int p0), .val (.int p1), .val (.int p2), .val (.int p3), .val (.int p4), .val (.int (3 : Int32)), .val (.int i323), .val (.int i324), .val (.int i325), .val (.int i326), .val (.int i327), .val (.int i328), .val (.int i329), .val (.ref b330), .val (.int i355), .val (.int i356), .val (.int i357), .val (.int i358)] [])) _
        refine XS.aload X359.here hx rfl (hb hby at_268) rfl rfl ?_
        exact kt)
      rw [((by rw [f12]) : (f12 b330 b_vertices_331 k_vertices_331 i323 i324 i325 b_states_331 k_states_331 (i326.toInt8.toInt32) (i327.toInt8.toInt32) (i328.toInt8.toInt32) (3 : Int32) wSUSCEPTIBLE wRECOVERED wINFECTED) = (3 : Int32))] at hQ361
      obtain ⟨rfl, N361q, e361⟩ := hQ361
      have N361 := Fr.app N359 N361q
      obtain ⟨fs, hr, hrun, hended, hW, hsame⟩ := X361.leave (v := some (.int (1 : Int32))) (fun h => by rw [Bd.returns] at h; cases h)
      refine ⟨_, _, k362 _ ?_, hrun, hended, _, _, rfl, ?_, ⟨_, rfl⟩, hW, hsame.mono (by decide) (by decide)⟩
      · show Steps p.tables e below (T359.setTop (mkF m 270 #[.val (.int p0), .val (.int p1), .val (.int p2), .val (.int p3), .val (.int p4), .val (.int (3 : Int32)), .val (.int i323), .val (.int i324), .val (.int i325), .val (.int i326), .val (.int i327), .val (.int i328), .val (.int i329), .val (.ref b330), .val (.int i355), .val (.int i356), .val (.int i357), .val (.int i358)] [(.ref b330)])) _
        refine st361.trans ?_
        show Steps p.tables e below (T361.setTop (mkF m 273 #[.val (.int p0), .val (.int p1), .val (.int p2), .val (.int p3), .val (.int p4), .val (.int (3 : Int32)), .val (.int i323), .val (.int i324), .val (.int i325), .val (.int i326), .val (.int i327), .val (.int i328), .val (.int i329), .val (.ref b330), .val (.int i355), .val (.int i356), .val (.int i357), .val (.int i358)] [(.int (3 : Int32))])) _
        refine XS.iload X361.here hx rfl (hb hby at_273) rfl ?_
        show Steps p.tables e below (T361.setTop (mkF m 275 #[.val (.int p0), .val (.int p1), .val (.int p2), .val (.int p3), .val (.int p4), .val (.int (3 : Int32)), .val (.int i323), .val (.int i324), .val (.int i325), .val (.int i326), .val (.int i327), .val (.int i328), .val (.int i329), .val (.ref b330), .val (.int i355), .val (.int i356), .val (.int i357), .val (.int i358)] [(.int (3 : Int32)), (.int (3 : Int32))])) _
        refine XS.icmpNo X361.here hx rfl (hb hby at_275) rfl (teq (rfl : (3 : Int32) = (3 : Int32))).2 ?_
        show Steps p.tables e below (T361.setTop (mkF m 278 #[.val (.int p0), .val (.int p1), .val (.int p2), .val (.int p3), .val (.int p4), .val (.int (3 : Int32)), .val (.int i323), .val (.int i324), .val (.int i325), .val (.int i326), .val (.int i327), .val (.int i328), .val (.int i329), .val (.ref b330), .val (.int i355), .val (.int i356), .val (.int i357), .val (.int i358)] [])) _
        refine XS.iconst X361.here hx rfl (hb hby at_278) ?_
        show Steps p.tables e below (T361.setTop (mkF m 279 #[.val (.int p0), .val (.int p1), .val (.int p2), .val (.int p3), .val (.int p4), .val (.int (3 : Int32)), .val (.int i323), .val (.int i324), .val (.int i325), .val (.int i326), .val (.int i327), .val (.int i328), .val (.int i329), .val (.ref b330), .val (.int i355), .val (.int i356), .val (.int i357), .val (.int i358)] [(.int (1 : Int32))])) _
        refine XS.goto X361.here hx rfl (pc0 := 279) (pc' := 283) rfl (hb hby at_279) (by decide) (by decide) ?_
        show Steps p.tables e below (T361.setTop (mkF m 283 #[.val (.int p0), .val (.int p1), .val (.int p2), .val (.int p3), .val (.int p4), .val (.int (3 : Int32)), .val (.int i323), .val (.int i324), .val (.int i325), .val (.int i326), .val (.int i327), .val (.int i328), .val (.int i329), .val (.ref b330), .val (.int i355), .val (.int i356), .val (.int i357), .val (.int i358)] [(.int (1 : Int32))])) _
        exact retN X361 hx (t := .boolean) Bd.returns (by simp) (hb hby at_283) hr
      · show Q0 Z p0 p1 p2 p3 p4 wSUSCEPTIBLE wRECOVERED wINFECTED h0 n0 _ T361.heap _
        rw [e361]
        exact ⟨rfl, N361⟩
    · obtain ⟨_, _, ⟨T363, L363, k363, n363⟩, -, X363, ⟨Lc363, hQ363, l363, y363, z363⟩, st363⟩ := Jvm.LawKit.callS X331 hx (y := (⟨"com/example/rippletide/rippletide/model/StateChangesHashCodePinLaw", "state", "(I)Lcom/example/rippletide/rippletide/model/State;"⟩ : MethodName)) hown (mvT hZ (hw _ (List.mem_of_getElem? (i := 15) rfl))) (mvT hZ (hw _ (List.mem_of_getElem? (i := 16) rfl))) (mvT hZ (hw _ (List.mem_of_getElem? (i := 17) rfl))) (mvT hZ (hw _ (List.mem_of_getElem? (i := 18) rfl))) (by decide) (backOf (W := 2) (rm1 l Z a0 hw [] i329 wSUSCEPTIBLE wRECOVERED wINFECTED T331.heap n0 (Nat.le_trans Z0 KK331.1) (W0.ext EX331) ) hZ (hw _ (List.mem_of_getElem? (i := 18) rfl)) (hw _ (List.mem_of_getElem? (i := 17) rfl)) (by decide) (by decide)) (g := (mkF m 92 #[.val (.int p0), .val (.int p1), .val (.int p2), .val (.int p3), .val (.int p4), .val (.int (3 : Int32)), .val (.int i323), .val (.int i324), .val (.int i325), .val (.int i326), .val (.int i327), .val (.int i328), .val (.int i329), .val (.ref b330), .unset, .unset, .unset, .unset] [(.int i329), (.int ((p4.toUInt32 >>> ((1 : Int32) &&& 31).toUInt32).toInt32)), (.ref b330)])) rfl (by rw [hml]; rfl) (argsL := [(.int i329)]) (rest := [(.int ((p4.toUInt32 >>> ((1 : Int32) &&& 31).toUInt32).toInt32)), (.ref b330)]) (lenOf pd_2 rfl) rfl (by show 2 * 0 + _ ≤ _; exact Nat.le_of_eq rfl) (hb hby at_92) (fun _ _ => ⟨rfl, rfl, (by decide : 3 + 0 ≤ _), (by decide : 35 + 0 ≤ _)⟩)
      dsimp only [Pt.U, Pt.locs, Pt.cells, Pt.slots] at X363 l363 y363 z363 st363 hQ363
      subst l363 y363 z363
      unfold Q1 at hQ363
      have k364 : ∀ t, Steps p.tables e below (T331.setTop (mkF m 92 #[.val (.int p0), .val (.int p1), .val (.int p2), .val (.int p3), .val (.int p4), .val (.int (3 : Int32)), .val (.int i323), .val (.int i324), .val (.int i325), .val (.int i326), .val (.int i327), .val (.int i328), .val (.int i329), .val (.ref b330), .unset, .unset, .unset, .unset] [(.int i329), (.int ((p4.toUInt32 >>> ((1 : Int32) &&& 31).toUInt32).toInt32)), (.ref b330)])) t → Steps p.tables e below (s₁.setTop (entryFrame m #[(.int p0), (.int p1), (.int p2), (.int p3), (.int p4)] maxLocals)) t := fun t kt => k335 t (by
        show Steps p.tables e below (T331.setTop (mkF m 81 #[.val (.int p0), .val (.int p1), .val (.int p2), .val (.int p3), .val (.int p4), .val (.int (3 : Int32)), .val (.int i323), .val (.int i324), .val (.int i325), .val (.int i326), .val (.int i327), .val (.int i328), .val (.int i329), .val (.ref b330), .unset, .unset, .unset, .unset] [(.int (p4 &&& (1 : Int32)))])) _
        refine XS.ifNo X331.here hx rfl (hb hby at_81) rfl ((if0 _ _).trans (feq (hc336 : ¬ ((p4 &&& (1 : Int32)) = (0 : Int32)))).1) ?_
        show Steps p.tables e below (T331.setTop (mkF m 84 #[.val (.int p0), .val (.int p1), .val (.int p2), .val (.int p3), .val (.int p4), .val (.int (3 : Int32)), .val (.int i323), .val (.int i324), .val (.int i325), .val (.int i326), .val (.int i327), .val (.int i328), .val (.int i329), .val (.ref b330), .unset, .unset, .unset, .unset] [])) _
        refine XS.aload X331.here hx rfl (hb hby at_84) rfl rfl ?_
        show Steps p.tables e below (T331.setTop (mkF m 86 #[.val (.int p0), .val (.int p1), .val (.int p2), .val (.int p3), .val (.int p4), .val (.int (3 : Int32)), .val (.int i323), .val (.int i324), .val (.int i325), .val (.int i326), .val (.int i327), .val (.int i328), .val (.int i329), .val (.ref b330), .unset, .unset, .unset, .unset] [(.ref b330)])) _
        refine XS.iload X331.here hx rfl (hb hby at_86) rfl ?_
        show Steps p.tables e below (T331.setTop (mkF m 88 #[.val (.int p0), .val (.int p1), .val (.int p2), .val (.int p3), .val (.int p4), .val (.int (3 : Int32)), .val (.int i323), .val (.int i324), .val (.int i325), .val (.int i326), .val (.int i327), .val (.int i328), .val (.int i329), .val (.ref b330), .unset, .unset, .unset, .unset] [(.int p4), (.ref b330)])) _
        refine XS.iconst X331.here hx rfl (hb hby at_88) ?_
        show Steps p.tables e below (T331.setTop (mkF m 89 #[.val (.int p0), .val (.int p1), .val (.int p2), .val (.int p3), .val (.int p4), .val (.int (3 : Int32)), .val (.int i323), .val (.int i324), .val (.int i325), .val (.int i326), .val (.int i327), .val (.int i328), .val (.int i329), .val (.ref b330), .unset, .unset, .unset, .unset] [(.int (1 : Int32)), (.int p4), (.ref b330)])) _
        refine XS.iushr X331.here hx rfl (hb hby at_89) rfl ?_
        show Steps p.tables e below (T331.setTop (mkF m 90 #[.val (.int p0), .val (.int p1), .val (.int p2), .val (.int p3), .val (.int p4), .val (.int (3 : Int32)), .val (.int i323), .val (.int i324), .val (.int i325), .val (.int i326), .val (.int i327), .val (.int i328), .val (.int i329), .val (.ref b330), .unset, .unset, .unset, .unset] [(.int ((p4.toUInt32 >>> ((1 : Int32) &&& 31).toUInt32).toInt32)), (.ref b330)])) _
        refine XS.iload X331.here hx rfl (hb hby at_90) rfl ?_
        exact kt)
      obtain ⟨r365, hr365⟩ : ∃ z, z = (f1 i329 wSUSCEPTIBLE wRECOVERED wINFECTED) := ⟨_, rfl⟩
      rw [← hr365] at hQ363
      obtain ⟨rfl, N363q, e363⟩ := hQ363
      have N363 := Fr.app N331 N363q
      have PFr365 := own_state W0 (own_cs3 hi329)
      rw [← hr365] at PFr365
      obtain ⟨E_r365, F_r365⟩ := PFr365
      obtain ⟨cq366, kq366, q366a, q366b, q366c⟩ := isOf hZ e363 E_b330_331
      obtain ⟨_, _, ⟨T366, L366, k366, n366⟩, -, X366, ⟨Lc366, hQ366, l366, y366, z366⟩, st366⟩ := X363.virtualBack hx (y := (⟨"com/example/rippletide/rippletide/model/StateChanges", "add", "(ILcom/example/rippletide/rippletide/model/State;)V"⟩ : MethodName)) (z := (⟨"com/example/rippletide/rippletide/model/StateChanges", "add", "(ILcom/example/rippletide/rippletide/model/State;)V"⟩ : MethodName)) hown (mvT hZ (hw _ (List.mem_of_getElem? (i := 22) rfl))) (mvT hZ (hw _ (List.mem_of_getElem? (i := 23) rfl))) (notFace_of_selects (args := #[]) (mvT hZ (hw _ (List.mem_of_getElem? (i := 25) rfl)))) (mvT hZ (hw _ (List.mem_of_getElem? (i := 25) rfl))) (mvT hZ (hw _ (List.mem_of_getElem? (i := 24) rfl))) (by decide) (backOf (W := 0) (rm4 l Z a0 hw [] b330 ((p4.toUInt32 >>> ((1 : Int32) &&& 31).toUInt32).toInt32) r365 b_vertices_331 k_vertices_331 (0 : Int32) (0 : Int32) (0 : Int32) b_states_331 k_states_331 (0 : Int32) (0 : Int32) (0 : Int32) i329 wSUSCEPTIBLE wRECOVERED wINFECTED h0 T331.heap n0 (Nat.le_trans Z0 KK331.1) W0 EX331 Zs ⟨E_b330_331, g_b330_331, G_b330_vertices_331, G_b330_states_331, G_b330_count_331, g_b330_vertices_331, ne_b330_vertices_331, V_b330_vertices_331, g_b330_states_331, ne_b330_states_331, V_b330_states_331, nn_b330_vertices_states_331, trivial⟩ F_r365 E_r365 (own_nn (n := 1) (by decide) (by decide) (by decide))) hZ (hw _ (List.mem_of_getElem? (i := 26) rfl)) (hw _ (List.mem_of_getElem? (i := 2) rfl)) (by decide) (by decide)) q366a q366c (g := (mkF m 95 #[.val (.int p0), .val (.int p1), .val (.int p2), .val (.int p3), .val (.int p4), .val (.int (3 : Int32)), .val (.int i323), .val (.int i324), .val (.int i325), .val (.int i326), .val (.int i327), .val (.int i328), .val (.int i329), .val (.ref b330), .unset, .unset, .unset, .unset] [(.ref r365), (.int ((p4.toUInt32 >>> ((1 : Int32) &&& 31).toUInt32).toInt32)), (.ref b330)])) rfl (by rw [hml]; rfl) (Steps.refl _) (argsL := [(.int ((p4.toUInt32 >>> ((1 : Int32) &&& 31).toUInt32).toInt32)), (.ref r365)]) (rest := []) (lenOf pd_3 rfl) rfl (by show 2 * 0 + _ ≤ _; exact Nat.le_of_eq rfl) (hb hby at_95) (fun _ _ => ⟨rfl, e363, (by decide : 3 + 0 ≤ _), (by decide : 35 + 0 ≤ _)⟩)
      dsimp only [Pt.U, Pt.locs, Pt.cells, Pt.slots] at X366 l366 y366 z366 st366 hQ366
      subst l366 y366 z366
      unfold Q4 at hQ366
      have k367 : ∀ t, Steps p.tables e below (T363.setTop (mkF m 95 #[.val (.int p0), .val (.int p1), .val (.int p2), .val (.int p3), .val (.int p4), .val (.int (3 : Int32)), .val (.int i323), .val (.int i324), .val (.int i325), .val (.int i326), .val (.int i327), .val (.int i328), .val (.int i329), .val (.ref b330), .unset, .unset, .unset, .unset] [(.ref r365), (.int ((p4.toUInt32 >>> ((1 : Int32) &&& 31).toUInt32).toInt32)), (.ref b330)])) t → Steps p.tables e below (s₁.setTop (entryFrame m #[(.int p0), (.int p1), (.int p2), (.int p3), (.int p4)] maxLocals)) t := fun t kt => k364 t (by
        show Steps p.tables e below (T331.setTop (mkF m 92 #[.val (.int p0), .val (.int p1), .val (.int p2), .val (.int p3), .val (.int p4), .val (.int (3 : Int32)), .val (.int i323), .val (.int i324), .val (.int i325), .val (.int i326), .val (.int i327), .val (.int i328), .val (.int i329), .val (.ref b330), .unset, .unset, .unset, .unset] [(.int i329), (.int ((p4.toUInt32 >>> ((1 : Int32) &&& 31).toUInt32).toInt32)), (.ref b330)])) _
        refine st363 _ ?_
        exact kt)
      obtain ⟨rfl, N366q, EXc366, Kc366, OB366_p0⟩ := hQ366
      have N366 := Fr.app N363 N366q
      have EX366 : Ext h0 T366.heap := EXc366
      have KK366 : Keep h0 T366.heap ([] : List Addr) := Keep.trans KK331 Kc366 (allS (Or.inr (Nat.le_trans Zs g_b330_vertices_331)) (allS (Or.inr (Nat.le_trans Zs g_b330_states_331)) (allS (Or.inr (Nat.le_trans Zs g_b330_331)) all0)))
      have OBx366_p0 : Obj Z T366.heap n0 b330 b_vertices_331 k_vertices_331 ((p4.toUInt32 >>> ((1 : Int32) &&& 31).toUInt32).toInt32) (0 : Int32) (0 : Int32) b_states_331 k_states_331 (i329.toInt8.toInt32) (0 : Int32) (0 : Int32) (1 : Int32) := OB366_p0
      obtain ⟨E_b330_366, g_b330_366, G_b330_vertices_366, G_b330_states_366, G_b330_count_366, g_b330_vertices_366, ne_b330_vertices_366, V_b330_vertices_366, g_b330_states_366, ne_b330_states_366, V_b330_states_366, nn_b330_vertices_states_366, -⟩ := OBx366_p0
      obtain ⟨cq369, kq369, q369a, q369b, q369c⟩ := isOf hZ rfl E_b330_366
      obtain ⟨_, _, ⟨T369, L369, k369, n369⟩, -, X369, ⟨Lc369, hQ369, l369, y369, z369⟩, st369⟩ := X366.virtualBack hx (y := (⟨"com/example/rippletide/rippletide/model/StateChanges", "clear", "()V"⟩ : MethodName)) (z := (⟨"com/example/rippletide/rippletide/model/StateChanges", "clear", "()V"⟩ : MethodName)) hown (mvT hZ (hw _ (List.mem_of_getElem? (i := 48) rfl))) (mvT hZ (hw _ (List.mem_of_getElem? (i := 49) rfl))) (notFace_of_selects (args := #[]) (mvT hZ (hw _ (List.mem_of_getElem? (i := 51) rfl)))) (mvT hZ (hw _ (List.mem_of_getElem? (i := 51) rfl))) (mvT hZ (hw _ (List.mem_of_getElem? (i := 50) rfl))) (by decide) (backOf (W := 0) (rm7 l Z a0 hw [] b330 b_vertices_331 k_vertices_331 ((p4.toUInt32 >>> ((1 : Int32) &&& 31).toUInt32).toInt32) (0 : Int32) (0 : Int32) b_states_331 k_states_331 (i329.toInt8.toInt32) (0 : Int32) (0 : Int32) (1 : Int32) wSUSCEPTIBLE wRECOVERED wINFECTED h0 T366.heap n0 (Nat.le_trans Z0 KK366.1) W0 EX366 Zs ⟨E_b330_366, g_b330_366, G_b330_vertices_366, G_b330_states_366, G_b330_count_366, g_b330_vertices_366, ne_b330_vertices_366, V_b330_vertices_366, g_b330_states_366, ne_b330_states_366, V_b330_states_366, nn_b330_vertices_states_366, trivial⟩ ) hZ (hw _ (List.mem_of_getElem? (i := 52) rfl)) (hw _ (List.mem_of_getElem? (i := 2) rfl)) (by decide) (by decide)) q369a q369c (g := (mkF m 100 #[.val (.int p0), .val (.int p1), .val (.int p2), .val (.int p3), .val (.int p4), .val (.int (3 : Int32)), .val (.int i323), .val (.int i324), .val (.int i325), .val (.int i326), .val (.int i327), .val (.int i328), .val (.int i329), .val (.ref b330), .unset, .unset, .unset, .unset] [(.ref b330)])) rfl (by rw [hml]; rfl) (Steps.refl _) (argsL := []) (rest := []) (lenOf pd_1 rfl) rfl (by show 2 * 0 + _ ≤ _; exact Nat.le_of_eq rfl) (hb hby at_100) (fun _ _ => ⟨rfl, rfl, (by decide : 3 + 0 ≤ _), (by decide : 35 + 0 ≤ _)⟩)
      dsimp only [Pt.U, Pt.locs, Pt.cells, Pt.slots] at X369 l369 y369 z369 st369 hQ369
      subst l369 y369 z369
      unfold Q7 at hQ369
      have k370 : ∀ t, Steps p.tables e below (T366.setTop (mkF m 100 #[.val (.int p0), .val (.int p1), .val (.int p2), .val (.int p3), .val (.int p4), .val (.int (3 : Int32)), .val (.int i323), .val (.int i324), .val (.int i325), .val (.int i326), .val (.int i327), .val (.int i328), .val (.int i329), .val (.ref b330), .unset, .unset, .unset, .unset] [(.ref b330)])) t → Steps p.tables e below (s₁.setTop (entryFrame m #[(.int p0), (.int p1), (.int p2), (.int p3), (.int p4)] maxLocals)) t := fun t kt => k367 t (by
        show Steps p.tables e below (T363.setTop (mkF m 95 #[.val (.int p0), .val (.int p1), .val (.int p2), .val (.int p3), .val (.int p4), .val (.int (3 : Int32)), .val (.int i323), .val (.int i324), .val (.int i325), .val (.int i326), .val (.int i327), .val (.int i328), .val (.int i329), .val (.ref b330), .unset, .unset, .unset, .unset] [(.ref r365), (.int ((p4.toUInt32 >>> ((1 : Int32) &&& 31).toUInt32).toInt32)), (.ref b330)])) _
        refine st366.trans ?_
        show Steps p.tables e below (T366.setTop (mkF m 98 #[.val (.int p0), .val (.int p1), .val (.int p2), .val (.int p3), .val (.int p4), .val (.int (3 : Int32)), .val (.int i323), .val (.int i324), .val (.int i325), .val (.int i326), .val (.int i327), .val (.int i328), .val (.int i329), .val (.ref b330), .unset, .unset, .unset, .unset] [])) _
        refine XS.aload X366.here hx rfl (hb hby at_98) rfl rfl ?_
        exact kt)
      obtain ⟨rfl, N369q, EXc369, Kc369, OB369_p0⟩ := hQ369
      have N369 := Fr.app N366 N369q
      have EX369 : Ext h0 T369.heap := EXc369
      have KK369 : Keep h0 T369.heap ([] : List Addr) := Keep.trans KK366 Kc369 (allS (Or.inr (Nat.le_trans Zs g_b330_366)) all0)
      have OBx369_p0 : Obj Z T369.heap n0 b330 b_vertices_331 k_vertices_331 ((p4.toUInt32 >>> ((1 : Int32) &&& 31).toUInt32).toInt32) (0 : Int32) (0 : Int32) b_states_331 k_states_331 (i329.toInt8.toInt32) (0 : Int32) (0 : Int32) (0 : Int32) := OB369_p0
      obtain ⟨E_b330_369, g_b330_369, G_b330_vertices_369, G_b330_states_369, G_b330_count_369, g_b330_vertices_369, ne_b330_vertices_369, V_b330_vertices_369, g_b330_states_369, ne_b330_states_369, V_b330_states_369, nn_b330_vertices_states_369, -⟩ := OBx369_p0
      obtain ⟨_, _, ⟨T372, L372, k372, n372⟩, -, X372, ⟨Lc372, hQ372, l372, y372, z372⟩, st372⟩ := Jvm.LawKit.callS X369 hx (y := (⟨"com/example/rippletide/rippletide/model/StateChangesHashCodePinLaw", "state", "(I)Lcom/example/rippletide/rippletide/model/State;"⟩ : MethodName)) hown (mvT hZ (hw _ (List.mem_of_getElem? (i := 15) rfl))) (mvT hZ (hw _ (List.mem_of_getElem? (i := 16) rfl))) (mvT hZ (hw _ (List.mem_of_getElem? (i := 17) rfl))) (mvT hZ (hw _ (List.mem_of_getElem? (i := 18) rfl))) (by decide) (backOf (W := 2) (rm1 l Z a0 hw [] i326 wSUSCEPTIBLE wRECOVERED wINFECTED T369.heap n0 (Nat.le_trans Z0 KK369.1) (W0.ext EX369) ) hZ (hw _ (List.mem_of_getElem? (i := 18) rfl)) (hw _ (List.mem_of_getElem? (i := 17) rfl)) (by decide) (by decide)) (g := (mkF m 115 #[.val (.int p0), .val (.int p1), .val (.int p2), .val (.int p3), .val (.int p4), .val (.int (3 : Int32)), .val (.int i323), .val (.int i324), .val (.int i325), .val (.int i326), .val (.int i327), .val (.int i328), .val (.int i329), .val (.ref b330), .unset, .unset, .unset, .unset] [(.int i326), (.int i323), (.ref b330)])) rfl (by rw [hml]; rfl) (argsL := [(.int i326)]) (rest := [(.int i323), (.ref b330)]) (lenOf pd_2 rfl) rfl (by show 2 * 0 + _ ≤ _; exact Nat.le_of_eq rfl) (hb hby at_115) (fun _ _ => ⟨rfl, rfl, (by decide : 3 + 0 ≤ _), (by decide : 35 + 0 ≤ _)⟩)
      dsimp only [Pt.U, Pt.locs, Pt.cells, Pt.slots] at X372 l372 y372 z372 st372 hQ372
      subst l372 y372 z372
      unfold Q1 at hQ372
      have k373 : ∀ t, Steps p.tables e below (T369.setTop (mkF m 115 #[.val (.int p0), .val (.int p1), .val (.int p2), .val (.int p3), .val (.int p4), .val (.int (3 : Int32)), .val (.int i323), .val (.int i324), .val (.int i325), .val (.int i326), .val (.int i327), .val (.int i328), .val (.int i329), .val (.ref b330), .unset, .unset, .unset, .unset] [(.int i326), (.int i323), (.ref b330)])) t → Steps p.tables e below (s₁.setTop (entryFrame m #[(.int p0), (.int p1), (.int p2), (.int p3), (.int p4)] maxLocals)) t := fun t kt => k370 t (by
        show Steps p.tables e below (T366.setTop (mkF m 100 #[.val (.int p0), .val (.int p1), .val (.int p2), .val (.int p3), .val (.int p4), .val (.int (3 : Int32)), .val (.int i323), .val (.int i324), .val (.int i325), .val (.int i326), .val (.int i327), .val (.int i328), .val (.int i329), .val (.ref b330), .unset, .unset, .unset, .unset] [(.ref b330)])) _
        refine st369.trans ?_
        show Steps p.tables e below (T369.setTop (mkF m 103 #[.val (.int p0), .val (.int p1), .val (.int p2), .val (.int p3), .val (.int p4), .val (.int (3 : Int32)), .val (.int i323), .val (.int i324), .val (.int i325), .val (.int i326), .val (.int i327), .val (.int i328), .val (.int i329), .val (.ref b330), .unset, .unset, .unset, .unset] [])) _
        refine XS.iload X369.here hx rfl (hb hby at_103) rfl ?_
        show Steps p.tables e below (T369.setTop (mkF m 105 #[.val (.int p0), .val (.int p1), .val (.int p2), .val (.int p3), .val (.int p4), .val (.int (3 : Int32)), .val (.int i323), .val (.int i324), .val (.int i325), .val (.int i326), .val (.int i327), .val (.int i328), .val (.int i329), .val (.ref b330), .unset, .unset, .unset, .unset] [(.int (3 : Int32))])) _
        refine XS.iconst X369.here hx rfl (hb hby at_105) ?_
        show Steps p.tables e below (T369.setTop (mkF m 106 #[.val (.int p0), .val (.int p1), .val (.int p2), .val (.int p3), .val (.int p4), .val (.int (3 : Int32)), .val (.int i323), .val (.int i324), .val (.int i325), .val (.int i326), .val (.int i327), .val (.int i328), .val (.int i329), .val (.ref b330), .unset, .unset, .unset, .unset] [(.int (1 : Int32)), (.int (3 : Int32))])) _
        refine XS.icmpNo X369.here hx rfl (hb hby at_106) rfl (flt ((by decide) : ¬ ((3 : Int32) < (1 : Int32)))).1 ?_
        show Steps p.tables e below (T369.setTop (mkF m 109 #[.val (.int p0), .val (.int p1), .val (.int p2), .val (.int p3), .val (.int p4), .val (.int (3 : Int32)), .val (.int i323), .val (.int i324), .val (.int i325), .val (.int i326), .val (.int i327), .val (.int i328), .val (.int i329), .val (.ref b330), .unset, .unset, .unset, .unset] [])) _
        refine XS.aload X369.here hx rfl (hb hby at_109) rfl rfl ?_
        show Steps p.tables e below (T369.setTop (mkF m 111 #[.val (.int p0), .val (.int p1), .val (.int p2), .val (.int p3), .val (.int p4), .val (.int (3 : Int32)), .val (.int i323), .val (.int i324), .val (.int i325), .val (.int i326), .val (.int i327), .val (.int i328), .val (.int i329), .val (.ref b330), .unset, .unset, .unset, .unset] [(.ref b330)])) _
        refine XS.iload X369.here hx rfl (hb hby at_111) rfl ?_
        show Steps p.tables e below (T369.setTop (mkF m 113 #[.val (.int p0), .val (.int p1), .val (.int p2), .val (.int p3), .val (.int p4), .val (.int (3 : Int32)), .val (.int i323), .val (.int i324), .val (.int i325), .val (.int i326), .val (.int i327), .val (.int i328), .val (.int i329), .val (.ref b330), .unset, .unset, .unset, .unset] [(.int i323), (.ref b330)])) _
        refine XS.iload X369.here hx rfl (hb hby at_113) rfl ?_
        exact kt)
      obtain ⟨r374, hr374⟩ : ∃ z, z = (f1 i326 wSUSCEPTIBLE wRECOVERED wINFECTED) := ⟨_, rfl⟩
      rw [← hr374] at hQ372
      obtain ⟨rfl, N372q, e372⟩ := hQ372
      have N372 := Fr.app N369 N372q
      have PFr374 := own_state W0 (own_cs3 hi326)
      rw [← hr374] at PFr374
      obtain ⟨E_r374, F_r374⟩ := PFr374
      obtain ⟨cq375, kq375, q375a, q375b, q375c⟩ := isOf hZ e372 E_b330_369
      obtain ⟨_, _, ⟨T375, L375, k375, n375⟩, -, X375, ⟨Lc375, hQ375, l375, y375, z375⟩, st375⟩ := X372.virtualBack hx (y := (⟨"com/example/rippletide/rippletide/model/StateChanges", "add", "(ILcom/example/rippletide/rippletide/model/State;)V"⟩ : MethodName)) (z := (⟨"com/example/rippletide/rippletide/model/StateChanges", "add", "(ILcom/example/rippletide/rippletide/model/State;)V"⟩ : MethodName)) hown (mvT hZ (hw _ (List.mem_of_getElem? (i := 22) rfl))) (mvT hZ (hw _ (List.mem_of_getElem? (i := 23) rfl))) (notFace_of_selects (args := #[]) (mvT hZ (hw _ (List.mem_of_getElem? (i := 25) rfl)))) (mvT hZ (hw _ (List.mem_of_getElem? (i := 25) rfl))) (mvT hZ (hw _ (List.mem_of_getElem? (i := 24) rfl))) (by decide) (backOf (W := 0) (rm4 l Z a0 hw [] b330 i323 r374 b_vertices_331 k_vertices_331 ((p4.toUInt32 >>> ((1 : Int32) &&& 31).toUInt32).toInt32) (0 : Int32) (0 : Int32) b_states_331 k_states_331 (i329.toInt8.toInt32) (0 : Int32) (0 : Int32) i326 wSUSCEPTIBLE wRECOVERED wINFECTED h0 T369.heap n0 (Nat.le_trans Z0 KK369.1) W0 EX369 Zs ⟨E_b330_369, g_b330_369, G_b330_vertices_369, G_b330_states_369, G_b330_count_369, g_b330_vertices_369, ne_b330_vertices_369, V_b330_vertices_369, g_b330_states_369, ne_b330_states_369, V_b330_states_369, nn_b330_vertices_states_369, trivial⟩ F_r374 E_r374 A1) hZ (hw _ (List.mem_of_getElem? (i := 26) rfl)) (hw _ (List.mem_of_getElem? (i := 2) rfl)) (by decide) (by decide)) q375a q375c (g := (mkF m 118 #[.val (.int p0), .val (.int p1), .val (.int p2), .val (.int p3), .val (.int p4), .val (.int (3 : Int32)), .val (.int i323), .val (.int i324), .val (.int i325), .val (.int i326), .val (.int i327), .val (.int i328), .val (.int i329), .val (.ref b330), .unset, .unset, .unset, .unset] [(.ref r374), (.int i323), (.ref b330)])) rfl (by rw [hml]; rfl) (Steps.refl _) (argsL := [(.int i323), (.ref r374)]) (rest := []) (lenOf pd_3 rfl) rfl (by show 2 * 0 + _ ≤ _; exact Nat.le_of_eq rfl) (hb hby at_118) (fun _ _ => ⟨rfl, e372, (by decide : 3 + 0 ≤ _), (by decide : 35 + 0 ≤ _)⟩)
      dsimp only [Pt.U, Pt.locs, Pt.cells, Pt.slots] at X375 l375 y375 z375 st375 hQ375
      subst l375 y375 z375
      unfold Q4 at hQ375
      have k376 : ∀ t, Steps p.tables e below (T372.setTop (mkF m 118 #[.val (.int p0), .val (.int p1), .val (.int p2), .val (.int p3), .val (.int p4), .val (.int (3 : Int32)), .val (.int i323), .val (.int i324), .val (.int i325), .val (.int i326), .val (.int i327), .val (.int i328), .val (.int i329), .val (.ref b330), .unset, .unset, .unset, .unset] [(.ref r374), (.int i323), (.ref b330)])) t → Steps p.tables e below (s₁.setTop (entryFrame m #[(.int p0), (.int p1), (.int p2), (.int p3), (.int p4)] maxLocals)) t := fun t kt => k373 t (by
        show Steps p.tables e below (T369.setTop (mkF m 115 #[.val (.int p0), .val (.int p1), .val (.int p2), .val (.int p3), .val (.int p4), .val (.int (3 : Int32)), .val (.int i323), .val (.int i324), .val (.int i325), .val (.int i326), .val (.int i327), .val (.int i328), .val (.int i329), .val (.ref b330), .unset, .unset, .unset, .unset] [(.int i326), (.int i323), (.ref b330)])) _
        refine st372 _ ?_
        exact kt)
      obtain ⟨rfl, N375q, EXc375, Kc375, OB375_p0⟩ := hQ375
      have N375 := Fr.app N372 N375q
      have EX375 : Ext h0 T375.heap := EXc375
      have KK375 : Keep h0 T375.heap ([] : List Addr) := Keep.trans KK369 Kc375 (allS (Or.inr (Nat.le_trans Zs g_b330_vertices_369)) (allS (Or.inr (Nat.le_trans Zs g_b330_states_369)) (allS (Or.inr (Nat.le_trans Zs g_b330_369)) all0)))
      have OBx375_p0 : Obj Z T375.heap n0 b330 b_vertices_331 k_vertices_331 i323 (0 : Int32) (0 : Int32) b_states_331 k_states_331 (i326.toInt8.toInt32) (0 : Int32) (0 : Int32) (1 : Int32) := OB375_p0
      obtain ⟨E_b330_375, g_b330_375, G_b330_vertices_375, G_b330_states_375, G_b330_count_375, g_b330_vertices_375, ne_b330_vertices_375, V_b330_vertices_375, g_b330_states_375, ne_b330_states_375, V_b330_states_375, nn_b330_vertices_states_375, -⟩ := OBx375_p0
      obtain ⟨_, _, ⟨T378, L378, k378, n378⟩, -, X378, ⟨Lc378, hQ378, l378, y378, z378⟩, st378⟩ := Jvm.LawKit.callS X375 hx (y := (⟨"com/example/rippletide/rippletide/model/StateChangesHashCodePinLaw", "state", "(I)Lcom/example/rippletide/rippletide/model/State;"⟩ : MethodName)) hown (mvT hZ (hw _ (List.mem_of_getElem? (i := 15) rfl))) (mvT hZ (hw _ (List.mem_of_getElem? (i := 16) rfl))) (mvT hZ (hw _ (List.mem_of_getElem? (i := 17) rfl))) (mvT hZ (hw _ (List.mem_of_getElem? (i := 18) rfl))) (by decide) (backOf (W := 2) (rm1 l Z a0 hw [] i327 wSUSCEPTIBLE wRECOVERED wINFECTED T375.heap n0 (Nat.le_trans Z0 KK375.1) (W0.ext EX375) ) hZ (hw _ (List.mem_of_getElem? (i := 18) rfl)) (hw _ (List.mem_of_getElem? (i := 17) rfl)) (by decide) (by decide)) (g := (mkF m 133 #[.val (.int p0), .val (.int p1), .val (.int p2), .val (.int p3), .val (.int p4), .val (.int (3 : Int32)), .val (.int i323), .val (.int i324), .val (.int i325), .val (.int i326), .val (.int i327), .val (.int i328), .val (.int i329), .val (.ref b330), .unset, .unset, .unset, .unset] [(.int i327), (.int i324), (.ref b330)])) rfl (by rw [hml]; rfl) (argsL := [(.int i327)]) (rest := [(.int i324), (.ref b330)]) (lenOf pd_2 rfl) rfl (by show 2 * 0 + _ ≤ _; exact Nat.le_of_eq rfl) (hb hby at_133) (fun _ _ => ⟨rfl, rfl, (by decide : 3 + 0 ≤ _), (by decide : 35 + 0 ≤ _)⟩)
      dsimp only [Pt.U, Pt.locs, Pt.cells, Pt.slots] at X378 l378 y378 z378 st378 hQ378
      subst l378 y378 z378
      unfold Q1 at hQ378
      have k379 : ∀ t, Steps p.tables e below (T375.setTop (mkF m 133 #[.val (.int p0), .val (.int p1), .val (.int p2), .val (.int p3), .val (.int p4), .val (.int (3 : Int32)), .val (.int i323), .val (.int i324), .val (.int i325), .val (.int i326), .val (.int i327), .val (.int i328), .val (.int i329), .val (.ref b330), .unset, .unset, .unset, .unset] [(.int i327), (.int i324), (.ref b330)])) t → Steps p.tables e below (s₁.setTop (entryFrame m #[(.int p0), (.int p1), (.int p2), (.int p3), (.int p4)] maxLocals)) t := fun t kt => k376 t (by
        show Steps p.tables e below (T372.setTop (mkF m 118 #[.val (.int p0), .val (.int p1), .val (.int p2), .val (.int p3), .val (.int p4), .val (.int (3 : Int32)), .val (.int i323), .val (.int i324), .val (.int i325), .val (.int i326), .val (.int i327), .val (.int i328), .val (.int i329), .val (.ref b330), .unset, .unset, .unset, .unset] [(.ref r374), (.int i323), (.ref b330)])) _
        refine st375.trans ?_
        show Steps p.tables e below (T375.setTop (mkF m 121 #[.val (.int p0), .val (.int p1), .val (.int p2), .val (.int p3), .val (.int p4), .val (.int (3 : Int32)), .val (.int i323), .val (.int i324), .val (.int i325), .val (.int i326), .val (.int i327), .val (.int i328), .val (.int i329), .val (.ref b330), .unset, .unset, .unset, .unset] [])) _
        refine XS.iload X375.here hx rfl (hb hby at_121) rfl ?_
        show Steps p.tables e below (T375.setTop (mkF m 123 #[.val (.int p0), .val (.int p1), .val (.int p2), .val (.int p3), .val (.int p4), .val (.int (3 : Int32)), .val (.int i323), .val (.int i324), .val (.int i325), .val (.int i326), .val (.int i327), .val (.int i328), .val (.int i329), .val (.ref b330), .unset, .unset, .unset, .unset] [(.int (3 : Int32))])) _
        refine XS.iconst X375.here hx rfl (hb hby at_123) ?_
        show Steps p.tables e below (T375.setTop (mkF m 124 #[.val (.int p0), .val (.int p1), .val (.int p2), .val (.int p3), .val (.int p4), .val (.int (3 : Int32)), .val (.int i323), .val (.int i324), .val (.int i325), .val (.int i326), .val (.int i327), .val (.int i328), .val (.int i329), .val (.ref b330), .unset, .unset, .unset, .unset] [(.int (2 : Int32)), (.int (3 : Int32))])) _
        refine XS.icmpNo X375.here hx rfl (hb hby at_124) rfl (flt ((by decide) : ¬ ((3 : Int32) < (2 : Int32)))).1 ?_
        show Steps p.tables e below (T375.setTop (mkF m 127 #[.val (.int p0), .val (.int p1), .val (.int p2), .val (.int p3), .val (.int p4), .val (.int (3 : Int32)), .val (.int i323), .val (.int i324), .val (.int i325), .val (.int i326), .val (.int i327), .val (.int i328), .val (.int i329), .val (.ref b330), .unset, .unset, .unset, .unset] [])) _
        refine XS.aload X375.here hx rfl (hb hby at_127) rfl rfl ?_
        show Steps p.tables e below (T375.setTop (mkF m 129 #[.val (.int p0), .val (.int p1), .val (.int p2), .val (.int p3), .val (.int p4), .val (.int (3 : Int32)), .val (.int i323), .val (.int i324), .val (.int i325), .val (.int i326), .val (.int i327), .val (.int i328), .val (.int i329), .val (.ref b330), .unset, .unset, .unset, .unset] [(.ref b330)])) _
        refine XS.iload X375.here hx rfl (hb hby at_129) rfl ?_
        show Steps p.tables e below (T375.setTop (mkF m 131 #[.val (.int p0), .val (.int p1), .val (.int p2), .val (.int p3), .val (.int p4), .val (.int (3 : Int32)), .val (.int i323), .val (.int i324), .val (.int i325), .val (.int i326), .val (.int i327), .val (.int i328), .val (.int i329), .val (.ref b330), .unset, .unset, .unset, .unset] [(.int i324), (.ref b330)])) _
        refine XS.iload X375.here hx rfl (hb hby at_131) rfl ?_
        exact kt)
      obtain ⟨r380, hr380⟩ : ∃ z, z = (f1 i327 wSUSCEPTIBLE wRECOVERED wINFECTED) := ⟨_, rfl⟩
      rw [← hr380] at hQ378
      obtain ⟨rfl, N378q, e378⟩ := hQ378
      have N378 := Fr.app N375 N378q
      have PFr380 := own_state W0 (own_cs3 hi327)
      rw [← hr380] at PFr380
      obtain ⟨E_r380, F_r380⟩ := PFr380
      obtain ⟨cq381, kq381, q381a, q381b, q381c⟩ := isOf hZ e378 E_b330_375
      obtain ⟨_, _, ⟨T381, L381, k381, n381⟩, -, X381, ⟨Lc381, hQ381, l381, y381, z381⟩, st381⟩ := X378.virtualBack hx (y := (⟨"com/example/rippletide/rippletide/model/StateChanges", "add", "(ILcom/example/rippletide/rippletide/model/State;)V"⟩ : MethodName)) (z := (⟨"com/example/rippletide/rippletide/model/StateChanges", "add", "(ILcom/example/rippletide/rippletide/model/State;)V"⟩ : MethodName)) hown (mvT hZ (hw _ (List.mem_of_getElem? (i := 22) rfl))) (mvT hZ (hw _ (List.mem_of_getElem? (i := 23) rfl))) (notFace_of_selects (args := #[]) (mvT hZ (hw _ (List.mem_of_getElem? (i := 25) rfl)))) (mvT hZ (hw _ (List.mem_of_getElem? (i := 25) rfl))) (mvT hZ (hw _ (List.mem_of_getElem? (i := 24) rfl))) (by decide) (backOf (W := 0) (rm5 l Z a0 hw [] b330 i324 r380 b_vertices_331 k_vertices_331 i323 (0 : Int32) (0 : Int32) b_states_331 k_states_331 (i326.toInt8.toInt32) (0 : Int32) (0 : Int32) i327 wSUSCEPTIBLE wRECOVERED wINFECTED h0 T375.heap n0 (Nat.le_trans Z0 KK375.1) W0 EX375 Zs ⟨E_b330_375, g_b330_375, G_b330_vertices_375, G_b330_states_375, G_b330_count_375, g_b330_vertices_375, ne_b330_vertices_375, V_b330_vertices_375, g_b330_states_375, ne_b330_states_375, V_b330_states_375, nn_b330_vertices_states_375, trivial⟩ F_r380 E_r380 A3 A2) hZ (hw _ (List.mem_of_getElem? (i := 26) rfl)) (hw _ (List.mem_of_getElem? (i := 2) rfl)) (by decide) (by decide)) q381a q381c (g := (mkF m 136 #[.val (.int p0), .val (.int p1), .val (.int p2), .val (.int p3), .val (.int p4), .val (.int (3 : Int32)), .val (.int i323), .val (.int i324), .val (.int i325), .val (.int i326), .val (.int i327), .val (.int i328), .val (.int i329), .val (.ref b330), .unset, .unset, .unset, .unset] [(.ref r380), (.int i324), (.ref b330)])) rfl (by rw [hml]; rfl) (Steps.refl _) (argsL := [(.int i324), (.ref r380)]) (rest := []) (lenOf pd_3 rfl) rfl (by show 2 * 0 + _ ≤ _; exact Nat.le_of_eq rfl) (hb hby at_136) (fun _ _ => ⟨rfl, e378, (by decide : 3 + 0 ≤ _), (by decide : 35 + 0 ≤ _)⟩)
      dsimp only [Pt.U, Pt.locs, Pt.cells, Pt.slots] at X381 l381 y381 z381 st381 hQ381
      subst l381 y381 z381
      unfold Q5 at hQ381
      have k382 : ∀ t, Steps p.tables e below (T378.setTop (mkF m 136 #[.val (.int p0), .val (.int p1), .val (.int p2), .val (.int p3), .val (.int p4), .val (.int (3 : Int32)), .val (.int i323), .val (.int i324), .val (.int i325), .val (.int i326), .val (.int i327), .val (.int i328), .val (.int i329), .val (.ref b330), .unset, .unset, .unset, .unset] [(.ref r380), (.int i324), (.ref b330)])) t → Steps p.tables e below (s₁.setTop (entryFrame m #[(.int p0), (.int p1), (.int p2), (.int p3), (.int p4)] maxLocals)) t := fun t kt => k379 t (by
        show Steps p.tables e below (T375.setTop (mkF m 133 #[.val (.int p0), .val (.int p1), .val (.int p2), .val (.int p3), .val (.int p4), .val (.int (3 : Int32)), .val (.int i323), .val (.int i324), .val (.int i325), .val (.int i326), .val (.int i327), .val (.int i328), .val (.int i329), .val (.ref b330), .unset, .unset, .unset, .unset] [(.int i327), (.int i324), (.ref b330)])) _
        refine st378 _ ?_
        exact kt)
      obtain ⟨rfl, N381q, EXc381, Kc381, OB381_p0⟩ := hQ381
      have N381 := Fr.app N378 N381q
      have EX381 : Ext h0 T381.heap := EXc381
      have KK381 : Keep h0 T381.heap ([] : List Addr) := Keep.trans KK375 Kc381 (allS (Or.inr (Nat.le_trans Zs g_b330_vertices_375)) (allS (Or.inr (Nat.le_trans Zs g_b330_states_375)) (allS (Or.inr (Nat.le_trans Zs g_b330_375)) all0)))
      have OBx381_p0 : Obj Z T381.heap n0 b330 b_vertices_331 k_vertices_331 i323 i324 (0 : Int32) b_states_331 k_states_331 (i326.toInt8.toInt32) (i327.toInt8.toInt32) (0 : Int32) (2 : Int32) := OB381_p0
      obtain ⟨E_b330_381, g_b330_381, G_b330_vertices_381, G_b330_states_381, G_b330_count_381, g_b330_vertices_381, ne_b330_vertices_381, V_b330_vertices_381, g_b330_states_381, ne_b330_states_381, V_b330_states_381, nn_b330_vertices_states_381, -⟩ := OBx381_p0
      obtain ⟨_, _, ⟨T384, L384, k384, n384⟩, -, X384, ⟨Lc384, hQ384, l384, y384, z384⟩, st384⟩ := Jvm.LawKit.callS X381 hx (y := (⟨"com/example/rippletide/rippletide/model/StateChangesHashCodePinLaw", "state", "(I)Lcom/example/rippletide/rippletide/model/State;"⟩ : MethodName)) hown (mvT hZ (hw _ (List.mem_of_getElem? (i := 15) rfl))) (mvT hZ (hw _ (List.mem_of_getElem? (i := 16) rfl))) (mvT hZ (hw _ (List.mem_of_getElem? (i := 17) rfl))) (mvT hZ (hw _ (List.mem_of_getElem? (i := 18) rfl))) (by decide) (backOf (W := 2) (rm1 l Z a0 hw [] i328 wSUSCEPTIBLE wRECOVERED wINFECTED T381.heap n0 (Nat.le_trans Z0 KK381.1) (W0.ext EX381) ) hZ (hw _ (List.mem_of_getElem? (i := 18) rfl)) (hw _ (List.mem_of_getElem? (i := 17) rfl)) (by decide) (by decide)) (g := (mkF m 151 #[.val (.int p0), .val (.int p1), .val (.int p2), .val (.int p3), .val (.int p4), .val (.int (3 : Int32)), .val (.int i323), .val (.int i324), .val (.int i325), .val (.int i326), .val (.int i327), .val (.int i328), .val (.int i329), .val (.ref b330), .unset, .unset, .unset, .unset] [(.int i328), (.int i325), (.ref b330)])) rfl (by rw [hml]; rfl) (argsL := [(.int i328)]) (rest := [(.int i325), (.ref b330)]) (lenOf pd_2 rfl) rfl (by show 2 * 0 + _ ≤ _; exact Nat.le_of_eq rfl) (hb hby at_151) (fun _ _ => ⟨rfl, rfl, (by decide : 3 + 0 ≤ _), (by decide : 35 + 0 ≤ _)⟩)
      dsimp only [Pt.U, Pt.locs, Pt.cells, Pt.slots] at X384 l384 y384 z384 st384 hQ384
      subst l384 y384 z384
      unfold Q1 at hQ384
      have k385 : ∀ t, Steps p.tables e below (T381.setTop (mkF m 151 #[.val (.int p0), .val (.int p1), .val (.int p2), .val (.int p3), .val (.int p4), .val (.int (3 : Int32)), .val (.int i323), .val (.int i324), .val (.int i325), .val (.int i326), .val (.int i327), .val (.int i328), .val (.int i329), .val (.ref b330), .unset, .unset, .unset, .unset] [(.int i328), (.int i325), (.ref b330)])) t → Steps p.tables e below (s₁.setTop (entryFrame m #[(.int p0), (.int p1), (.int p2), (.int p3), (.int p4)] maxLocals)) t := fun t kt => k382 t (by
        show Steps p.tables e below (T378.setTop (mkF m 136 #[.val (.int p0), .val (.int p1), .val (.int p2), .val (.int p3), .val (.int p4), .val (.int (3 : Int32)), .val (.int i323), .val (.int i324), .val (.int i325), .val (.int i326), .val (.int i327), .val (.int i328), .val (.int i329), .val (.ref b330), .unset, .unset, .unset, .unset] [(.ref r380), (.int i324), (.ref b330)])) _
        refine st381.trans ?_
        show Steps p.tables e below (T381.setTop (mkF m 139 #[.val (.int p0), .val (.int p1), .val (.int p2), .val (.int p3), .val (.int p4), .val (.int (3 : Int32)), .val (.int i323), .val (.int i324), .val (.int i325), .val (.int i326), .val (.int i327), .val (.int i328), .val (.int i329), .val (.ref b330), .unset, .unset, .unset, .unset] [])) _
        refine XS.iload X381.here hx rfl (hb hby at_139) rfl ?_
        show Steps p.tables e below (T381.setTop (mkF m 141 #[.val (.int p0), .val (.int p1), .val (.int p2), .val (.int p3), .val (.int p4), .val (.int (3 : Int32)), .val (.int i323), .val (.int i324), .val (.int i325), .val (.int i326), .val (.int i327), .val (.int i328), .val (.int i329), .val (.ref b330), .unset, .unset, .unset, .unset] [(.int (3 : Int32))])) _
        refine XS.iconst X381.here hx rfl (hb hby at_141) ?_
        show Steps p.tables e below (T381.setTop (mkF m 142 #[.val (.int p0), .val (.int p1), .val (.int p2), .val (.int p3), .val (.int p4), .val (.int (3 : Int32)), .val (.int i323), .val (.int i324), .val (.int i325), .val (.int i326), .val (.int i327), .val (.int i328), .val (.int i329), .val (.ref b330), .unset, .unset, .unset, .unset] [(.int (3 : Int32)), (.int (3 : Int32))])) _
        refine XS.icmpNo X381.here hx rfl (hb hby at_142) rfl (flt ((by first | exact Int32.lt_irrefl _ | decide) : ¬ ((3 : Int32) < (3 : Int32)))).1 ?_
        show Steps p.tables e below (T381.setTop (mkF m 145 #[.val (.int p0), .val (.int p1), .val (.int p2), .val (.int p3), .val (.int p4), .val (.int (3 : Int32)), .val (.int i323), .val (.int i324), .val (.int i325), .val (.int i326), .val (.int i327), .val (.int i328), .val (.int i329), .val (.ref b330), .unset, .unset, .unset, .unset] [])) _
        refine XS.aload X381.here hx rfl (hb hby at_145) rfl rfl ?_
        show Steps p.tables e below (T381.setTop (mkF m 147 #[.val (.int p0), .val (.int p1), .val (.int p2), .val (.int p3), .val (.int p4), .val (.int (3 : Int32)), .val (.int i323), .val (.int i324), .val (.int i325), .val (.int i326), .val (.int i327), .val (.int i328), .val (.int i329), .val (.ref b330), .unset, .unset, .unset, .unset] [(.ref b330)])) _
        refine XS.iload X381.here hx rfl (hb hby at_147) rfl ?_
        show Steps p.tables e below (T381.setTop (mkF m 149 #[.val (.int p0), .val (.int p1), .val (.int p2), .val (.int p3), .val (.int p4), .val (.int (3 : Int32)), .val (.int i323), .val (.int i324), .val (.int i325), .val (.int i326), .val (.int i327), .val (.int i328), .val (.int i329), .val (.ref b330), .unset, .unset, .unset, .unset] [(.int i325), (.ref b330)])) _
        refine XS.iload X381.here hx rfl (hb hby at_149) rfl ?_
        exact kt)
      obtain ⟨r386, hr386⟩ : ∃ z, z = (f1 i328 wSUSCEPTIBLE wRECOVERED wINFECTED) := ⟨_, rfl⟩
      rw [← hr386] at hQ384
      obtain ⟨rfl, N384q, e384⟩ := hQ384
      have N384 := Fr.app N381 N384q
      have PFr386 := own_state W0 (own_cs3 hi328)
      rw [← hr386] at PFr386
      obtain ⟨E_r386, F_r386⟩ := PFr386
      obtain ⟨cq387, kq387, q387a, q387b, q387c⟩ := isOf hZ e384 E_b330_381
      obtain ⟨_, _, ⟨T387, L387, k387, n387⟩, -, X387, ⟨Lc387, hQ387, l387, y387, z387⟩, st387⟩ := X384.virtualBack hx (y := (⟨"com/example/rippletide/rippletide/model/StateChanges", "add", "(ILcom/example/rippletide/rippletide/model/State;)V"⟩ : MethodName)) (z := (⟨"com/example/rippletide/rippletide/model/StateChanges", "add", "(ILcom/example/rippletide/rippletide/model/State;)V"⟩ : MethodName)) hown (mvT hZ (hw _ (List.mem_of_getElem? (i := 22) rfl))) (mvT hZ (hw _ (List.mem_of_getElem? (i := 23) rfl))) (notFace_of_selects (args := #[]) (mvT hZ (hw _ (List.mem_of_getElem? (i := 25) rfl)))) (mvT hZ (hw _ (List.mem_of_getElem? (i := 25) rfl))) (mvT hZ (hw _ (List.mem_of_getElem? (i := 24) rfl))) (by decide) (backOf (W := 0) (rm6 l Z a0 hw [] b330 i325 r386 b_vertices_331 k_vertices_331 i323 i324 (0 : Int32) b_states_331 k_states_331 (i326.toInt8.toInt32) (i327.toInt8.toInt32) (0 : Int32) i328 wSUSCEPTIBLE wRECOVERED wINFECTED h0 T381.heap n0 (Nat.le_trans Z0 KK381.1) W0 EX381 Zs ⟨E_b330_381, g_b330_381, G_b330_vertices_381, G_b330_states_381, G_b330_count_381, g_b330_vertices_381, ne_b330_vertices_381, V_b330_vertices_381, g_b330_states_381, ne_b330_states_381, V_b330_states_381, nn_b330_vertices_states_381, trivial⟩ F_r386 E_r386 A5 A4) hZ (hw _ (List.mem_of_getElem? (i := 26) rfl)) (hw _ (List.mem_of_getElem? (i := 2) rfl)) (by decide) (by decide)) q387a q387c (g := (mkF m 154 #[.val (.int p0), .val (.int p1), .val (.int p2), .val (.int p3), .val (.int p4), .val (.int (3 : Int32)), .val (.int i323), .val (.int i324), .val (.int i325), .val (.int i326), .val (.int i327), .val (.int i328), .val (.int i329), .val (.ref b330), .unset, .unset, .unset, .unset] [(.ref r386), (.int i325), (.ref b330)])) rfl (by rw [hml]; rfl) (Steps.refl _) (argsL := [(.int i325), (.ref r386)]) (rest := []) (lenOf pd_3 rfl) rfl (by show 2 * 0 + _ ≤ _; exact Nat.le_of_eq rfl) (hb hby at_154) (fun _ _ => ⟨rfl, e384, (by decide : 3 + 0 ≤ _), (by decide : 35 + 0 ≤ _)⟩)
      dsimp only [Pt.U, Pt.locs, Pt.cells, Pt.slots] at X387 l387 y387 z387 st387 hQ387
      subst l387 y387 z387
      unfold Q6 at hQ387
      have k388 : ∀ t, Steps p.tables e below (T384.setTop (mkF m 154 #[.val (.int p0), .val (.int p1), .val (.int p2), .val (.int p3), .val (.int p4), .val (.int (3 : Int32)), .val (.int i323), .val (.int i324), .val (.int i325), .val (.int i326), .val (.int i327), .val (.int i328), .val (.int i329), .val (.ref b330), .unset, .unset, .unset, .unset] [(.ref r386), (.int i325), (.ref b330)])) t → Steps p.tables e below (s₁.setTop (entryFrame m #[(.int p0), (.int p1), (.int p2), (.int p3), (.int p4)] maxLocals)) t := fun t kt => k385 t (by
        show Steps p.tables e below (T381.setTop (mkF m 151 #[.val (.int p0), .val (.int p1), .val (.int p2), .val (.int p3), .val (.int p4), .val (.int (3 : Int32)), .val (.int i323), .val (.int i324), .val (.int i325), .val (.int i326), .val (.int i327), .val (.int i328), .val (.int i329), .val (.ref b330), .unset, .unset, .unset, .unset] [(.int i328), (.int i325), (.ref b330)])) _
        refine st384 _ ?_
        exact kt)
      obtain ⟨rfl, N387q, EXc387, Kc387, OB387_p0⟩ := hQ387
      have N387 := Fr.app N384 N387q
      have EX387 : Ext h0 T387.heap := EXc387
      have KK387 : Keep h0 T387.heap ([] : List Addr) := Keep.trans KK381 Kc387 (allS (Or.inr (Nat.le_trans Zs g_b330_vertices_381)) (allS (Or.inr (Nat.le_trans Zs g_b330_states_381)) (allS (Or.inr (Nat.le_trans Zs g_b330_381)) all0)))
      have OBx387_p0 : Obj Z T387.heap n0 b330 b_vertices_331 k_vertices_331 i323 i324 i325 b_states_331 k_states_331 (i326.toInt8.toInt32) (i327.toInt8.toInt32) (i328.toInt8.toInt32) (3 : Int32) := OB387_p0
      obtain ⟨E_b330_387, g_b330_387, G_b330_vertices_387, G_b330_states_387, G_b330_count_387, g_b330_vertices_387, ne_b330_vertices_387, V_b330_vertices_387, g_b330_states_387, ne_b330_states_387, V_b330_states_387, nn_b330_vertices_states_387, -⟩ := OBx387_p0
      obtain ⟨i390, hi390⟩ : ∃ z, z = (((31 : Int32) * i323) + i326) := ⟨_, rfl⟩
      obtain ⟨i391, hi391⟩ : ∃ z, z = (((31 : Int32) * i324) + i327) := ⟨_, rfl⟩
      obtain ⟨i392, hi392⟩ : ∃ z, z = (((31 : Int32) * i325) + i328) := ⟨_, rfl⟩
      obtain ⟨i393, hi393⟩ : ∃ z, z = ((((887503681 : Int32) + ((923521 : Int32) * i390)) + ((961 : Int32) * i391)) + i392) := ⟨_, rfl⟩
      obtain ⟨cq394, kq394, q394a, q394b, q394c⟩ := isOf hZ rfl E_b330_387
      obtain ⟨_, _, ⟨T394, L394, k394, n394⟩, -, X394, ⟨Lc394, hQ394, l394, y394, z394⟩, st394⟩ := X387.virtualBack hx (y := (⟨"com/example/rippletide/rippletide/model/StateChanges", "hashCode", "()I"⟩ : MethodName)) (z := (⟨"com/example/rippletide/rippletide/model/StateChanges", "hashCode", "()I"⟩ : MethodName)) hown (mvT hZ (hw _ (List.mem_of_getElem? (i := 38) rfl))) (mvT hZ (hw _ (List.mem_of_getElem? (i := 39) rfl))) (notFace_of_selects (args := #[]) (mvT hZ (hw _ (List.mem_of_getElem? (i := 41) rfl)))) (mvT hZ (hw _ (List.mem_of_getElem? (i := 41) rfl))) (mvT hZ (hw _ (List.mem_of_getElem? (i := 40) rfl))) (by decide) (backOf (W := 0) (rm11 l Z a0 hw [] b330 b_vertices_331 k_vertices_331 i323 i324 i325 b_states_331 k_states_331 (i326.toInt8.toInt32) (i327.toInt8.toInt32) (i328.toInt8.toInt32) wSUSCEPTIBLE wRECOVERED wINFECTED h0 T387.heap n0 (Nat.le_trans Z0 KK387.1) W0 EX387 Zs ⟨E_b330_387, g_b330_387, G_b330_vertices_387, G_b330_states_387, G_b330_count_387, g_b330_vertices_387, ne_b330_vertices_387, V_b330_vertices_387, g_b330_states_387, ne_b330_states_387, V_b330_states_387, nn_b330_vertices_states_387, trivial⟩ ) hZ (hw _ (List.mem_of_getElem? (i := 42) rfl)) (hw _ (List.mem_of_getElem? (i := 2) rfl)) (by decide) (by decide)) q394a q394c (g := (mkF m 260 #[.val (.int p0), .val (.int p1), .val (.int p2), .val (.int p3), .val (.int p4), .val (.int (3 : Int32)), .val (.int i323), .val (.int i324), .val (.int i325), .val (.int i326), .val (.int i327), .val (.int i328), .val (.int i329), .val (.ref b330), .val (.int i390), .val (.int i391), .val (.int i392), .val (.int i393)] [(.ref b330)])) rfl (by rw [hml]; rfl) (Steps.refl _) (argsL := []) (rest := []) (lenOf pd_0 rfl) rfl (by show 2 * 0 + _ ≤ _; exact Nat.le_of_eq rfl) (hb hby at_260) (fun _ _ => ⟨rfl, rfl, (by decide : 3 + 0 ≤ _), (by decide : 35 + 0 ≤ _)⟩)
      dsimp only [Pt.U, Pt.locs, Pt.cells, Pt.slots] at X394 l394 y394 z394 st394 hQ394
      subst l394 y394 z394
      unfold Q11 at hQ394
      have k395 : ∀ t, Steps p.tables e below (T387.setTop (mkF m 260 #[.val (.int p0), .val (.int p1), .val (.int p2), .val (.int p3), .val (.int p4), .val (.int (3 : Int32)), .val (.int i323), .val (.int i324), .val (.int i325), .val (.int i326), .val (.int i327), .val (.int i328), .val (.int i329), .val (.ref b330), .val (.int i390), .val (.int i391), .val (.int i392), .val (.int i393)] [(.ref b330)])) t → Steps p.tables e below (s₁.setTop (entryFrame m #[(.int p0), (.int p1), (.int p2), (.int p3), (.int p4)] maxLocals)) t := fun t kt => k388 t (by
        show Steps p.tables e below (T384.setTop (mkF m 154 #[.val (.int p0), .val (.int p1), .val (.int p2), .val (.int p3), .val (.int p4), .val (.int (3 : Int32)), .val (.int i323), .val (.int i324), .val (.int i325), .val (.int i326), .val (.int i327), .val (.int i328), .val (.int i329), .val (.ref b330), .unset, .unset, .unset, .unset] [(.ref r386), (.int i325), (.ref b330)])) _
        refine st387.trans ?_
        show Steps p.tables e below (T387.setTop (mkF m 157 #[.val (.int p0), .val (.int p1), .val (.int p2), .val (.int p3), .val (.int p4), .val (.int (3 : Int32)), .val (.int i323), .val (.int i324), .val (.int i325), .val (.int i326), .val (.int i327), .val (.int i328), .val (.int i329), .val (.ref b330), .unset, .unset, .unset, .unset] [])) _
        refine XS.bipush X387.here hx rfl (hb hby at_157) ?_
        show Steps p.tables e below (T387.setTop (mkF m 159 #[.val (.int p0), .val (.int p1), .val (.int p2), .val (.int p3), .val (.int p4), .val (.int (3 : Int32)), .val (.int i323), .val (.int i324), .val (.int i325), .val (.int i326), .val (.int i327), .val (.int i328), .val (.int i329), .val (.ref b330), .unset, .unset, .unset, .unset] [(.int (31 : Int32))])) _
        refine XS.iload X387.here hx rfl (hb hby at_159) rfl ?_
        show Steps p.tables e below (T387.setTop (mkF m 161 #[.val (.int p0), .val (.int p1), .val (.int p2), .val (.int p3), .val (.int p4), .val (.int (3 : Int32)), .val (.int i323), .val (.int i324), .val (.int i325), .val (.int i326), .val (.int i327), .val (.int i328), .val (.int i329), .val (.ref b330), .unset, .unset, .unset, .unset] [(.int i323), (.int (31 : Int32))])) _
        refine XS.imul X387.here hx rfl (hb hby at_161) rfl ?_
        show Steps p.tables e below (T387.setTop (mkF m 162 #[.val (.int p0), .val (.int p1), .val (.int p2), .val (.int p3), .val (.int p4), .val (.int (3 : Int32)), .val (.int i323), .val (.int i324), .val (.int i325), .val (.int i326), .val (.int i327), .val (.int i328), .val (.int i329), .val (.ref b330), .unset, .unset, .unset, .unset] [(.int ((31 : Int32) * i323))])) _
        refine XS.iload X387.here hx rfl (hb hby at_162) rfl ?_
        show Steps p.tables e below (T387.setTop (mkF m 164 #[.val (.int p0), .val (.int p1), .val (.int p2), .val (.int p3), .val (.int p4), .val (.int (3 : Int32)), .val (.int i323), .val (.int i324), .val (.int i325), .val (.int i326), .val (.int i327), .val (.int i328), .val (.int i329), .val (.ref b330), .unset, .unset, .unset, .unset] [(.int i326), (.int ((31 : Int32) * i323))])) _
        refine XS.iadd X387.here hx rfl (hb hby at_164) rfl ?_
        rw [← hi390]
        show Steps p.tables e below (T387.setTop (mkF m 165 #[.val (.int p0), .val (.int p1), .val (.int p2), .val (.int p3), .val (.int p4), .val (.int (3 : Int32)), .val (.int i323), .val (.int i324), .val (.int i325), .val (.int i326), .val (.int i327), .val (.int i328), .val (.int i329), .val (.ref b330), .unset, .unset, .unset, .unset] [(.int i390)])) _
        refine XS.istore X387.here hx rfl (hb hby at_165) rfl (l' := #[.val (.int p0), .val (.int p1), .val (.int p2), .val (.int p3), .val (.int p4), .val (.int (3 : Int32)), .val (.int i323), .val (.int i324), .val (.int i325), .val (.int i326), .val (.int i327), .val (.int i328), .val (.int i329), .val (.ref b330), .val (.int i390), .unset, .unset, .unset]) rfl ?_
        show Steps p.tables e below (T387.setTop (mkF m 167 #[.val (.int p0), .val (.int p1), .val (.int p2), .val (.int p3), .val (.int p4), .val (.int (3 : Int32)), .val (.int i323), .val (.int i324), .val (.int i325), .val (.int i326), .val (.int i327), .val (.int i328), .val (.int i329), .val (.ref b330), .val (.int i390), .unset, .unset, .unset] [])) _
        refine XS.bipush X387.here hx rfl (hb hby at_167) ?_
        show Steps p.tables e below (T387.setTop (mkF m 169 #[.val (.int p0), .val (.int p1), .val (.int p2), .val (.int p3), .val (.int p4), .val (.int (3 : Int32)), .val (.int i323), .val (.int i324), .val (.int i325), .val (.int i326), .val (.int i327), .val (.int i328), .val (.int i329), .val (.ref b330), .val (.int i390), .unset, .unset, .unset] [(.int (31 : Int32))])) _
        refine XS.iload X387.here hx rfl (hb hby at_169) rfl ?_
        show Steps p.tables e below (T387.setTop (mkF m 171 #[.val (.int p0), .val (.int p1), .val (.int p2), .val (.int p3), .val (.int p4), .val (.int (3 : Int32)), .val (.int i323), .val (.int i324), .val (.int i325), .val (.int i326), .val (.int i327), .val (.int i328), .val (.int i329), .val (.ref b330), .val (.int i390), .unset, .unset, .unset] [(.int i324), (.int (31 : Int32))])) _
        refine XS.imul X387.here hx rfl (hb hby at_171) rfl ?_
        show Steps p.tables e below (T387.setTop (mkF m 172 #[.val (.int p0), .val (.int p1), .val (.int p2), .val (.int p3), .val (.int p4), .val (.int (3 : Int32)), .val (.int i323), .val (.int i324), .val (.int i325), .val (.int i326), .val (.int i327), .val (.int i328), .val (.int i329), .val (.ref b330), .val (.int i390), .unset, .unset, .unset] [(.int ((31 : Int32) * i324))])) _
        refine XS.iload X387.here hx rfl (hb hby at_172) rfl ?_
        show Steps p.tables e below (T387.setTop (mkF m 174 #[.val (.int p0), .val (.int p1), .val (.int p2), .val (.int p3), .val (.int p4), .val (.int (3 : Int32)), .val (.int i323), .val (.int i324), .val (.int i325), .val (.int i326), .val (.int i327), .val (.int i328), .val (.int i329), .val (.ref b330), .val (.int i390), .unset, .unset, .unset] [(.int i327), (.int ((31 : Int32) * i324))])) _
        refine XS.iadd X387.here hx rfl (hb hby at_174) rfl ?_
        rw [← hi391]
        show Steps p.tables e below (T387.setTop (mkF m 175 #[.val (.int p0), .val (.int p1), .val (.int p2), .val (.int p3), .val (.int p4), .val (.int (3 : Int32)), .val (.int i323), .val (.int i324), .val (.int i325), .val (.int i326), .val (.int i327), .val (.int i328), .val (.int i329), .val (.ref b330), .val (.int i390), .unset, .unset, .unset] [(.int i391)])) _
        refine XS.istore X387.here hx rfl (hb hby at_175) rfl (l' := #[.val (.int p0), .val (.int p1), .val (.int p2), .val (.int p3), .val (.int p4), .val (.int (3 : Int32)), .val (.int i323), .val (.int i324), .val (.int i325), .val (.int i326), .val (.int i327), .val (.int i328), .val (.int i329), .val (.ref b330), .val (.int i390), .val (.int i391), .unset, .unset]) rfl ?_
        show Steps p.tables e below (T387.setTop (mkF m 177 #[.val (.int p0), .val (.int p1), .val (.int p2), .val (.int p3), .val (.int p4), .val (.int (3 : Int32)), .val (.int i323), .val (.int i324), .val (.int i325), .val (.int i326), .val (.int i327), .val (.int i328), .val (.int i329), .val (.ref b330), .val (.int i390), .val (.int i391), .unset, .unset] [])) _
        refine XS.bipush X387.here hx rfl (hb hby at_177) ?_
        show Steps p.tables e below (T387.setTop (mkF m 179 #[.val (.int p0), .val (.int p1), .val (.int p2), .val (.int p3), .val (.int p4), .val (.int (3 : Int32)), .val (.int i323), .val (.int i324), .val (.int i325), .val (.int i326), .val (.int i327), .val (.int i328), .val (.int i329), .val (.ref b330), .val (.int i390), .val (.int i391), .unset, .unset] [(.int (31 : Int32))])) _
        refine XS.iload X387.here hx rfl (hb hby at_179) rfl ?_
        show Steps p.tables e below (T387.setTop (mkF m 181 #[.val (.int p0), .val (.int p1), .val (.int p2), .val (.int p3), .val (.int p4), .val (.int (3 : Int32)), .val (.int i323), .val (.int i324), .val (.int i325), .val (.int i326), .val (.int i327), .val (.int i328), .val (.int i329), .val (.ref b330), .val (.int i390), .val (.int i391), .unset, .unset] [(.int i325), (.int (31 : Int32))])) _
        refine XS.imul X387.here hx rfl (hb hby at_181) rfl ?_
        show Steps p.tables e below (T387.setTop (mkF m 182 #[.val (.int p0), .val (.int p1), .val (.int p2), .val (.int p3), .val (.int p4), .val (.int (3 : Int32)), .val (.int i323), .val (.int i324), .val (.int i325), .val (.int i326), .val (.int i327), .val (.int i328), .val (.int i329), .val (.ref b330), .val (.int i390), .val (.int i391), .unset, .unset] [(.int ((31 : Int32) * i325))])) _
        refine XS.iload X387.here hx rfl (hb hby at_182) rfl ?_
        show Steps p.tables e below (T387.setTop (mkF m 184 #[.val (.int p0), .val (.int p1), .val (.int p2), .val (.int p3), .val (.int p4), .val (.int (3 : Int32)), .val (.int i323), .val (.int i324), .val (.int i325), .val (.int i326), .val (.int i327), .val (.int i328), .val (.int i329), .val (.ref b330), .val (.int i390), .val (.int i391), .unset, .unset] [(.int i328), (.int ((31 : Int32) * i325))])) _
        refine XS.iadd X387.here hx rfl (hb hby at_184) rfl ?_
        rw [← hi392]
        show Steps p.tables e below (T387.setTop (mkF m 185 #[.val (.int p0), .val (.int p1), .val (.int p2), .val (.int p3), .val (.int p4), .val (.int (3 : Int32)), .val (.int i323), .val (.int i324), .val (.int i325), .val (.int i326), .val (.int i327), .val (.int i328), .val (.int i329), .val (.ref b330), .val (.int i390), .val (.int i391), .unset, .unset] [(.int i392)])) _
        refine XS.istore X387.here hx rfl (hb hby at_185) rfl (l' := #[.val (.int p0), .val (.int p1), .val (.int p2), .val (.int p3), .val (.int p4), .val (.int (3 : Int32)), .val (.int i323), .val (.int i324), .val (.int i325), .val (.int i326), .val (.int i327), .val (.int i328), .val (.int i329), .val (.ref b330), .val (.int i390), .val (.int i391), .val (.int i392), .unset]) rfl ?_
        show Steps p.tables e below (T387.setTop (mkF m 187 #[.val (.int p0), .val (.int p1), .val (.int p2), .val (.int p3), .val (.int p4), .val (.int (3 : Int32)), .val (.int i323), .val (.int i324), .val (.int i325), .val (.int i326), .val (.int i327), .val (.int i328), .val (.int i329), .val (.ref b330), .val (.int i390), .val (.int i391), .val (.int i392), .unset] [])) _
        refine XS.iload X387.here hx rfl (hb hby at_187) rfl ?_
        show Steps p.tables e below (T387.setTop (mkF m 189 #[.val (.int p0), .val (.int p1), .val (.int p2), .val (.int p3), .val (.int p4), .val (.int (3 : Int32)), .val (.int i323), .val (.int i324), .val (.int i325), .val (.int i326), .val (.int i327), .val (.int i328), .val (.int i329), .val (.ref b330), .val (.int i390), .val (.int i391), .val (.int i392), .unset] [(.int (3 : Int32))])) _
        refine XS.ifYes X387.here hx rfl (pc0 := 189) (pc' := 198) rfl (hb hby at_189) rfl ((if0 _ _).trans (feq ((by decide) : ¬ ((3 : Int32) = (0 : Int32)))).2) (by decide) (by decide) ?_
        show Steps p.tables e below (T387.setTop (mkF m 198 #[.val (.int p0), .val (.int p1), .val (.int p2), .val (.int p3), .val (.int p4), .val (.int (3 : Int32)), .val (.int i323), .val (.int i324), .val (.int i325), .val (.int i326), .val (.int i327), .val (.int i328), .val (.int i329), .val (.ref b330), .val (.int i390), .val (.int i391), .val (.int i392), .unset] [])) _
        refine XS.iload X387.here hx rfl (hb hby at_198) rfl ?_
        show Steps p.tables e below (T387.setTop (mkF m 200 #[.val (.int p0), .val (.int p1), .val (.int p2), .val (.int p3), .val (.int p4), .val (.int (3 : Int32)), .val (.int i323), .val (.int i324), .val (.int i325), .val (.int i326), .val (.int i327), .val (.int i328), .val (.int i329), .val (.ref b330), .val (.int i390), .val (.int i391), .val (.int i392), .unset] [(.int (3 : Int32))])) _
        refine XS.iconst X387.here hx rfl (hb hby at_200) ?_
        show Steps p.tables e below (T387.setTop (mkF m 201 #[.val (.int p0), .val (.int p1), .val (.int p2), .val (.int p3), .val (.int p4), .val (.int (3 : Int32)), .val (.int i323), .val (.int i324), .val (.int i325), .val (.int i326), .val (.int i327), .val (.int i328), .val (.int i329), .val (.ref b330), .val (.int i390), .val (.int i391), .val (.int i392), .unset] [(.int (1 : Int32)), (.int (3 : Int32))])) _
        refine XS.icmpYes X387.here hx rfl (pc0 := 201) (pc' := 215) rfl (hb hby at_201) rfl (feq ((by decide) : ¬ ((3 : Int32) = (1 : Int32)))).2 (by decide) (by decide) ?_
        show Steps p.tables e below (T387.setTop (mkF m 215 #[.val (.int p0), .val (.int p1), .val (.int p2), .val (.int p3), .val (.int p4), .val (.int (3 : Int32)), .val (.int i323), .val (.int i324), .val (.int i325), .val (.int i326), .val (.int i327), .val (.int i328), .val (.int i329), .val (.ref b330), .val (.int i390), .val (.int i391), .val (.int i392), .unset] [])) _
        refine XS.iload X387.here hx rfl (hb hby at_215) rfl ?_
        show Steps p.tables e below (T387.setTop (mkF m 217 #[.val (.int p0), .val (.int p1), .val (.int p2), .val (.int p3), .val (.int p4), .val (.int (3 : Int32)), .val (.int i323), .val (.int i324), .val (.int i325), .val (.int i326), .val (.int i327), .val (.int i328), .val (.int i329), .val (.ref b330), .val (.int i390), .val (.int i391), .val (.int i392), .unset] [(.int (3 : Int32))])) _
        refine XS.iconst X387.here hx rfl (hb hby at_217) ?_
        show Steps p.tables e below (T387.setTop (mkF m 218 #[.val (.int p0), .val (.int p1), .val (.int p2), .val (.int p3), .val (.int p4), .val (.int (3 : Int32)), .val (.int i323), .val (.int i324), .val (.int i325), .val (.int i326), .val (.int i327), .val (.int i328), .val (.int i329), .val (.ref b330), .val (.int i390), .val (.int i391), .val (.int i392), .unset] [(.int (2 : Int32)), (.int (3 : Int32))])) _
        refine XS.icmpYes X387.here hx rfl (pc0 := 218) (pc' := 238) rfl (hb hby at_218) rfl (feq ((by decide) : ¬ ((3 : Int32) = (2 : Int32)))).2 (by decide) (by decide) ?_
        show Steps p.tables e below (T387.setTop (mkF m 238 #[.val (.int p0), .val (.int p1), .val (.int p2), .val (.int p3), .val (.int p4), .val (.int (3 : Int32)), .val (.int i323), .val (.int i324), .val (.int i325), .val (.int i326), .val (.int i327), .val (.int i328), .val (.int i329), .val (.ref b330), .val (.int i390), .val (.int i391), .val (.int i392), .unset] [])) _
        refine X387.ldcInt hx hown (mvT hZ (hw _ (List.mem_of_getElem? (i := 53) rfl))) (g := (mkF m 238 #[.val (.int p0), .val (.int p1), .val (.int p2), .val (.int p3), .val (.int p4), .val (.int (3 : Int32)), .val (.int i323), .val (.int i324), .val (.int i325), .val (.int i326), .val (.int i327), .val (.int i328), .val (.int i329), .val (.ref b330), .val (.int i390), .val (.int i391), .val (.int i392), .unset] [])) rfl (hb hby at_238) _ ?_
        show Steps p.tables e below (T387.setTop (mkF m 240 #[.val (.int p0), .val (.int p1), .val (.int p2), .val (.int p3), .val (.int p4), .val (.int (3 : Int32)), .val (.int i323), .val (.int i324), .val (.int i325), .val (.int i326), .val (.int i327), .val (.int i328), .val (.int i329), .val (.ref b330), .val (.int i390), .val (.int i391), .val (.int i392), .unset] [(.int (887503681 : Int32))])) _
        refine X387.ldcInt hx hown (mvT hZ (hw _ (List.mem_of_getElem? (i := 54) rfl))) (g := (mkF m 240 #[.val (.int p0), .val (.int p1), .val (.int p2), .val (.int p3), .val (.int p4), .val (.int (3 : Int32)), .val (.int i323), .val (.int i324), .val (.int i325), .val (.int i326), .val (.int i327), .val (.int i328), .val (.int i329), .val (.ref b330), .val (.int i390), .val (.int i391), .val (.int i392), .unset] [(.int (887503681 : Int32))])) rfl (hb hby at_240) _ ?_
        show Steps p.tables e below (T387.setTop (mkF m 242 #[.val (.int p0), .val (.int p1), .val (.int p2), .val (.int p3), .val (.int p4), .val (.int (3 : Int32)), .val (.int i323), .val (.int i324), .val (.int i325), .val (.int i326), .val (.int i327), .val (.int i328), .val (.int i329), .val (.ref b330), .val (.int i390), .val (.int i391), .val (.int i392), .unset] [(.int (923521 : Int32)), (.int (887503681 : Int32))])) _
        refine XS.iload X387.here hx rfl (hb hby at_242) rfl ?_
        show Steps p.tables e below (T387.setTop (mkF m 244 #[.val (.int p0), .val (.int p1), .val (.int p2), .val (.int p3), .val (.int p4), .val (.int (3 : Int32)), .val (.int i323), .val (.int i324), .val (.int i325), .val (.int i326), .val (.int i327), .val (.int i328), .val (.int i329), .val (.ref b330), .val (.int i390), .val (.int i391), .val (.int i392), .unset] [(.int i390), (.int (923521 : Int32)), (.int (887503681 : Int32))])) _
        refine XS.imul X387.here hx rfl (hb hby at_244) rfl ?_
        show Steps p.tables e below (T387.setTop (mkF m 245 #[.val (.int p0), .val (.int p1), .val (.int p2), .val (.int p3), .val (.int p4), .val (.int (3 : Int32)), .val (.int i323), .val (.int i324), .val (.int i325), .val (.int i326), .val (.int i327), .val (.int i328), .val (.int i329), .val (.ref b330), .val (.int i390), .val (.int i391), .val (.int i392), .unset] [(.int ((923521 : Int32) * i390)), (.int (887503681 : Int32))])) _
        refine XS.iadd X387.here hx rfl (hb hby at_245) rfl ?_
        show Steps p.tables e below (T387.setTop (mkF m 246 #[.val (.int p0), .val (.int p1), .val (.int p2), .val (.int p3), .val (.int p4), .val (.int (3 : Int32)), .val (.int i323), .val (.int i324), .val (.int i325), .val (.int i326), .val (.int i327), .val (.int i328), .val (.int i329), .val (.ref b330), .val (.int i390), .val (.int i391), .val (.int i392), .unset] [(.int ((887503681 : Int32) + ((923521 : Int32) * i390)))])) _
        refine XS.sipush X387.here hx rfl (hb hby at_246) ?_
        show Steps p.tables e below (T387.setTop (mkF m 249 #[.val (.int p0), .val (.int p1), .val (.int p2), .val (.int p3), .val (.int p4), .val (.int (3 : Int32)), .val (.int i323), .val (.int i324), .val (.int i325), .val (.int i326), .val (.int i327), .val (.int i328), .val (.int i329), .val (.ref b330), .val (.int i390), .val (.int i391), .val (.int i392), .unset] [(.int (961 : Int32)), (.int ((887503681 : Int32) + ((923521 : Int32) * i390)))])) _
        refine XS.iload X387.here hx rfl (hb hby at_249) rfl ?_
        show Steps p.tables e below (T387.setTop (mkF m 251 #[.val (.int p0), .val (.int p1), .val (.int p2), .val (.int p3), .val (.int p4), .val (.int (3 : Int32)), .val (.int i323), .val (.int i324), .val (.int i325), .val (.int i326), .val (.int i327), .val (.int i328), .val (.int i329), .val (.ref b330), .val (.int i390), .val (.int i391), .val (.int i392), .unset] [(.int i391), (.int (961 : Int32)), (.int ((887503681 : Int32) + ((923521 : Int32) * i390)))])) _
        refine XS.imul X387.here hx rfl (hb hby at_251) rfl ?_
        show Steps p.tables e below (T387.setTop (mkF m 252 #[.val (.int p0), .val (.int p1), .val (.int p2), .val (.int p3), .val (.int p4), .val (.int (3 : Int32)), .val (.int i323), .val (.int i324), .val (.int i325), .val (.int i326), .val (.int i327), .val (.int i328), .val (.int i329), .val (.ref b330), .val (.int i390), .val (.int i391), .val (.int i392), .unset] [(.int ((961 : Int32) * i391)), (.int ((887503681 : Int32) + ((923521 : Int32) * i390)))])) _
        refine XS.iadd X387.here hx rfl (hb hby at_252) rfl ?_
        show Steps p.tables e below (T387.setTop (mkF m 253 #[.val (.int p0), .val (.int p1), .val (.int p2), .val (.int p3), .val (.int p4), .val (.int (3 : Int32)), .val (.int i323), .val (.int i324), .val (.int i325), .val (.int i326), .val (.int i327), .val (.int i328), .val (.int i329), .val (.ref b330), .val (.int i390), .val (.int i391), .val (.int i392), .unset] [(.int (((887503681 : Int32) + ((923521 : Int32) * i390)) + ((961 : Int32) * i391)))])) _
        refine XS.iload X387.here hx rfl (hb hby at_253) rfl ?_
        show Steps p.tables e below (T387.setTop (mkF m 255 #[.val (.int p0), .val (.int p1), .val (.int p2), .val (.int p3), .val (.int p4), .val (.int (3 : Int32)), .val (.int i323), .val (.int i324), .val (.int i325), .val (.int i326), .val (.int i327), .val (.int i328), .val (.int i329), .val (.ref b330), .val (.int i390), .val (.int i391), .val (.int i392), .unset] [(.int i392), (.int (((887503681 : Int32) + ((923521 : Int32) * i390)) + ((961 : Int32) * i391)))])) _
        refine XS.iadd X387.here hx rfl (hb hby at_255) rfl ?_
        rw [← hi393]
        show Steps p.tables e below (T387.setTop (mkF m 256 #[.val (.int p0), .val (.int p1), .val (.int p2), .val (.int p3), .val (.int p4), .val (.int (3 : Int32)), .val (.int i323), .val (.int i324), .val (.int i325), .val (.int i326), .val (.int i327), .val (.int i328), .val (.int i329), .val (.ref b330), .val (.int i390), .val (.int i391), .val (.int i392), .unset] [(.int i393)])) _
        refine XS.istore X387.here hx rfl (hb hby at_256) rfl (l' := #[.val (.int p0), .val (.int p1), .val (.int p2), .val (.int p3), .val (.int p4), .val (.int (3 : Int32)), .val (.int i323), .val (.int i324), .val (.int i325), .val (.int i326), .val (.int i327), .val (.int i328), .val (.int i329), .val (.ref b330), .val (.int i390), .val (.int i391), .val (.int i392), .val (.int i393)]) rfl ?_
        show Steps p.tables e below (T387.setTop (mkF m 258 #[.val (.int p0), .val (.int p1), .val (.int p2), .val (.int p3), .val (.int p4), .val (.int (3 : Int32)), .val (.int i323), .val (.int i324), .val (.int i325), .val (.int i326), .val (.int i327), .val (.int i328), .val (.int i329), .val (.ref b330), .val (.int i390), .val (.int i391), .val (.int i392), .val (.int i393)] [])) _
        refine XS.aload X387.here hx rfl (hb hby at_258) rfl rfl ?_
        exact kt)
      rw [((by rw [f11]) : (f11 b330 b_vertices_331 k_vertices_331 i323 i324 i325 b_states_331 k_states_331 (i326.toInt8.toInt32) (i327.toInt8.toInt32) (i328.toInt8.toInt32) wSUSCEPTIBLE wRECOVERED wINFECTED) = (((31 : Int32) * (((31 : Int32) * (((31 : Int32) * (((31 : Int32) * (((31 : Int32) * (((31 : Int32) * (1 : Int32)) + i323)) + (i326.toInt8.toInt32))) + i324)) + (i327.toInt8.toInt32))) + i325)) + (i328.toInt8.toInt32)))] at hQ394
      obtain ⟨rfl, N394q, e394⟩ := hQ394
      have N394 := Fr.app N387 N394q
      obtain ⟨cq396, kq396, q396a, q396b, q396c⟩ := isOf hZ e394 E_b330_387
      obtain ⟨_, _, ⟨T396, L396, k396, n396⟩, -, X396, ⟨Lc396, hQ396, l396, y396, z396⟩, st396⟩ := X394.virtualBack hx (y := (⟨"com/example/rippletide/rippletide/model/StateChanges", "count", "()I"⟩ : MethodName)) (z := (⟨"com/example/rippletide/rippletide/model/StateChanges", "count", "()I"⟩ : MethodName)) hown (mvT hZ (hw _ (List.mem_of_getElem? (i := 43) rfl))) (mvT hZ (hw _ (List.mem_of_getElem? (i := 44) rfl))) (notFace_of_selects (args := #[]) (mvT hZ (hw _ (List.mem_of_getElem? (i := 46) rfl)))) (mvT hZ (hw _ (List.mem_of_getElem? (i := 46) rfl))) (mvT hZ (hw _ (List.mem_of_getElem? (i := 45) rfl))) (by decide) (backOf (W := 0) (rm12 l Z a0 hw [] b330 b_vertices_331 k_vertices_331 i323 i324 i325 b_states_331 k_states_331 (i326.toInt8.toInt32) (i327.toInt8.toInt32) (i328.toInt8.toInt32) (3 : Int32) wSUSCEPTIBLE wRECOVERED wINFECTED h0 T387.heap n0 (Nat.le_trans Z0 KK387.1) W0 EX387 Zs ⟨E_b330_387, g_b330_387, G_b330_vertices_387, G_b330_states_387, G_b330_count_387, g_b330_vertices_387, ne_b330_vertices_387, V_b330_vertices_387, g_b330_states_387, ne_b330_states_387, V_b330_states_387, nn_b330_vertices_states_387, trivial⟩ ) hZ (hw _ (List.mem_of_getElem? (i := 47) rfl)) (hw _ (List.mem_of_getElem? (i := 2) rfl)) (by decide) (by decide)) q396a q396c (g := (mkF m 270 #[.val (.int p0), .val (.int p1), .val (.int p2), .val (.int p3), .val (.int p4), .val (.int (3 : Int32)), .val (.int i323), .val (.int i324), .val (.int i325), .val (.int i326), .val (.int i327), .val (.int i328), .val (.int i329), .val (.ref b330), .val (.int i390), .val (.int i391), .val (.int i392), .val (.int i393)] [(.ref b330)])) rfl (by rw [hml]; rfl) (Steps.refl _) (argsL := []) (rest := []) (lenOf pd_0 rfl) rfl (by show 2 * 0 + _ ≤ _; exact Nat.le_of_eq rfl) (hb hby at_270) (fun _ _ => ⟨rfl, e394, (by decide : 3 + 0 ≤ _), (by decide : 35 + 0 ≤ _)⟩)
      dsimp only [Pt.U, Pt.locs, Pt.cells, Pt.slots] at X396 l396 y396 z396 st396 hQ396
      subst l396 y396 z396
      unfold Q12 at hQ396
      have k397 : ∀ t, Steps p.tables e below (T394.setTop (mkF m 270 #[.val (.int p0), .val (.int p1), .val (.int p2), .val (.int p3), .val (.int p4), .val (.int (3 : Int32)), .val (.int i323), .val (.int i324), .val (.int i325), .val (.int i326), .val (.int i327), .val (.int i328), .val (.int i329), .val (.ref b330), .val (.int i390), .val (.int i391), .val (.int i392), .val (.int i393)] [(.ref b330)])) t → Steps p.tables e below (s₁.setTop (entryFrame m #[(.int p0), (.int p1), (.int p2), (.int p3), (.int p4)] maxLocals)) t := fun t kt => k395 t (by
        show Steps p.tables e below (T387.setTop (mkF m 260 #[.val (.int p0), .val (.int p1), .val (.int p2), .val (.int p3), .val (.int p4), .val (.int (3 : Int32)), .val (.int i323), .val (.int i324), .val (.int i325), .val (.int i326), .val (.int i327), .val (.int i328), .val (.int i329), .val (.ref b330), .val (.int i390), .val (.int i391), .val (.int i392), .val (.int i393)] [(.ref b330)])) _
        refine st394.trans ?_
        show Steps p.tables e below (T394.setTop (mkF m 263 #[.val (.int p0), .val (.int p1), .val (.int p2), .val (.int p3), .val (.int p4), .val (.int (3 : Int32)), .val (.int i323), .val (.int i324), .val (.int i325), .val (.int i326), .val (.int i327), .val (.int i328), .val (.int i329), .val (.ref b330), .val (.int i390), .val (.int i391), .val (.int i392), .val (.int i393)] [(.int (((31 : Int32) * (((31 : Int32) * (((31 : Int32) * (((31 : Int32) * (((31 : Int32) * (((31 : Int32) * (1 : Int32)) + i323)) + (i326.toInt8.toInt32))) + i324)) + (i327.toInt8.toInt32))) + i325)) + (i328.toInt8.toInt32)))])) _
        refine XS.iload X394.here hx rfl (hb hby at_263) rfl ?_
        show Steps p.tables e below (T394.setTop (mkF m 265 #[.val (.int p0), .val (.int p1), .val (.int p2), .val (.int p3), .val (.int p4), .val (.int (3 : Int32)), .val (.int i323), .val (.int i324), .val (.int i325), .val (.int i326), .val (.int i327), .val (.int i328), .val (.int i329), .val (.ref b330), .val (.int i390), .val (.int i391), .val (.int i392), .val (.int i393)] [(.int i393), (.int (((31 : Int32) * (((31 : Int32) * (((31 : Int32) * (((31 : Int32) * (((31 : Int32) * (((31 : Int32) * (1 : Int32)) + i323)) + (i326.toInt8.toInt32))) + i324)) + (i327.toInt8.toInt32))) + i325)) + (i328.toInt8.toInt32)))])) _
        refine XS.icmpNo X394.here hx rfl (hb hby at_265) rfl (teq ((by rw [hi393, hi390, hi391, hi392, own_byte hi326, own_byte hi327, own_byte hi328]; grind) : (((31 : Int32) * (((31 : Int32) * (((31 : Int32) * (((31 : Int32) * (((31 : Int32) * (((31 : Int32) * (1 : Int32)) + i323)) + (i326.toInt8.toInt32))) + i324)) + (i327.toInt8.toInt32))) + i325)) + (i328.toInt8.toInt32)) = i393)).2 ?_
        show Steps p.tables e below (T394.setTop (mkF m 268 #[.val (.int p0), .val (.int p1), .val (.int p2), .val (.int p3), .val (.int p4), .val (.int (3 : Int32)), .val (.int i323), .val (.int i324), .val (.int i325), .val (.int i326), .val (.int i327), .val (.int i328), .val (.int i329), .val (.ref b330), .val (.int i390), .val (.int i391), .val (.int i392), .val (.int i393)] [])) _
        refine XS.aload X394.here hx rfl (hb hby at_268) rfl rfl ?_
        exact kt)
      rw [((by rw [f12]) : (f12 b330 b_vertices_331 k_vertices_331 i323 i324 i325 b_states_331 k_states_331 (i326.toInt8.toInt32) (i327.toInt8.toInt32) (i328.toInt8.toInt32) (3 : Int32) wSUSCEPTIBLE wRECOVERED wINFECTED) = (3 : Int32))] at hQ396
      obtain ⟨rfl, N396q, e396⟩ := hQ396
      have N396 := Fr.app N394 N396q
      obtain ⟨fs, hr, hrun, hended, hW, hsame⟩ := X396.leave (v := some (.int (1 : Int32))) (fun h => by rw [Bd.returns] at h; cases h)
      refine ⟨_, _, k397 _ ?_, hrun, hended, _, _, rfl, ?_, ⟨_, rfl⟩, hW, hsame.mono (by decide) (by decide)⟩
      · show Steps p.tables e below (T394.setTop (mkF m 270 #[.val (.int p0), .val (.int p1), .val (.int p2), .val (.int p3), .val (.int p4), .val (.int (3 : Int32)), .val (.int i323), .val (.int i324), .val (.int i325), .val (.int i326), .val (.int i327), .val (.int i328), .val (.int i329), .val (.ref b330), .val (.int i390), .val (.int i391), .val (.int i392), .val (.int i393)] [(.ref b330)])) _
        refine st396.trans ?_
        show Steps p.tables e below (T396.setTop (mkF m 273 #[.val (.int p0), .val (.int p1), .val (.int p2), .val (.int p3), .val (.int p4), .val (.int (3 : Int32)), .val (.int i323), .val (.int i324), .val (.int i325), .val (.int i326), .val (.int i327), .val (.int i328), .val (.int i329), .val (.ref b330), .val (.int i390), .val (.int i391), .val (.int i392), .val (.int i393)] [(.int (3 : Int32))])) _
        refine XS.iload X396.here hx rfl (hb hby at_273) rfl ?_
        show Steps p.tables e below (T396.setTop (mkF m 275 #[.val (.int p0), .val (.int p1), .val (.int p2), .val (.int p3), .val (.int p4), .val (.int (3 : Int32)), .val (.int i323), .val (.int i324), .val (.int i325), .val (.int i326), .val (.int i327), .val (.int i328), .val (.int i329), .val (.ref b330), .val (.int i390), .val (.int i391), .val (.int i392), .val (.int i393)] [(.int (3 : Int32)), (.int (3 : Int32))])) _
        refine XS.icmpNo X396.here hx rfl (hb hby at_275) rfl (teq (rfl : (3 : Int32) = (3 : Int32))).2 ?_
        show Steps p.tables e below (T396.setTop (mkF m 278 #[.val (.int p0), .val (.int p1), .val (.int p2), .val (.int p3), .val (.int p4), .val (.int (3 : Int32)), .val (.int i323), .val (.int i324), .val (.int i325), .val (.int i326), .val (.int i327), .val (.int i328), .val (.int i329), .val (.ref b330), .val (.int i390), .val (.int i391), .val (.int i392), .val (.int i393)] [])) _
        refine XS.iconst X396.here hx rfl (hb hby at_278) ?_
        show Steps p.tables e below (T396.setTop (mkF m 279 #[.val (.int p0), .val (.int p1), .val (.int p2), .val (.int p3), .val (.int p4), .val (.int (3 : Int32)), .val (.int i323), .val (.int i324), .val (.int i325), .val (.int i326), .val (.int i327), .val (.int i328), .val (.int i329), .val (.ref b330), .val (.int i390), .val (.int i391), .val (.int i392), .val (.int i393)] [(.int (1 : Int32))])) _
        refine XS.goto X396.here hx rfl (pc0 := 279) (pc' := 283) rfl (hb hby at_279) (by decide) (by decide) ?_
        show Steps p.tables e below (T396.setTop (mkF m 283 #[.val (.int p0), .val (.int p1), .val (.int p2), .val (.int p3), .val (.int p4), .val (.int (3 : Int32)), .val (.int i323), .val (.int i324), .val (.int i325), .val (.int i326), .val (.int i327), .val (.int i328), .val (.int i329), .val (.ref b330), .val (.int i390), .val (.int i391), .val (.int i392), .val (.int i393)] [(.int (1 : Int32))])) _
        exact retN X396 hx (t := .boolean) Bd.returns (by simp) (hb hby at_283) hr
      · show Q0 Z p0 p1 p2 p3 p4 wSUSCEPTIBLE wRECOVERED wINFECTED h0 n0 _ T396.heap _
        rw [e396]
        exact ⟨rfl, N396⟩
set_option maxRecDepth 65536 in
set_option maxHeartbeats 40000000 in
theorem comes_1 {Post : Tables → Env → Array Value → State → Outcome → State → Prop} (hpost : ∀ tb e args s v u, (limb_1_1.after args s (.returned v) u = true ∧ limb_1_2.after args s (.returned v) u = true ∧ True) → FrameEnd s (.returned v) u (Jvm.fieldLocs frame_1_writes args s ++ Jvm.arrayLocs frame_1_arrays args s ++ Jvm.staticLocs frame_1_statics s) 16 192 → Post tb e args s (.returned v) u) :
    ArmFor flags0 classFile x code maxLocals ret World_1 tables_1 room_1 Calls_1 rest_1 Pre_1 Post := by
  intro l hfl _ _ p e ha hc hk s m args below hf hA hF happ hP
  obtain ⟨hcalls, hrest, hpre⟩ := hP
  obtain ⟨-, -, -, hnamed, -, -, -, hat⟩ := (Spec.applies_iff hf).mp happ
  obtain ⟨hg, hn⟩ := and_e (Cond.before_iff.mp (show (Jvm.Cond.and given_1 narrow_1).before args s = true from hpre))
  obtain ⟨gc, gr0⟩ := and_e hg
  obtain ⟨ga0, gr1⟩ := and_e gr0
  obtain ⟨ga1, gr2⟩ := and_e gr1
  obtain ⟨ga2, gr3⟩ := and_e gr2
  obtain ⟨ga3, ga4⟩ := and_e gr3
  obtain ⟨w0, w1, w2, w3, w4, rfl⟩ : ∃ w0 w1 w2 w3 w4 : Value, args = #[w0, w1, w2, w3, w4] := by
    have hs : args.size = 5 := by simpa [Cond.value, given_1] using gc
    obtain ⟨L⟩ := args
    match L, hs with
    | [w0, w1, w2, w3, w4], _ => exact ⟨w0, w1, w2, w3, w4, rfl⟩
  have hw := fun d (hd : d ∈ tables_1) => atoms_spec (ws := Jvm.Cond.code x code maxLocals ret :: tables_1) hat d (List.mem_cons_of_mem _ hd)
  have hfit : Fit s := fun {y c} hc i hi => by
    obtain ⟨ha, rfl⟩ := Array.getElem?_eq_some_iff.mp hc
    have q := List.all_eq_true.mp ((Array.all_eq_true_iff_forall_mem.mp hF) _ (Array.getElem_mem ha)) i (List.mem_range.mpr hi)
    simpa [Array.getElem?_eq_getElem hi] using q
  obtain ⟨i0, ei0⟩ := is_v ga0
  obtain rfl : w0 = (.int i0) := Option.some.inj ei0
  obtain ⟨i1, ei1⟩ := is_v ga1
  obtain rfl : w1 = (.int i1) := Option.some.inj ei1
  obtain ⟨i2, ei2⟩ := is_v ga2
  obtain rfl : w2 = (.int i2) := Option.some.inj ei2
  obtain ⟨i3, ei3⟩ := is_v ga3
  obtain rfl : w3 = (.int i3) := Option.some.inj ei3
  obtain ⟨i4, ei4⟩ := is_v ga4
  obtain rfl : w4 = (.int i4) := Option.some.inj ei4
  obtain ⟨nr0, hn0⟩ := and_e hn
  obtain ⟨nr1, hn1⟩ := and_e hn0
  obtain ⟨nr2, hn2⟩ := and_e hn1
  obtain ⟨nr3, hn3⟩ := and_e hn2
  obtain ⟨nr4, nr5⟩ := and_e hn3
  obtain ⟨wSUSCEPTIBLE, evwSUSCEPTIBLE⟩ := exa_v nr0
  have SSUSCEPTIBLE : Sta s s.heap "com/example/rippletide/rippletide/model/State" "SUSCEPTIBLE" "Lcom/example/rippletide/rippletide/model/State;" (.ref wSUSCEPTIBLE) := Sta.start evwSUSCEPTIBLE (Or.inr ⟨(hw _ (List.mem_of_getElem? (i := 20) rfl)), (hw _ (List.mem_of_getElem? (i := 21) rfl))⟩)
  obtain ⟨wRECOVERED, evwRECOVERED⟩ := exa_v nr2
  have SRECOVERED : Sta s s.heap "com/example/rippletide/rippletide/model/State" "RECOVERED" "Lcom/example/rippletide/rippletide/model/State;" (.ref wRECOVERED) := Sta.start evwRECOVERED (Or.inr ⟨(hw _ (List.mem_of_getElem? (i := 20) rfl)), (hw _ (List.mem_of_getElem? (i := 56) rfl))⟩)
  obtain ⟨wINFECTED, evwINFECTED⟩ := exa_v nr4
  have SINFECTED : Sta s s.heap "com/example/rippletide/rippletide/model/State" "INFECTED" "Lcom/example/rippletide/rippletide/model/State;" (.ref wINFECTED) := Sta.start evwINFECTED (Or.inr ⟨(hw _ (List.mem_of_getElem? (i := 20) rfl)), (hw _ (List.mem_of_getElem? (i := 58) rfl))⟩)
  have ESUSCEPTIBLE : Exa s s.heap wSUSCEPTIBLE "com/example/rippletide/rippletide/model/State" := Exa.start evwSUSCEPTIBLE nr0
  have FSUSCEPTIBLE_ordinal : Fld s s.heap wSUSCEPTIBLE "java/lang/Enum" "ordinal" "I" (.int (0 : Int32)) := own_fldI evwSUSCEPTIBLE nr1
  have ERECOVERED : Exa s s.heap wRECOVERED "com/example/rippletide/rippletide/model/State" := Exa.start evwRECOVERED nr2
  have FRECOVERED_ordinal : Fld s s.heap wRECOVERED "java/lang/Enum" "ordinal" "I" (.int (2 : Int32)) := own_fldI evwRECOVERED nr3
  have EINFECTED : Exa s s.heap wINFECTED "com/example/rippletide/rippletide/model/State" := Exa.start evwINFECTED nr4
  have FINFECTED_ordinal : Fld s s.heap wINFECTED "java/lang/Enum" "ordinal" "I" (.int (1 : Int32)) := own_fldI evwINFECTED nr5
  obtain ⟨n, o, h1, h2, h3, _, L, rfl, ⟨rfl, N⟩, hq⟩ := rm0 l s _ hw tables_1 i0 i1 i2 i3 i4 wSUSCEPTIBLE wRECOVERED wINFECTED s.heap s.heap.size (Nat.le_refl _) ⟨SSUSCEPTIBLE, ESUSCEPTIBLE, FSUSCEPTIBLE_ordinal, SRECOVERED, ERECOVERED, FRECOVERED_ordinal, SINFECTED, EINFECTED, FINFECTED_ordinal, trivial⟩ (Nat.le_refl _) p e ha hc hk s m _ below hf ((Spec.applies_iff_loose hf).mp happ).1 ⟨rfl, State.Warmed39.refl s, rfl⟩ trivial
  refine ⟨n, _, h1, h2, h3, hpost _ _ _ _ _ _ ⟨Cond.after_iff.mpr rfl, Cond.after_iff.mpr (eq_i res_at (Term.int_eval (1)) rfl), trivial⟩ ⟨hq.1, hq.2.1, (hq.2.2.sift fun y hy => Or.inr (N y hy)).mono (by decide) (by decide)⟩⟩
theorem main_1_1 : Claimed_1_1 := comes_1 fun _ _ _ _ _ _ h hF => ⟨h.1, hF⟩
theorem main_1_2 : Claimed_1_2 := comes_1 fun _ _ _ _ _ _ h hF => ⟨h.2.1, hF⟩
end Jvm.Pilot.@@N@@
namespace Jvm.Pilot.@@N@@
open Jvm Jvm.ClassFile Sem Op Lib Jvm.Free Jvm.Stand Jvm.Pilot.@@N@@.Jvm.D
/-! MADE BY PROGRAM (witnessworld.py) out of the Statement's table words and the real class files: 13 classes; the members and pool entries that the words name. The judged class is class 1, her method 2. -/
namespace start1
open Jvm.ClassFile
def u (s : String) : CpInfo := .utf8 (stringToUtf16 s)
/-- a pool by its gaps: so many unusable entries, then the entry; so many at the end -/
def gap : Nat → List CpInfo → List CpInfo
  | 0, r => r
  | n + 1, r => .unusable :: gap n r
def poolList (es : List (Nat × CpInfo)) (last : Nat) : List CpInfo := es.foldr (fun e r => gap e.1 (e.2 :: r)) (gap last [])
def pool (es : List (Nat × CpInfo)) (last : Nat) : Array CpInfo := ⟨poolList es last⟩
def fileOf (pool : Array CpInfo) (this : Nat) (attrs : Array Attribute := #[]) (ms : Array MethodInfo := #[]) (fl : Nat := 33) (sup : Nat := 0) (ifs : Array Nat := #[]) (fds : Array FieldInfo := #[]) : ClassFile where
  minorVersion := 0
  majorVersion := 65
  constantPool := pool
  accessFlags := fl
  thisClass := this
  superClass := sup
  interfaces := ifs
  fields := fds
  methods := ms
  attributes := attrs
def plain (name : String) (sup : Option ClassId) : Class where
  name := name
  kind := .ordinary
  loader := none
  accessFlags := 33
  super := sup
  interfaces := #[]
  cf := none
  fields := #[]
  methods := #[]
  instanceTypes := #[]
  staticTypes := #[]
  resolved := #[]
  callSites := []
  init := .initialized
  statics := none
  mirror := none

def pool0 : Array CpInfo := pool [(5, u "<init>"), (0, u "()V"), (1, .class_ 10), (1, u "java/lang/Object")] 113

def k0c0 : Code := { maxStack := 0, maxLocals := 1, code := object_method_1_code, exceptionTable := #[], attributes := #[] }
def k0m0 : Method := { name := "<init>", desc := "()V", sig := { parameters := [], returnType := none }, accessFlags := 1, code := some k0c0 }
/-- java/lang/Object -/
def k0 : Class := { plain "java/lang/Object" none with
  accessFlags := 33
  interfaces := #[]
  cf := some (fileOf pool0 8 #[] #[{ accessFlags := 1, nameIndex := 5, descriptorIndex := 6, attributes := #[] }] 33 0 #[] #[])
  fields := #[]
  methods := #[k0m0]
  instanceTypes := #[]
  staticTypes := #[]
  resolved := Array.replicate 124 none
  statics := none }

def pool1 : Array CpInfo := pool [(2, .class_ 4), (0, .nameAndType 5 6), (0, u "java/lang/Object"), (0, u "<init>"), (0, u "()V"), (0, .fieldref 8 9), (0, .class_ 10), (0, .nameAndType 11 12), (0, u "com/example/rippletide/rippletide/model/State"), (0, u "SUSCEPTIBLE"), (0, u "Lcom/example/rippletide/rippletide/model/State;"), (0, .fieldref 8 14), (0, .nameAndType 15 12), (0, u "INFECTED"), (0, .fieldref 8 17), (0, .nameAndType 18 12), (0, u "RECOVERED"), (0, .class_ 20), (0, u "com/example/rippletide/rippletide/model/StateChanges"), (0, .methodref 19 3), (0, .methodref 23 24), (0, .class_ 25), (0, .nameAndType 26 27), (0, u "com/example/rippletide/rippletide/model/StateChangesHashCodePinLaw"), (0, u "state"), (0, u "(I)Lcom/example/rippletide/rippletide/model/State;"), (0, .methodref 19 29), (0, .nameAndType 30 31), (0, u "add"), (0, u "(ILcom/example/rippletide/rippletide/model/State;)V"), (0, .methodref 19 33), (0, .nameAndType 34 6), (0, u "clear"), (0, .integer 923521), (0, .integer 887503681), (0, .methodref 19 38), (0, .nameAndType 39 40), (0, u "hashCode"), (0, u "()I"), (0, .methodref 19 42), (0, .nameAndType 43 40), (0, u "count"), (3, u "law"), (0, u "(IIIII)Z")] 2

def k1m0 : Method := { name := "<init>", desc := "()V", sig := { parameters := [], returnType := none }, accessFlags := 1, code := none }
def k1c1 : Code := { maxStack := 2, maxLocals := 1, code := method_2_code, exceptionTable := #[], attributes := #[] }
def k1m1 : Method := { name := "state", desc := "(I)Lcom/example/rippletide/rippletide/model/State;", sig := { parameters := [.int], returnType := some (.object "com/example/rippletide/rippletide/model/State") }, accessFlags := 10, code := some k1c1 }
def k1c2 : Code := { maxStack := 3, maxLocals := 18, code := code, exceptionTable := #[], attributes := #[] }
def k1m2 : Method := { name := "law", desc := "(IIIII)Z", sig := { parameters := [.int, .int, .int, .int, .int], returnType := some .boolean }, accessFlags := 9, code := some k1c2 }
/-- com/example/rippletide/rippletide/model/StateChangesHashCodePinLaw -/
def k1 : Class := { plain "com/example/rippletide/rippletide/model/StateChangesHashCodePinLaw" (some 0) with
  accessFlags := 49
  interfaces := #[]
  cf := some (fileOf pool1 23 #[] #[{ accessFlags := 1, nameIndex := 5, descriptorIndex := 6, attributes := #[] }, { accessFlags := 10, nameIndex := 26, descriptorIndex := 27, attributes := #[] }, { accessFlags := 9, nameIndex := 47, descriptorIndex := 48, attributes := #[] }] 49 2 #[] #[])
  fields := #[]
  methods := #[k1m0, k1m1, k1m2]
  instanceTypes := #[]
  staticTypes := #[]
  resolved := Array.replicate 51 none
  statics := none }

def pool2 : Array CpInfo := pool [(1, .methodref 2 3), (0, .class_ 4), (0, .nameAndType 5 6), (0, u "java/lang/Object"), (0, u "<init>"), (0, u "()V"), (0, .fieldref 8 9), (0, .class_ 10), (0, .nameAndType 11 12), (0, u "com/example/rippletide/rippletide/model/StateChanges"), (0, u "vertices"), (0, u "[I"), (0, .fieldref 8 14), (0, .nameAndType 15 16), (0, u "states"), (0, u "[B"), (0, .fieldref 8 18), (0, .nameAndType 19 20), (0, u "count"), (0, u "I"), (16, .long 2147483647), (1, .long 2), (16, .methodref 57 58), (0, .class_ 59), (0, .nameAndType 60 61), (0, u "com/example/rippletide/rippletide/model/State"), (0, u "ordinal"), (0, u "()I"), (2, u "STATES"), (0, u "[Lcom/example/rippletide/rippletide/model/State;"), (42, u "clear"), (0, u "add"), (0, u "(ILcom/example/rippletide/rippletide/model/State;)V"), (6, u "hashCode")] 20

def k2c0 : Code := { maxStack := 2, maxLocals := 1, code := prog_38_method_1_code, exceptionTable := #[], attributes := #[] }
def k2m0 : Method := { name := "<init>", desc := "()V", sig := { parameters := [], returnType := none }, accessFlags := 1, code := some k2c0 }
def k2c1 : Code := { maxStack := 2, maxLocals := 1, code := prog_38_method_2_code, exceptionTable := #[], attributes := #[] }
def k2m1 : Method := { name := "clear", desc := "()V", sig := { parameters := [], returnType := none }, accessFlags := 1, code := some k2c1 }
def k2c2 : Code := { maxStack := 6, maxLocals := 4, code := prog_38_method_3_code, exceptionTable := #[], attributes := #[] }
def k2m2 : Method := { name := "add", desc := "(ILcom/example/rippletide/rippletide/model/State;)V", sig := { parameters := [.int, (.object "com/example/rippletide/rippletide/model/State")], returnType := none }, accessFlags := 1, code := some k2c2 }
def k2c3 : Code := { maxStack := 1, maxLocals := 1, code := prog_38_method_4_code, exceptionTable := #[], attributes := #[] }
def k2m3 : Method := { name := "count", desc := "()I", sig := { parameters := [], returnType := some .int }, accessFlags := 1, code := some k2c3 }
def k2c4 : Code := { maxStack := 4, maxLocals := 3, code := prog_38_method_8_code, exceptionTable := #[], attributes := #[] }
def k2m4 : Method := { name := "hashCode", desc := "()I", sig := { parameters := [], returnType := some .int }, accessFlags := 1, code := some k2c4 }
/-- com/example/rippletide/rippletide/model/StateChanges -/
def k2 : Class := { plain "com/example/rippletide/rippletide/model/StateChanges" (some 0) with
  accessFlags := 49
  interfaces := #[]
  cf := some (fileOf pool2 8 #[] #[{ accessFlags := 1, nameIndex := 5, descriptorIndex := 6, attributes := #[] }, { accessFlags := 1, nameIndex := 108, descriptorIndex := 6, attributes := #[] }, { accessFlags := 1, nameIndex := 109, descriptorIndex := 110, attributes := #[] }, { accessFlags := 1, nameIndex := 19, descriptorIndex := 61, attributes := #[] }, { accessFlags := 1, nameIndex := 117, descriptorIndex := 61, attributes := #[] }] 49 2 #[] #[{ accessFlags := 26, nameIndex := 64, descriptorIndex := 65, attributes := #[] }, { accessFlags := 2, nameIndex := 11, descriptorIndex := 12, attributes := #[] }, { accessFlags := 2, nameIndex := 15, descriptorIndex := 16, attributes := #[] }, { accessFlags := 2, nameIndex := 19, descriptorIndex := 20, attributes := #[] }])
  fields := #[{ name := "STATES", type := (.array (.object "com/example/rippletide/rippletide/model/State")), accessFlags := 26, slot := 0, constantValue := 0 }, { name := "vertices", type := (.array .int), accessFlags := 2, slot := 0, constantValue := 0 }, { name := "states", type := (.array .byte), accessFlags := 2, slot := 1, constantValue := 0 }, { name := "count", type := .int, accessFlags := 2, slot := 2, constantValue := 0 }]
  methods := #[k2m0, k2m1, k2m2, k2m3, k2m4]
  instanceTypes := #[(.array .int), (.array .byte), .int]
  staticTypes := #[(.array (.object "com/example/rippletide/rippletide/model/State"))]
  resolved := Array.replicate 138 none
  statics := none }

def pool3 : Array CpInfo := pool [(1, .class_ 2), (0, u "java/lang/constant/Constable"), (0, .class_ 4), (0, u "java/lang/Object")] 6

/-- java/lang/constant/Constable -/
def k3 : Class := { plain "java/lang/constant/Constable" (some 0) with
  accessFlags := 1537
  interfaces := #[]
  cf := some (fileOf pool3 1 #[] #[] 1537 3 #[] #[])
  fields := #[]
  methods := #[]
  instanceTypes := #[]
  staticTypes := #[]
  resolved := Array.replicate 11 none
  statics := none }

def pool4 : Array CpInfo := pool [(1, .class_ 2), (0, u "java/lang/Comparable"), (0, .class_ 4), (0, u "java/lang/Object")] 7

/-- java/lang/Comparable -/
def k4 : Class := { plain "java/lang/Comparable" (some 0) with
  accessFlags := 1537
  interfaces := #[]
  cf := some (fileOf pool4 1 #[] #[] 1537 3 #[] #[])
  fields := #[]
  methods := #[]
  instanceTypes := #[]
  staticTypes := #[]
  resolved := Array.replicate 12 none
  statics := none }

def pool5 : Array CpInfo := pool [(1, .class_ 2), (0, u "java/io/Serializable"), (0, .class_ 4), (0, u "java/lang/Object")] 2

/-- java/io/Serializable -/
def k5 : Class := { plain "java/io/Serializable" (some 0) with
  accessFlags := 1537
  interfaces := #[]
  cf := some (fileOf pool5 1 #[] #[] 1537 3 #[] #[])
  fields := #[]
  methods := #[]
  instanceTypes := #[]
  staticTypes := #[]
  resolved := Array.replicate 7 none
  statics := none }

def pool6 : Array CpInfo := pool [(2, .class_ 4), (1, u "java/lang/Enum"), (0, u "name"), (0, u "Ljava/lang/String;"), (0, .fieldref 2 8), (0, .nameAndType 9 10), (0, u "ordinal"), (0, u "I"), (1, .class_ 14), (1, u "java/lang/Object"), (4, u "hash"), (86, .class_ 108), (1, u "java/lang/Enum$EnumDesc"), (2, .class_ 112), (0, u "java/lang/constant/Constable"), (0, .class_ 114), (0, u "java/lang/Comparable"), (0, .class_ 116), (0, u "java/io/Serializable"), (9, u "()I")] 77

def k6c0 : Code := { maxStack := 1, maxLocals := 1, code := jdk_37_method_2_code, exceptionTable := #[], attributes := #[] }
def k6m0 : Method := { name := "ordinal", desc := "()I", sig := { parameters := [], returnType := some .int }, accessFlags := 17, code := some k6c0 }
/-- java/lang/Enum -/
def k6 : Class := { plain "java/lang/Enum" (some 0) with
  accessFlags := 1057
  interfaces := #[3, 4, 5]
  cf := some (fileOf pool6 2 #[.nestMembers #[106]] #[{ accessFlags := 17, nameIndex := 9, descriptorIndex := 126, attributes := #[] }] 1057 12 #[111, 113, 115] #[{ accessFlags := 18, nameIndex := 5, descriptorIndex := 6, attributes := #[] }, { accessFlags := 18, nameIndex := 9, descriptorIndex := 10, attributes := #[] }, { accessFlags := 2, nameIndex := 19, descriptorIndex := 10, attributes := #[] }])
  fields := #[{ name := "name", type := (.object "java/lang/String"), accessFlags := 18, slot := 0, constantValue := 0 }, { name := "ordinal", type := .int, accessFlags := 18, slot := 1, constantValue := 0 }, { name := "hash", type := .int, accessFlags := 2, slot := 2, constantValue := 0 }]
  methods := #[k6m0]
  instanceTypes := #[(.object "java/lang/String"), .int, .int]
  staticTypes := #[]
  resolved := Array.replicate 204 none
  statics := none }

def pool7 : Array CpInfo := pool [(1, .class_ 2), (0, u "com/example/rippletide/rippletide/model/State"), (2, u "SUSCEPTIBLE"), (0, u "Lcom/example/rippletide/rippletide/model/State;"), (2, u "INFECTED"), (2, u "RECOVERED"), (2, u "$VALUES"), (0, u "[Lcom/example/rippletide/rippletide/model/State;"), (6, .class_ 25), (1, u "java/lang/Enum"), (8, u "letter"), (0, u "C"), (2, u "STATES")] 28

/-- com/example/rippletide/rippletide/model/State -/
def k7 : Class := { plain "com/example/rippletide/rippletide/model/State" (some 6) with
  accessFlags := 16433
  interfaces := #[]
  cf := some (fileOf pool7 1 #[] #[] 16433 23 #[] #[{ accessFlags := 16409, nameIndex := 5, descriptorIndex := 6, attributes := #[] }, { accessFlags := 16409, nameIndex := 9, descriptorIndex := 6, attributes := #[] }, { accessFlags := 16409, nameIndex := 12, descriptorIndex := 6, attributes := #[] }, { accessFlags := 26, nameIndex := 38, descriptorIndex := 16, attributes := #[] }, { accessFlags := 18, nameIndex := 34, descriptorIndex := 35, attributes := #[] }, { accessFlags := 4122, nameIndex := 15, descriptorIndex := 16, attributes := #[] }])
  fields := #[{ name := "SUSCEPTIBLE", type := (.object "com/example/rippletide/rippletide/model/State"), accessFlags := 16409, slot := 0, constantValue := 0 }, { name := "INFECTED", type := (.object "com/example/rippletide/rippletide/model/State"), accessFlags := 16409, slot := 1, constantValue := 0 }, { name := "RECOVERED", type := (.object "com/example/rippletide/rippletide/model/State"), accessFlags := 16409, slot := 2, constantValue := 0 }, { name := "STATES", type := (.array (.object "com/example/rippletide/rippletide/model/State")), accessFlags := 26, slot := 3, constantValue := 0 }, { name := "letter", type := .char, accessFlags := 18, slot := 3, constantValue := 0 }, { name := "$VALUES", type := (.array (.object "com/example/rippletide/rippletide/model/State")), accessFlags := 4122, slot := 4, constantValue := 0 }]
  methods := #[]
  instanceTypes := #[(.object "java/lang/String"), .int, .int, .char]
  staticTypes := #[(.object "com/example/rippletide/rippletide/model/State"), (.object "com/example/rippletide/rippletide/model/State"), (.object "com/example/rippletide/rippletide/model/State"), (.array (.object "com/example/rippletide/rippletide/model/State")), (.array (.object "com/example/rippletide/rippletide/model/State"))]
  resolved := Array.replicate 67 none
  statics := some 0 }

def pool8 : Array CpInfo := pool [(1, u "java/lang/Cloneable"), (0, .class_ 1), (0, u "java/lang/Object"), (0, .class_ 3)] 3

/-- java/lang/Cloneable -/
def k8 : Class := { plain "java/lang/Cloneable" (some 0) with
  accessFlags := 1537
  interfaces := #[]
  cf := some (fileOf pool8 2 #[] #[] 1537 4 #[] #[])
  fields := #[]
  methods := #[]
  instanceTypes := #[]
  staticTypes := #[]
  resolved := Array.replicate 8 none
  statics := none }

/-- the primitive byte -/
def k9 : Class := { plain "byte" none with kind := .primitive 'B', accessFlags := 0x411 }
/-- [B -/
def k10 : Class := { plain "[B" (some 0) with kind := .array 9 .byte, interfaces := #[8, 5], accessFlags := 1041 }

/-- the primitive int -/
def k11 : Class := { plain "int" none with kind := .primitive 'I', accessFlags := 0x411 }
/-- [I -/
def k12 : Class := { plain "[I" (some 0) with kind := .array 11 .int, interfaces := #[8, 5], accessFlags := 1041 }

def heap : Heap := #[{ cls := 7, slots := #[.ref 1, .ref 3, .ref 2, .null, .null], vm := .statics 7 },
  { cls := 7, slots := #[.null, .int 0, .int 0, .int 0], vm := .none },
  { cls := 7, slots := #[.null, .int 2, .int 0, .int 0], vm := .none },
  { cls := 7, slots := #[.null, .int 1, .int 0, .int 0], vm := .none }]
def classes : Array Class := #[k0, k1, k2, k3, k4, k5, k6, k7, k8, k9, k10, k11, k12]
def interned : List (Array UInt16 × Addr) := []
def slotsUsed : Nat := 17
def theMethod : MethodId := ⟨1, 2⟩
def args0 : Array Value := #[.int 5, .int 7, .int 9, .int 11, .int 13]
def aboutOver (below : List Frame) : State where
  vm := { classes := classes, interned := interned.toArray }
  heap := heap
  slotsUsed := slotsUsed
  threads := #[{ frames := .invoking theMethod args0 :: below }]
def below0 : List Frame := [.native { method := ⟨0, 0⟩, args := #[] }]
def about1 : State := aboutOver below0
def p0 : Program := .bare "" "" ""
def e0 : Env := launch0.env 0 0 0
theorem w_frames : about1.frames = Frame.invoking theMethod args0 :: below0 := rfl
set_option maxRecDepth 65536 in
theorem w_args : argsFit about1.vm theMethod args0 = true := by decide +kernel
set_option maxRecDepth 65536 in
theorem w_heap : heapFits about1 = true := by decide +kernel
set_option maxRecDepth 65536 in
theorem w_runnable : about1.curStatus? = some .runnable := by decide +kernel
set_option maxRecDepth 65536 in
theorem w_alone : about1.alone = true := by decide +kernel
set_option maxRecDepth 65536 in
theorem w_named : about1.methodNamed? x = some theMethod := by decide +kernel
set_option maxRecDepth 65536 in
theorem w_hears : about1.hears theMethod below0 = true := by decide +kernel
set_option maxRecDepth 65536 in
theorem w_ripe : about1.ripe theMethod args0 below0 = true := by decide +kernel
theorem w_running : about1.status = .running := rfl
set_option maxRecDepth 65536 in
theorem w_room : about1.hasRoom e0.platform room_1 = true :=
  launch0.hasRoom_least _ room_1 (by decide +kernel) (by decide +kernel) (by decide +kernel) (by decide +kernel) (by decide +kernel) (by decide +kernel)
theorem allAtoms_all (ts : List Jvm.Cond) (a : Array Jvm.Value) (st : Jvm.State) : (allAtoms ts).before a st = ts.all (fun c => c.before a st) := by
  induction ts with
  | nil => rfl
  | cons c t ih =>
    show (Jvm.Cond.and c (allAtoms t)).before a st = _
    rw [Jvm.Cond.before_and, ih, List.all_cons]
def words1 : List Jvm.Cond := Jvm.Cond.code x code maxLocals ret :: tables_1
/-- a 'code' word, met by the world's own term for the bytes: nothing is compared byte by byte -/
theorem code_word {y : MethodName} {bytes : ByteArray} {mx : Nat} {rt : Option FieldType} {a : Array Value} {s : State} {m : MethodId} {meth : Method} {c : Code} (h1 : s.methodNamed? y = some m) (h2 : s.vm.method? m = some meth) (h3 : meth.code = some c) (h4 : c.code = bytes)
    (h5 : (c.maxLocals == mx && c.exceptionTable.isEmpty && decide (c.maxStack ≤ mostOperands) && decide (meth.sig.returnType = rt) && !meth.locks && decide (parseMethodDescriptor y.desc = some meth.sig)) = true) : (Jvm.Cond.code y bytes mx rt).before a s = true := by
  simp only [Bool.and_eq_true, beq_iff_eq, Bool.not_eq_true', decide_eq_true_eq] at h5
  obtain ⟨⟨⟨⟨⟨g1, g2⟩, g3⟩, g4⟩, g5⟩, g6⟩ := h5
  simp [Cond.before, Cond.holds, Cond.value, h1, h2, h3, h4, g1, g2, g3, g4, g5, g6]
def isCode : Jvm.Cond → Bool
  | .code _ _ _ _ => true
  | _ => false
theorem all_split {L : List Jvm.Cond} {P : Jvm.Cond → Bool} (h1 : L.all (fun c => isCode c || P c) = true) (h2 : ∀ c ∈ L.filter isCode, P c = true) : L.all P = true := by
  refine List.all_eq_true.mpr fun c hc => ?_
  have h := List.all_eq_true.mp h1 c hc
  rcases Bool.eq_false_or_eq_true (isCode c) with hi | hi
  · exact h2 c (List.mem_filter.mpr ⟨hc, hi⟩)
  · simpa [hi] using h
set_option maxRecDepth 65536 in
theorem w_c0 : (Jvm.Cond.code x code maxLocals ret).before args0 about1 = true := code_word (m := ⟨1, 2⟩) (meth := k1m2) (c := k1c2) (by decide +kernel) rfl rfl rfl (by decide +kernel)
set_option maxRecDepth 65536 in
theorem w_c1 : (Jvm.Cond.code ({ cls := "com/example/rippletide/rippletide/model/StateChanges", name := "<init>", desc := "()V" } : Jvm.MethodName) prog_38_method_1_code (1 : Nat) (Option.none : Option Jvm.ClassFile.FieldType)).before args0 about1 = true := code_word (m := ⟨2, 0⟩) (meth := k2m0) (c := k2c0) (by decide +kernel) rfl rfl rfl (by decide +kernel)
set_option maxRecDepth 65536 in
theorem w_c2 : (Jvm.Cond.code ({ cls := "java/lang/Object", name := "<init>", desc := "()V" } : Jvm.MethodName) object_method_1_code (1 : Nat) (Option.none : Option Jvm.ClassFile.FieldType)).before args0 about1 = true := code_word (m := ⟨0, 0⟩) (meth := k0m0) (c := k0c0) (by decide +kernel) rfl rfl rfl (by decide +kernel)
set_option maxRecDepth 65536 in
theorem w_c3 : (Jvm.Cond.code ({ cls := "com/example/rippletide/rippletide/model/StateChangesHashCodePinLaw", name := "state", desc := "(I)Lcom/example/rippletide/rippletide/model/State;" } : Jvm.MethodName) method_2_code (1 : Nat) (Option.some (Jvm.ClassFile.FieldType.object "com/example/rippletide/rippletide/model/State"))).before args0 about1 = true := code_word (m := ⟨1, 1⟩) (meth := k1m1) (c := k1c1) (by decide +kernel) rfl rfl rfl (by decide +kernel)
set_option maxRecDepth 65536 in
theorem w_c4 : (Jvm.Cond.code ({ cls := "com/example/rippletide/rippletide/model/StateChanges", name := "add", desc := "(ILcom/example/rippletide/rippletide/model/State;)V" } : Jvm.MethodName) prog_38_method_3_code (4 : Nat) (Option.none : Option Jvm.ClassFile.FieldType)).before args0 about1 = true := code_word (m := ⟨2, 2⟩) (meth := k2m2) (c := k2c2) (by decide +kernel) rfl rfl rfl (by decide +kernel)
set_option maxRecDepth 65536 in
theorem w_c5 : (Jvm.Cond.code ({ cls := "java/lang/Enum", name := "ordinal", desc := "()I" } : Jvm.MethodName) jdk_37_method_2_code (1 : Nat) (Option.some Jvm.ClassFile.FieldType.int)).before args0 about1 = true := code_word (m := ⟨6, 0⟩) (meth := k6m0) (c := k6c0) (by decide +kernel) rfl rfl rfl (by decide +kernel)
set_option maxRecDepth 65536 in
theorem w_c6 : (Jvm.Cond.code ({ cls := "com/example/rippletide/rippletide/model/StateChanges", name := "hashCode", desc := "()I" } : Jvm.MethodName) prog_38_method_8_code (3 : Nat) (Option.some Jvm.ClassFile.FieldType.int)).before args0 about1 = true := code_word (m := ⟨2, 4⟩) (meth := k2m4) (c := k2c4) (by decide +kernel) rfl rfl rfl (by decide +kernel)
set_option maxRecDepth 65536 in
theorem w_c7 : (Jvm.Cond.code ({ cls := "com/example/rippletide/rippletide/model/StateChanges", name := "count", desc := "()I" } : Jvm.MethodName) prog_38_method_4_code (1 : Nat) (Option.some Jvm.ClassFile.FieldType.int)).before args0 about1 = true := code_word (m := ⟨2, 3⟩) (meth := k2m3) (c := k2c3) (by decide +kernel) rfl rfl rfl (by decide +kernel)
set_option maxRecDepth 65536 in
theorem w_c8 : (Jvm.Cond.code ({ cls := "com/example/rippletide/rippletide/model/StateChanges", name := "clear", desc := "()V" } : Jvm.MethodName) prog_38_method_2_code (1 : Nat) (Option.none : Option Jvm.ClassFile.FieldType)).before args0 about1 = true := code_word (m := ⟨2, 1⟩) (meth := k2m1) (c := k2c1) (by decide +kernel) rfl rfl rfl (by decide +kernel)
def codes1 : List Jvm.Cond := [Jvm.Cond.code x code maxLocals ret, Jvm.Cond.code ({ cls := "com/example/rippletide/rippletide/model/StateChanges", name := "<init>", desc := "()V" } : Jvm.MethodName) prog_38_method_1_code (1 : Nat) (Option.none : Option Jvm.ClassFile.FieldType), Jvm.Cond.code ({ cls := "java/lang/Object", name := "<init>", desc := "()V" } : Jvm.MethodName) object_method_1_code (1 : Nat) (Option.none : Option Jvm.ClassFile.FieldType), Jvm.Cond.code ({ cls := "com/example/rippletide/rippletide/model/StateChangesHashCodePinLaw", name := "state", desc := "(I)Lcom/example/rippletide/rippletide/model/State;" } : Jvm.MethodName) method_2_code (1 : Nat) (Option.some (Jvm.ClassFile.FieldType.object "com/example/rippletide/rippletide/model/State")), Jvm.Cond.code ({ cls := "com/example/rippletide/rippletide/model/StateChanges", name := "add", desc := "(ILcom/example/rippletide/rippletide/model/State;)V" } : Jvm.MethodName) prog_38_method_3_code (4 : Nat) (Option.none : Option Jvm.ClassFile.FieldType), Jvm.Cond.code ({ cls := "java/lang/Enum", name := "ordinal", desc := "()I" } : Jvm.MethodName) jdk_37_method_2_code (1 : Nat) (Option.some Jvm.ClassFile.FieldType.int), Jvm.Cond.code ({ cls := "com/example/rippletide/rippletide/model/StateChanges", name := "hashCode", desc := "()I" } : Jvm.MethodName) prog_38_method_8_code (3 : Nat) (Option.some Jvm.ClassFile.FieldType.int), Jvm.Cond.code ({ cls := "com/example/rippletide/rippletide/model/StateChanges", name := "count", desc := "()I" } : Jvm.MethodName) prog_38_method_4_code (1 : Nat) (Option.some Jvm.ClassFile.FieldType.int), Jvm.Cond.code ({ cls := "com/example/rippletide/rippletide/model/StateChanges", name := "clear", desc := "()V" } : Jvm.MethodName) prog_38_method_2_code (1 : Nat) (Option.none : Option Jvm.ClassFile.FieldType)]
set_option maxRecDepth 65536 in
theorem codes_eq : words1.filter isCode = codes1 := rfl
theorem w_codes : ∀ c ∈ words1.filter isCode, c.before args0 about1 = true := by
  rw [codes_eq]
  intro c hc
  simp only [codes1, List.mem_cons, List.not_mem_nil, or_false] at hc
  rcases hc with rfl | rfl | rfl | rfl | rfl | rfl | rfl | rfl | rfl
  · exact w_c0
  · exact w_c1
  · exact w_c2
  · exact w_c3
  · exact w_c4
  · exact w_c5
  · exact w_c6
  · exact w_c7
  · exact w_c8
set_option maxRecDepth 65536 in
theorem w_t1 : (words1.take 24).all (fun c => isCode c || c.before args0 about1) = true := by decide +kernel
set_option maxRecDepth 65536 in
theorem w_t2 : ((words1.drop 24).take 24).all (fun c => isCode c || c.before args0 about1) = true := by decide +kernel
set_option maxRecDepth 65536 in
theorem w_t3 : ((words1.drop 24).drop 24).all (fun c => isCode c || c.before args0 about1) = true := by decide +kernel
theorem w_tables : (allAtoms (Jvm.Cond.code x code maxLocals ret :: tables_1)).before args0 about1 = true := by
  rw [allAtoms_all]
  show words1.all (fun c => c.before args0 about1) = true
  refine all_split ?_ w_codes
  rw [← List.take_append_drop 24 words1, List.all_append, w_t1, ← List.take_append_drop 24 (words1.drop 24), List.all_append, w_t2, w_t3]
  rfl
set_option maxRecDepth 65536 in
theorem w_case : (Jvm.Cond.and given_1 narrow_1).before args0 about1 = true := by decide +kernel
theorem w_applies : (headSpec (Jvm.Cond.code x code maxLocals ret :: tables_1) room_1).applies x e0.platform about1 = true :=
  (Spec.applies_iff w_frames).mpr ⟨w_running, w_runnable, w_alone, w_named, w_hears, w_ripe, w_room, w_tables⟩
theorem atStart : AtStart classFile x code maxLocals ret World_1 tables_1 room_1 Calls_1 rest_1 Pre_1 launch0 p0 e0 about1 theMethod args0 below0 :=
  ⟨lists_1, trivial, launch0.admits_env _ _ _, launch0.least_env, fairChoices_fair.cas, fairChoices_fair.clock, w_frames, w_args, w_heap, w_applies, trivial, trivial, w_case⟩
end start1
theorem witness_1 : WitnessClaimed_1 := ⟨start1.p0, start1.e0, start1.about1, start1.theMethod, start1.args0, start1.below0, start1.atStart⟩
end Jvm.Pilot.@@N@@
