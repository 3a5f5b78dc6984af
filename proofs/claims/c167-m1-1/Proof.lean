import JvmDerived
import JvmDerived.Pilot.@@N@@Statement
import JvmDerived.Pilot.@@N@@Code
set_option linter.unusedVariables false
set_option linter.unusedSimpArgs false
namespace Jvm.RoadKit
open Sem ClassFile Op Lib Jvm.Stand Jvm.Free Jvm.LawKit
section New
variable {p : Program} {l : Launch} {e : Env} {R : Room} {s : State} {m : MethodId} {args : Array Value} {below : List Frame} {meth : Method} {c : Code} {T : State} {locs : List Loc} {cells slots : Nat}
theorem own_retI (X : Stand p l e R s m args below meth c T locs cells slots) (hx : p.tables.exec = Jvm.exec) {pc : Nat} {Ls : Array Slot} {z : Int32} {rest : List Value} (hret : meth.sig.returnType = some .int) (hd : decode c.code pc = .ok (.ireturn, 1)) {fs : List Frame}
    (hl : ∀ (f : JFrame) (acts : List Action), f.method = m → f.locked = none → f.entered = [] → (doReturn e (T.setTop f) acts (some (.int z))).1 = T.setFrames fs) : Steps p.tables e below (T.setTop (mkF m pc Ls (.int z :: rest))) (T.setFrames fs) :=
  retOut X hx hret rfl (Or.inl ⟨rfl, Or.inl rfl, z, rfl⟩) hd hl
theorem own_retL (X : Stand p l e R s m args below meth c T locs cells slots) (hx : p.tables.exec = Jvm.exec) {pc : Nat} {Ls : Array Slot} {z : Int64} {rest : List Value} (hret : meth.sig.returnType = some .long) (hd : decode c.code pc = .ok (.lreturn, 1)) {fs : List Frame}
    (hl : ∀ (f : JFrame) (acts : List Action), f.method = m → f.locked = none → f.entered = [] → (doReturn e (T.setTop f) acts (some (.long z))).1 = T.setFrames fs) : Steps p.tables e below (T.setTop (mkF m pc Ls (.long z :: rest))) (T.setFrames fs) :=
  retOut X hx hret rfl (Or.inr (Or.inl ⟨rfl, rfl, z, rfl⟩)) hd hl
theorem own_retA (X : Stand p l e R s m args below meth c T locs cells slots) (hx : p.tables.exec = Jvm.exec) {pc : Nat} {Ls : Array Slot} {w : Value} {t : FieldType} {rest : List Value} (hret : meth.sig.returnType = some t) (ht : t.isReference = true) (hw : w.isRef = true) (hd : decode c.code pc = .ok (.areturn, 1)) {fs : List Frame}
    (hl : ∀ (f : JFrame) (acts : List Action), f.method = m → f.locked = none → f.entered = [] → (doReturn e (T.setTop f) acts (some w)).1 = T.setFrames fs) : Steps p.tables e below (T.setTop (mkF m pc Ls (w :: rest))) (T.setFrames fs) :=
  retOut X hx hret (by cases t <;> cases w <;> simp_all [narrow, Value.isRef, FieldType.isReference]) (Or.inr (Or.inr (Or.inr (Or.inr ⟨rfl, ht, hw⟩)))) hd hl
end New
end Jvm.RoadKit
namespace Jvm.Pilot.@@N@@
open Jvm Jvm.ClassFile Sem Op Lib Jvm.Free Jvm.Stand Jvm.LawKit Jvm.RoadKit Bundle Jvm.Pilot.@@N@@.Jvm.D
theorem own_lcEt {x y : Int64} (h : x = y) : lcmpW x y = (0 : Int32) := by rw [lcW]; exact (lc_eq x y).mpr h
theorem own_lcEf {x y : Int64} (h : ¬ (x = y)) : ¬ (lcmpW x y = (0 : Int32)) := by rw [lcW]; exact fun q => h ((lc_eq x y).mp q)
theorem own_lcLt {x y : Int64} (h : x < y) : lcmpW x y < (0 : Int32) := by rw [lcW]; exact (lc_lt x y).mpr h
theorem own_lcLf {x y : Int64} (h : ¬ (x < y)) : ¬ (lcmpW x y < (0 : Int32)) := by rw [lcW]; exact fun q => h ((lc_lt x y).mp q)
theorem own_lcGt {x y : Int64} (h : y < x) : (0 : Int32) < lcmpW x y := by rw [lcW]; exact (lc_gt x y).mpr h
theorem own_lcGf {x y : Int64} (h : ¬ (y < x)) : ¬ ((0 : Int32) < lcmpW x y) := by rw [lcW]; exact fun q => h ((lc_gt x y).mp q)
theorem own_ext_refl (h : Heap) : Ext h h := ⟨Nat.le_refl _, fun _ _ q => q⟩
theorem own_ext_trans {h h' h'' : Heap} (E : Ext h h') (F : Ext h' h'') : Ext h h'' := ⟨Nat.le_trans E.1 F.1, fun a c q => F.2 a c (E.2 a c q)⟩
theorem own_ext_wr {h h' h'' : Heap} {a : Addr} {sl : Nat} {v : Value} (E : Ext h h') (W : Wr h' h'' a sl v) (q : h.size ≤ a) : Ext h h'' := by
  obtain ⟨cell, -, -, -, rfl⟩ := W
  refine ⟨by simpa using E.1, fun b c r => ?_⟩
  have hb : b < h.size := (Array.getElem?_eq_some_iff.mp r).1
  rw [Array.getElem?_setIfInBounds_ne (Nat.ne_of_gt (Nat.lt_of_lt_of_le hb q))]
  exact E.2 b c r
theorem own_fldI {args : Array Value} {s : State} {t : Term} {a : Addr} {C n d : String} {k : Int32} (ev : t.eval args s none [] s = some (.ref a)) (h : (Cond.eq (.field t C n d) (.int k)).value args s none s [] = some true) : Fld s s.heap a C n d (.int k) := by
  obtain ⟨u, v, h1, h2, -, k2⟩ := cmp_v (Or.inl h)
  have e2 : (Term.int k).eval args s none [] s = some (.int k) := rfl
  cases e2.symm.trans h2
  obtain ⟨z, rfl⟩ := k2
  have q : z = k := by simpa [Cond.value, h1, e2] using h
  subst q
  exact Fld.start ((fld_at ev).symm.trans h1)
theorem own_fldJ {args : Array Value} {s : State} {t : Term} {a : Addr} {C n d : String} {k : Int64} (ev : t.eval args s none [] s = some (.ref a)) (h : (Cond.eq (.field t C n d) (.long k)).value args s none s [] = some true) : Fld s s.heap a C n d (.long k) := by
  obtain ⟨u, v, h1, h2, -, k2⟩ := cmp_v (Or.inl h)
  have e2 : (Term.long k).eval args s none [] s = some (.long k) := rfl
  cases e2.symm.trans h2
  obtain ⟨z, rfl⟩ := k2
  have q : z = k := by simpa [Cond.value, h1, e2] using h
  subst q
  exact Fld.start ((fld_at ev).symm.trans h1)
theorem own_fldN {args : Array Value} {s : State} {t : Term} {a : Addr} {C n d : String} (ev : t.eval args s none [] s = some (.ref a)) (h : (Cond.eq (.field t C n d) .null).value args s none s [] = some true) : Fld s s.heap a C n d .null :=
  Fld.start ((fld_at ev).symm.trans (null_v h))
theorem own_eqR {args : Array Value} {s : State} {t u : Term} {b : Addr} (eu : u.eval args s none [] s = some (.ref b)) (h : (Cond.eq t u).value args s none s [] = some true) : t.eval args s none [] s = some (.ref b) := by
  obtain ⟨x, y, h1, h2, k1, k2⟩ := cmp_v (Or.inl h)
  cases eu.symm.trans h2
  have hx : x.isRef = true := k2.2
  have q := gotT (eq_R h1 h2 hx rfl) h
  rw [h1, q]
theorem own_fldR {args : Array Value} {s : State} {t u : Term} {a b : Addr} {C n d : String} (ev : t.eval args s none [] s = some (.ref a)) (eu : u.eval args s none [] s = some (.ref b)) (h : (Cond.eq (.field t C n d) u).value args s none s [] = some true) : Fld s s.heap a C n d (.ref b) :=
  Fld.start ((fld_at ev).symm.trans (own_eqR eu h))
theorem own_elI {args : Array Value} {s : State} {t : Term} {a : Addr} {cl : Cell} {j k : Int32} {i : Nat} (ev : t.eval args s none [] s = some (.ref a)) (hc : s.heap[a]? = some cl) (h : (Cond.eq (.elem t (.int j)) (.int k)).value args s none s [] = some true) (hj : j.toNatClampNeg = i) : cl.slots[i]? = some (.int k) := by
  obtain ⟨u, v, h1, h2, -, k2⟩ := cmp_v (Or.inl h)
  have e2 : (Term.int k).eval args s none [] s = some (.int k) := rfl
  cases e2.symm.trans h2
  obtain ⟨z, rfl⟩ := k2
  have q : z = k := by simpa [Cond.value, h1, e2] using h
  subst q hj
  exact (elem_in h1 ev (rfl : (Term.int j).eval args s none [] s = some (.int j)) hc).2
theorem own_elR {args : Array Value} {s : State} {t u : Term} {a b : Addr} {cl : Cell} {j : Int32} {i : Nat} (ev : t.eval args s none [] s = some (.ref a)) (eu : u.eval args s none [] s = some (.ref b)) (hc : s.heap[a]? = some cl) (h : (Cond.eq (.elem t (.int j)) u).value args s none s [] = some true) (hj : j.toNatClampNeg = i) : cl.slots[i]? = some (.ref b) := by
  subst hj
  exact (elem_in (own_eqR eu h) ev (rfl : (Term.int j).eval args s none [] s = some (.int j)) hc).2
theorem own_len {args : Array Value} {s : State} {t : Term} {a : Addr} {cl : Cell} {ty : FieldType} {k : Int32} (ev : t.eval args s none [] s = some (.ref a)) (A : Arr s s.heap a cl ty) (h : (Cond.eq (.length t) (.int k)).value args s none s [] = some true) : cl.slots.size < 2 ^ 31 ∧ cl.slots.size.toInt32 = k := by
  obtain ⟨u, v, h1, h2, -, k2⟩ := cmp_v (Or.inl h)
  have e2 : (Term.int k).eval args s none [] s = some (.int k) := rfl
  cases e2.symm.trans h2
  obtain ⟨z, rfl⟩ := k2
  have q : z = k := by simpa [Cond.value, h1, e2] using h
  subst q
  have ha := A.fin (Vm.Alike.refl _)
  simp only [Term.eval, ev, ha, Option.bind_eq_bind, Option.bind_some] at h1
  split at h1
  · rename_i q
    exact ⟨q, by simpa using h1⟩
  · cases h1
def Cache (Z : State) (h : Heap) (w : Addr) : Prop := ∃ cl, Arr Z h w cl (.object "java/lang/Long") ∧ cl.slots.size = 256 ∧ ∀ i, i < 256 → ∃ r, cl.slots[i]? = some (.ref r) ∧ Exa Z h r "java/lang/Long"
theorem Cache.ext {Z : State} {h h' : Heap} {w : Addr} (C : Cache Z h w) (E : Ext h h') : Cache Z h' w := by
  obtain ⟨cl, A, S, H⟩ := C
  exact ⟨cl, A.ext E, S, fun i hi => by obtain ⟨r, h1, h2⟩ := H i hi; exact ⟨r, h1, h2.ext E⟩⟩
theorem own_cache {args : Array Value} {s : State} {t : Term} {w : Addr} {d : Cond} (ev : ∀ idx, t.eval args s none idx s = some (.ref w)) (h2 : (Cond.arrayOf t (.object "java/lang/Long")).value args s none s [] = some true) (h4 : (Cond.eq (.length t) (.int (256 : Int32))).value args s none s [] = some true)
    (h5 : (Cond.all t (.and (.exactly (.elem t (.index 0)) "java/lang/Long") d)).value args s none s [] = some true) : Cache s s.heap w := by
  obtain ⟨cl, A⟩ := Arr.start (ev []) h2
  obtain ⟨q1, q2⟩ := own_len (ev []) A h4
  have S : cl.slots.size = 256 := by
    have e1 := len_toInt q1
    rw [q2] at e1
    have e2 : (256 : Int32).toInt = 256 := by decide
    omega
  refine ⟨cl, A, S, fun i hi => ?_⟩
  have hall := Cond.all_elim (ev []) (A.fin (Vm.Alike.refl _)) h5 i (by rw [S]; exact hi)
  obtain ⟨h6, -⟩ := and_e hall
  obtain ⟨r, c', cell, k, e1, e2, e3, e4, e5, rfl, e7⟩ := Cond.exactly_spec (beq_iff_eq.mpr h6 : (Cond.exactly (.elem t (.index 0)) "java/lang/Long").holds args s none s [i] = true)
  have hj : (Term.index 0).eval args s none [i] s = some (.int i.toInt32) := rfl
  have h7 := (elem_in e1 (ev [i]) hj A.1).2
  have h8 : i.toInt32.toNatClampNeg = i := by simp only [Int32.toNatClampNeg, len_toInt (n := i) (by omega)]; rfl
  rw [h8] at h7
  exact ⟨r, h7, cell, k, e3, e2, e4, e5, e7⟩
theorem own_max (x : Int64) : ¬ (x &&& (9223372036854775807 : Int64)) < (0 : Int64) := by
  intro h
  have h1 := (Jvm.Free.XT.and_neg64 x (9223372036854775807 : Int64)).mp h
  exact absurd h1.2 (by decide)
theorem own_ix {x : Int64} (h1 : ¬ x < (-128 : Int64)) (h2 : ¬ (127 : Int64) < x) : ¬ (x.toInt32 + (128 : Int32)) < 0 ∧ (x.toInt32 + (128 : Int32)).toNatClampNeg < 256 := by
  rw [Int64.lt_iff_toInt_lt] at h1 h2
  have e1 : (-128 : Int64).toInt = -128 := by decide
  have e2 : (127 : Int64).toInt = 127 := by decide
  have e3 : (128 : Int32).toInt = 128 := by decide
  have e4 : x.toInt32.toInt = x.toInt := by rw [Int64.toInt_toInt32]; exact Int.bmod_eq_of_le (by omega) (by omega)
  have e5 : (x.toInt32 + (128 : Int32)).toInt = x.toInt + 128 := by rw [Int32.toInt_add, e4, e3]; exact Int.bmod_eq_of_le (by omega) (by omega)
  have e0 : (0 : Int32).toInt = 0 := by decide
  refine ⟨?_, ?_⟩
  · rw [Int32.lt_iff_toInt_lt, e5, e0]; omega
  · simp only [Int32.toNatClampNeg, e5]; omega
theorem own_noAT {Z : State} {a0 : Array Value} (hw : ∀ d ∈ tables_1, d.before a0 Z = true) : ∃ c t, Z.vm.findClass "java/lang/Long" = some c ∧ Z.vm.findClass "com/example/rialto/rialto/ledger/AccountTotals" = some t ∧ Z.vm.assignable c t = false := by
  obtain ⟨t, kt, g1, g2, g3, g4, -, -⟩ := Cond.instantiable_spec (hw _ (List.mem_of_getElem? (i := 2) rfl))
  obtain ⟨cO, kO, o1, o2, o3, -, -⟩ := Cond.noSuperclass_spec (hw _ (List.mem_of_getElem? (i := 48) rfl))
  obtain ⟨cN, n0⟩ := found_sup (hw _ (List.mem_of_getElem? (i := 47) rfl))
  obtain ⟨pN, kN, kpN, n1, n2, n3, n4, -⟩ := Cond.superclass_spec n0 (hw _ (List.mem_of_getElem? (i := 47) rfl))
  obtain ⟨cL, l0⟩ := found_sup (hw _ (List.mem_of_getElem? (i := 46) rfl))
  obtain ⟨pL, kL, kpL, l1, l2, l3, l4, l5, -, l7⟩ := Cond.superclass_spec l0 (hw _ (List.mem_of_getElem? (i := 46) rfl))
  cases o1.symm.trans n1
  cases n0.symm.trans l1
  have ne1 := ids_ne l0 g1 (by decide)
  have ne2 := ids_ne n0 g1 (by decide)
  have ne3 := ids_ne o1 g1 (by decide)
  have hi : kt.isInterface = false := by cases hh : kt.isInterface <;> simp [hh] at g4 ⊢
  have hs : ∀ fuel, Z.vm.isSubclassAux fuel cL t = false := by
    intro fuel
    cases fuel with
    | zero => rfl
    | succ f => cases f with
      | zero => simp [Vm.isSubclassAux, ne1, l2, l4]
      | succ f => cases f with
        | zero => simp [Vm.isSubclassAux, ne1, l2, l4, ne2, n2, n4]
        | succ f => simp [Vm.isSubclassAux, ne1, l2, l4, ne2, n2, n4, ne3, o2, o3]
  refine ⟨cL, t, l0, g1, ?_⟩
  show Z.vm.assignableAux (255 + 1) cL t = false
  simp [Vm.assignableAux, ne1, l2, g2, l5, g3, hi, Vm.isSubclass, hs]
def World (Z : State) (h : Heap) (wcache : Addr) : Prop := Sta Z h "java/lang/Long$LongCache" "cache" "[Ljava/lang/Long;" (.ref wcache) ∧ Cache Z h wcache ∧ True
theorem World.ext {Z : State} {h h' : Heap} {wcache : Addr} (W : World Z h wcache) (E : Ext h h') : World Z h' wcache := by
  obtain ⟨Scache, Ccache, -⟩ := W
  exact ⟨Scache.ext E, Ccache.ext E, trivial⟩
def Tot (Z : State) (h : Heap) (n0 : Nat) (a : Addr) (v_pendingCredits : Int64) (v_pendingDebits : Int64) (v_postedCredits : Int64) (v_postedDebits : Int64) : Prop := Exa Z h a "com/example/rialto/rialto/ledger/AccountTotals" ∧ n0 ≤ a ∧ Fld Z h a "com/example/rialto/rialto/ledger/AccountTotals" "pendingCredits" "J" (.long v_pendingCredits) ∧ Fld Z h a "com/example/rialto/rialto/ledger/AccountTotals" "pendingDebits" "J" (.long v_pendingDebits) ∧ Fld Z h a "com/example/rialto/rialto/ledger/AccountTotals" "postedCredits" "J" (.long v_postedCredits) ∧ Fld Z h a "com/example/rialto/rialto/ledger/AccountTotals" "postedDebits" "J" (.long v_postedDebits) ∧ True
def LongO (Z : State) (h : Heap) (n0 : Nat) (a : Addr) (v_value : Int64) : Prop := Exa Z h a "java/lang/Long" ∧ n0 ≤ a ∧ Fld Z h a "java/lang/Long" "value" "J" (.long v_value) ∧ True
theorem d1_0 : decode prog_10_method_1_code 0 = .ok (.aload_n 0, 1) := by decide +kernel
theorem d1_1 : decode prog_10_method_1_code 1 = .ok (.invokespecial 1, 3) := by decide +kernel
theorem d1_4 : decode prog_10_method_1_code 4 = .ok (.lload_n 1, 1) := by decide +kernel
theorem d1_5 : decode prog_10_method_1_code 5 = .ok (.lconst 0, 1) := by decide +kernel
theorem d1_6 : decode prog_10_method_1_code 6 = .ok (.lcmp, 1) := by decide +kernel
theorem d1_7 : decode prog_10_method_1_code 7 = .ok (.ifCond .lt 23, 3) := by decide +kernel
theorem d1_10 : decode prog_10_method_1_code 10 = .ok (.lload_n 3, 1) := by decide +kernel
theorem d1_11 : decode prog_10_method_1_code 11 = .ok (.lconst 0, 1) := by decide +kernel
theorem d1_12 : decode prog_10_method_1_code 12 = .ok (.lcmp, 1) := by decide +kernel
theorem d1_13 : decode prog_10_method_1_code 13 = .ok (.ifCond .lt 17, 3) := by decide +kernel
theorem d1_16 : decode prog_10_method_1_code 16 = .ok (.lload 5, 2) := by decide +kernel
theorem d1_18 : decode prog_10_method_1_code 18 = .ok (.lconst 0, 1) := by decide +kernel
theorem d1_19 : decode prog_10_method_1_code 19 = .ok (.lcmp, 1) := by decide +kernel
theorem d1_20 : decode prog_10_method_1_code 20 = .ok (.ifCond .lt 10, 3) := by decide +kernel
theorem d1_23 : decode prog_10_method_1_code 23 = .ok (.lload 7, 2) := by decide +kernel
theorem d1_25 : decode prog_10_method_1_code 25 = .ok (.lconst 0, 1) := by decide +kernel
theorem d1_26 : decode prog_10_method_1_code 26 = .ok (.lcmp, 1) := by decide +kernel
theorem d1_27 : decode prog_10_method_1_code 27 = .ok (.ifCond .ge 13, 3) := by decide +kernel
theorem d1_40 : decode prog_10_method_1_code 40 = .ok (.aload_n 0, 1) := by decide +kernel
theorem d1_41 : decode prog_10_method_1_code 41 = .ok (.lload_n 1, 1) := by decide +kernel
theorem d1_42 : decode prog_10_method_1_code 42 = .ok (.putfield 14, 3) := by decide +kernel
theorem d1_45 : decode prog_10_method_1_code 45 = .ok (.aload_n 0, 1) := by decide +kernel
theorem d1_46 : decode prog_10_method_1_code 46 = .ok (.lload_n 3, 1) := by decide +kernel
theorem d1_47 : decode prog_10_method_1_code 47 = .ok (.putfield 20, 3) := by decide +kernel
theorem d1_50 : decode prog_10_method_1_code 50 = .ok (.aload_n 0, 1) := by decide +kernel
theorem d1_51 : decode prog_10_method_1_code 51 = .ok (.lload 5, 2) := by decide +kernel
theorem d1_53 : decode prog_10_method_1_code 53 = .ok (.putfield 23, 3) := by decide +kernel
theorem d1_56 : decode prog_10_method_1_code 56 = .ok (.aload_n 0, 1) := by decide +kernel
theorem d1_57 : decode prog_10_method_1_code 57 = .ok (.lload 7, 2) := by decide +kernel
theorem d1_59 : decode prog_10_method_1_code 59 = .ok (.putfield 26, 3) := by decide +kernel
theorem d1_62 : decode prog_10_method_1_code 62 = .ok (.return_, 1) := by decide +kernel
theorem pn_0 : plainName "com/example/rialto/rialto/ledger/AccountTotals" = true := by first | (simp [plainName, overriddenIn]; done) | decide +kernel
theorem ef_1 (m : MethodId) (p0 : Addr) (p1 : Int64) (p2 : Int64) (p3 : Int64) (p4 : Int64) : entryFrame m #[(.ref p0), (.long p1), (.long p2), (.long p3), (.long p4)] 9 = mkF m 0 #[.val (.ref p0), .val (.long p1), .second, .val (.long p2), .second, .val (.long p3), .second, .val (.long p4), .second] [] := by first | (simp [entryFrame, mkF, argsToLocals, Value.category]; done) | rfl
def Q1 (Z : State) (p0 : Addr) (p1 : Int64) (p2 : Int64) (p3 : Int64) (p4 : Int64) (wcache : Addr) (hs : Heap) (h0 : Heap) (n0 : Nat) (v : Option Value) (h : Heap) (L : List Loc) : Prop := v = none ∧ Fr n0 L ∧ Ext hs h ∧ Keep h0 h [p0] ∧ Tot Z h n0 p0 p1 p2 p3 p4
set_option maxRecDepth 65536 in
set_option maxHeartbeats 40000000 in
theorem rm1 (l : Launch) (Z : State) (a0 : Array Value) (hw : ∀ d ∈ tables_1, d.before a0 Z = true) (ws : List Jvm.Cond) (p0 : Addr) (p1 : Int64) (p2 : Int64) (p3 : Int64) (p4 : Int64) (wcache : Addr) (hs : Heap) (h0 : Heap) (n0 : Nat) (Z0 : n0 ≤ h0.size) (WS : World Z hs wcache) (O0 : Ext hs h0) (Zs : hs.size ≤ n0) (E_p0 : Exa Z h0 p0 "com/example/rialto/rialto/ledger/AccountTotals") (g_p0 : n0 ≤ p0) (G_p0_pendingCredits : Fld Z h0 p0 "com/example/rialto/rialto/ledger/AccountTotals" "pendingCredits" "J" (.long (0 : Int64))) (G_p0_pendingDebits : Fld Z h0 p0 "com/example/rialto/rialto/ledger/AccountTotals" "pendingDebits" "J" (.long (0 : Int64))) (G_p0_postedCredits : Fld Z h0 p0 "com/example/rialto/rialto/ledger/AccountTotals" "postedCredits" "J" (.long (0 : Int64))) (G_p0_postedDebits : Fld Z h0 p0 "com/example/rialto/rialto/ledger/AccountTotals" "postedDebits" "J" (.long (0 : Int64))) (hn1 : ¬ p1 < (0 : Int64)) (hn2 : ¬ p2 < (0 : Int64)) (hn3 : ¬ p3 < (0 : Int64)) (hn4 : ¬ p4 < (0 : Int64)) :
    MetFree l (⟨"com/example/rialto/rialto/ledger/AccountTotals", "<init>", "(JJJJ)V"⟩ : MethodName) (head1 (Jvm.Cond.code (⟨"com/example/rialto/rialto/ledger/AccountTotals", "<init>", "(JJJJ)V"⟩ : MethodName) prog_10_method_1_code 9 none :: ws) ({ frames := 1, cells := 0, slots := 0, locals := 12 } : Room)) (fun a U => a = #[(.ref p0), (.long p1), (.long p2), (.long p3), (.long p4)] ∧ Z.Warmed39 U.vm ∧ U.heap = h0) (fun _ _ _ _ _ => True) (fun _ U o U' => ∃ v L, o = .returned v ∧ Q1 Z p0 p1 p2 p3 p4 wcache hs h0 n0 v U'.heap L ∧ FrameEnd U o U' L ({ frames := 1, cells := 0, slots := 0, locals := 12 } : Room).cells ({ frames := 1, cells := 0, slots := 0, locals := 12 } : Room).slots) := by
  refine MetFree.of_bodySF (plainFor_of_name pn_0) hisR ?_
  intro p e s m args below meth c s₁ Bd hml0 hP hK
  obtain ⟨rfl, hZ, hh⟩ := hP
  have hx := Bd.exec
  have hby := Bd.bytes
  have hml : c.maxLocals = 9 := hml0
  have hown : s.vm.findClass "com/example/rialto/rialto/ledger/AccountTotals" = some m.cls := findClass_of_methodNamed Bd.named
  have hnm := (name_of_methodNamed Bd.named Bd.method).1
  have X0 : Stand p l e ({ frames := 1, cells := 0, slots := 0, locals := 12 } : Room) s m #[(.ref p0), (.long p1), (.long p2), (.long p3), (.long p4)] below meth c s₁ [] 0 0 := Stand.of_body Bd
  have e0 : s₁.heap = h0 := by rw [← hh, Bd.state]; rfl
  have N0 := Fr.nil n0
  have W1 := WS
  obtain ⟨Scache, Ccache, -⟩ := W1
  have pre0 : ∀ t, Steps p.tables e below (s₁.setTop (mkF m 0 #[.val (.ref p0), .val (.long p1), .second, .val (.long p2), .second, .val (.long p3), .second, .val (.long p4), .second] [])) t → Steps p.tables e below (s₁.setTop (entryFrame m #[(.ref p0), (.long p1), (.long p2), (.long p3), (.long p4)] 9)) t := fun t k => castTop (ef_1 m p0 p1 p2 p3 p4) k
  obtain ⟨T1, X1, e1, st1⟩ := initO X0 hx hZ hown (hw _ (List.mem_of_getElem? (i := 7) rfl)) (hw _ (List.mem_of_getElem? (i := 8) rfl)) (hw _ (List.mem_of_getElem? (i := 9) rfl)) e0 (g := (mkF m 1 #[.val (.ref p0), .val (.long p1), .second, .val (.long p2), .second, .val (.long p3), .second, .val (.long p4), .second] [(.ref p0)])) rfl (by rw [hml]; rfl) rfl (hb hby d1_1) (by decide) (W := 0) (by show 2 * 0 + _ ≤ _; exact Nat.le_of_eq rfl) (by decide)
  have k2 : ∀ t, Steps p.tables e below (T1.setTop (mkF m 41 #[.val (.ref p0), .val (.long p1), .second, .val (.long p2), .second, .val (.long p3), .second, .val (.long p4), .second] [(.ref p0)])) t → Steps p.tables e below (s₁.setTop (entryFrame m #[(.ref p0), (.long p1), (.long p2), (.long p3), (.long p4)] 9)) t := fun t kt => pre0 t (by
    show Steps p.tables e below (s₁.setTop (mkF m 0 #[.val (.ref p0), .val (.long p1), .second, .val (.long p2), .second, .val (.long p3), .second, .val (.long p4), .second] [])) _
    refine XS.aloadN X0.here hx rfl (hb hby d1_0) rfl rfl ?_
    show Steps p.tables e below (s₁.setTop (mkF m 1 #[.val (.ref p0), .val (.long p1), .second, .val (.long p2), .second, .val (.long p3), .second, .val (.long p4), .second] [(.ref p0)])) _
    refine st1 _ ?_
    show Steps p.tables e below (T1.setTop (mkF m 4 #[.val (.ref p0), .val (.long p1), .second, .val (.long p2), .second, .val (.long p3), .second, .val (.long p4), .second] [])) _
    refine XS.lloadN X1.here hx rfl (hb hby d1_4) rfl ?_
    show Steps p.tables e below (T1.setTop (mkF m 5 #[.val (.ref p0), .val (.long p1), .second, .val (.long p2), .second, .val (.long p3), .second, .val (.long p4), .second] [(.long p1)])) _
    refine XS.lconst X1.here hx rfl (hb hby d1_5) ?_
    show Steps p.tables e below (T1.setTop (mkF m 6 #[.val (.ref p0), .val (.long p1), .second, .val (.long p2), .second, .val (.long p3), .second, .val (.long p4), .second] [(.long (0 : Int64)), (.long p1)])) _
    refine XS.lcmp X1.here hx rfl (hb hby d1_6) rfl ?_
    show Steps p.tables e below (T1.setTop (mkF m 7 #[.val (.ref p0), .val (.long p1), .second, .val (.long p2), .second, .val (.long p3), .second, .val (.long p4), .second] [(.int (lcmpW p1 (0 : Int64)))])) _
    refine XS.ifNo X1.here hx rfl (hb hby d1_7) rfl ((if0 _ _).trans (flt (own_lcLf (hn1 : ¬ (p1 < (0 : Int64))) : ¬ ((lcmpW p1 (0 : Int64)) < (0 : Int32)))).1) ?_
    show Steps p.tables e below (T1.setTop (mkF m 10 #[.val (.ref p0), .val (.long p1), .second, .val (.long p2), .second, .val (.long p3), .second, .val (.long p4), .second] [])) _
    refine XS.lloadN X1.here hx rfl (hb hby d1_10) rfl ?_
    show Steps p.tables e below (T1.setTop (mkF m 11 #[.val (.ref p0), .val (.long p1), .second, .val (.long p2), .second, .val (.long p3), .second, .val (.long p4), .second] [(.long p2)])) _
    refine XS.lconst X1.here hx rfl (hb hby d1_11) ?_
    show Steps p.tables e below (T1.setTop (mkF m 12 #[.val (.ref p0), .val (.long p1), .second, .val (.long p2), .second, .val (.long p3), .second, .val (.long p4), .second] [(.long (0 : Int64)), (.long p2)])) _
    refine XS.lcmp X1.here hx rfl (hb hby d1_12) rfl ?_
    show Steps p.tables e below (T1.setTop (mkF m 13 #[.val (.ref p0), .val (.long p1), .second, .val (.long p2), .second, .val (.long p3), .second, .val (.long p4), .second] [(.int (lcmpW p2 (0 : Int64)))])) _
    refine XS.ifNo X1.here hx rfl (hb hby d1_13) rfl ((if0 _ _).trans (flt (own_lcLf (hn2 : ¬ (p2 < (0 : Int64))) : ¬ ((lcmpW p2 (0 : Int64)) < (0 : Int32)))).1) ?_
    show Steps p.tables e below (T1.setTop (mkF m 16 #[.val (.ref p0), .val (.long p1), .second, .val (.long p2), .second, .val (.long p3), .second, .val (.long p4), .second] [])) _
    refine XS.lload X1.here hx rfl (hb hby d1_16) rfl ?_
    show Steps p.tables e below (T1.setTop (mkF m 18 #[.val (.ref p0), .val (.long p1), .second, .val (.long p2), .second, .val (.long p3), .second, .val (.long p4), .second] [(.long p3)])) _
    refine XS.lconst X1.here hx rfl (hb hby d1_18) ?_
    show Steps p.tables e below (T1.setTop (mkF m 19 #[.val (.ref p0), .val (.long p1), .second, .val (.long p2), .second, .val (.long p3), .second, .val (.long p4), .second] [(.long (0 : Int64)), (.long p3)])) _
    refine XS.lcmp X1.here hx rfl (hb hby d1_19) rfl ?_
    show Steps p.tables e below (T1.setTop (mkF m 20 #[.val (.ref p0), .val (.long p1), .second, .val (.long p2), .second, .val (.long p3), .second, .val (.long p4), .second] [(.int (lcmpW p3 (0 : Int64)))])) _
    refine XS.ifNo X1.here hx rfl (hb hby d1_20) rfl ((if0 _ _).trans (flt (own_lcLf (hn3 : ¬ (p3 < (0 : Int64))) : ¬ ((lcmpW p3 (0 : Int64)) < (0 : Int32)))).1) ?_
    show Steps p.tables e below (T1.setTop (mkF m 23 #[.val (.ref p0), .val (.long p1), .second, .val (.long p2), .second, .val (.long p3), .second, .val (.long p4), .second] [])) _
    refine XS.lload X1.here hx rfl (hb hby d1_23) rfl ?_
    show Steps p.tables e below (T1.setTop (mkF m 25 #[.val (.ref p0), .val (.long p1), .second, .val (.long p2), .second, .val (.long p3), .second, .val (.long p4), .second] [(.long p4)])) _
    refine XS.lconst X1.here hx rfl (hb hby d1_25) ?_
    show Steps p.tables e below (T1.setTop (mkF m 26 #[.val (.ref p0), .val (.long p1), .second, .val (.long p2), .second, .val (.long p3), .second, .val (.long p4), .second] [(.long (0 : Int64)), (.long p4)])) _
    refine XS.lcmp X1.here hx rfl (hb hby d1_26) rfl ?_
    show Steps p.tables e below (T1.setTop (mkF m 27 #[.val (.ref p0), .val (.long p1), .second, .val (.long p2), .second, .val (.long p3), .second, .val (.long p4), .second] [(.int (lcmpW p4 (0 : Int64)))])) _
    refine XS.ifYes X1.here hx rfl (pc0 := 27) (pc' := 40) rfl (hb hby d1_27) rfl ((if0 _ _).trans (flt (own_lcLf (hn4 : ¬ (p4 < (0 : Int64))) : ¬ ((lcmpW p4 (0 : Int64)) < (0 : Int32)))).2.1) (by decide) (by decide) ?_
    show Steps p.tables e below (T1.setTop (mkF m 40 #[.val (.ref p0), .val (.long p1), .second, .val (.long p2), .second, .val (.long p3), .second, .val (.long p4), .second] [])) _
    refine XS.aloadN X1.here hx rfl (hb hby d1_40) rfl rfl ?_
    exact kt)
  obtain ⟨T3, h3, X3, e3, W3, st3⟩ := putF X1 hx hZ hown (host := "") (Or.inl (hw _ (List.mem_of_getElem? (i := 10) rfl))) Via.refl e1 G_p0_pendingCredits E_p0 (Or.inr ⟨(hw _ (List.mem_of_getElem? (i := 11) rfl)), rfl, hnm⟩) (hw _ (List.mem_of_getElem? (i := 2) rfl)) (ty := .long) (by decide) rfl rfl (g := (mkF m 42 #[.val (.ref p0), .val (.long p1), .second, .val (.long p2), .second, .val (.long p3), .second, .val (.long p4), .second] [(.long p1), (.ref p0)])) rfl rfl (hb hby d1_42)
  have E4 := E_p0.wr W3
  have F5 := G_p0_pendingDebits.other W3 (Or.inr (slot_ne (Or.inr (hw _ (List.mem_of_getElem? (i := 13) rfl))) (Or.inr (hw _ (List.mem_of_getElem? (i := 11) rfl))) (by decide) (t := .long) (t' := .long) (by decide) (by decide)))
  have F6 := G_p0_postedCredits.other W3 (Or.inr (slot_ne (Or.inr (hw _ (List.mem_of_getElem? (i := 15) rfl))) (Or.inr (hw _ (List.mem_of_getElem? (i := 11) rfl))) (by decide) (t := .long) (t' := .long) (by decide) (by decide)))
  have F7 := G_p0_postedDebits.other W3 (Or.inr (slot_ne (Or.inr (hw _ (List.mem_of_getElem? (i := 17) rfl))) (Or.inr (hw _ (List.mem_of_getElem? (i := 11) rfl))) (by decide) (t := .long) (t' := .long) (by decide) (by decide)))
  have G3 : Fld Z h3 p0 "com/example/rialto/rialto/ledger/AccountTotals" "pendingCredits" "J" (.long p1) := G_p0_pendingCredits.same W3
  have N3' := Fr.snoc X3 N0 g_p0
  have EX3 : Ext hs h3 := own_ext_wr O0 W3 (Nat.le_trans Zs g_p0)
  have KK3 : Keep h0 h3 [p0] := Keep.wr (Keep.refl h0 [p0]) W3 (Or.inl (List.mem_of_getElem? (i := 0) rfl))
  obtain ⟨T8, h8, X8, e8, W8, st8⟩ := putF X3 hx hZ hown (host := "") (Or.inl (hw _ (List.mem_of_getElem? (i := 12) rfl))) Via.refl e3 F5 E4 (Or.inr ⟨(hw _ (List.mem_of_getElem? (i := 13) rfl)), rfl, hnm⟩) (hw _ (List.mem_of_getElem? (i := 2) rfl)) (ty := .long) (by decide) rfl rfl (g := (mkF m 47 #[.val (.ref p0), .val (.long p1), .second, .val (.long p2), .second, .val (.long p3), .second, .val (.long p4), .second] [(.long p2), (.ref p0)])) rfl rfl (hb hby d1_47)
  have E9 := E4.wr W8
  have F10 := G3.other W8 (Or.inr (slot_ne (Or.inr (hw _ (List.mem_of_getElem? (i := 11) rfl))) (Or.inr (hw _ (List.mem_of_getElem? (i := 13) rfl))) (by decide) (t := .long) (t' := .long) (by decide) (by decide)))
  have F11 := F6.other W8 (Or.inr (slot_ne (Or.inr (hw _ (List.mem_of_getElem? (i := 15) rfl))) (Or.inr (hw _ (List.mem_of_getElem? (i := 13) rfl))) (by decide) (t := .long) (t' := .long) (by decide) (by decide)))
  have F12 := F7.other W8 (Or.inr (slot_ne (Or.inr (hw _ (List.mem_of_getElem? (i := 17) rfl))) (Or.inr (hw _ (List.mem_of_getElem? (i := 13) rfl))) (by decide) (t := .long) (t' := .long) (by decide) (by decide)))
  have G8 : Fld Z h8 p0 "com/example/rialto/rialto/ledger/AccountTotals" "pendingDebits" "J" (.long p2) := F5.same W8
  have N8' := Fr.snoc X8 N3' g_p0
  have EX8 : Ext hs h8 := own_ext_wr EX3 W8 (Nat.le_trans Zs g_p0)
  have KK8 : Keep h0 h8 [p0] := Keep.wr KK3 W8 (Or.inl (List.mem_of_getElem? (i := 0) rfl))
  obtain ⟨T13, h13, X13, e13, W13, st13⟩ := putF X8 hx hZ hown (host := "") (Or.inl (hw _ (List.mem_of_getElem? (i := 14) rfl))) Via.refl e8 F11 E9 (Or.inr ⟨(hw _ (List.mem_of_getElem? (i := 15) rfl)), rfl, hnm⟩) (hw _ (List.mem_of_getElem? (i := 2) rfl)) (ty := .long) (by decide) rfl rfl (g := (mkF m 53 #[.val (.ref p0), .val (.long p1), .second, .val (.long p2), .second, .val (.long p3), .second, .val (.long p4), .second] [(.long p3), (.ref p0)])) rfl rfl (hb hby d1_53)
  have E14 := E9.wr W13
  have F15 := F10.other W13 (Or.inr (slot_ne (Or.inr (hw _ (List.mem_of_getElem? (i := 11) rfl))) (Or.inr (hw _ (List.mem_of_getElem? (i := 15) rfl))) (by decide) (t := .long) (t' := .long) (by decide) (by decide)))
  have F16 := G8.other W13 (Or.inr (slot_ne (Or.inr (hw _ (List.mem_of_getElem? (i := 13) rfl))) (Or.inr (hw _ (List.mem_of_getElem? (i := 15) rfl))) (by decide) (t := .long) (t' := .long) (by decide) (by decide)))
  have F17 := F12.other W13 (Or.inr (slot_ne (Or.inr (hw _ (List.mem_of_getElem? (i := 17) rfl))) (Or.inr (hw _ (List.mem_of_getElem? (i := 15) rfl))) (by decide) (t := .long) (t' := .long) (by decide) (by decide)))
  have G13 : Fld Z h13 p0 "com/example/rialto/rialto/ledger/AccountTotals" "postedCredits" "J" (.long p3) := F11.same W13
  have N13' := Fr.snoc X13 N8' g_p0
  have EX13 : Ext hs h13 := own_ext_wr EX8 W13 (Nat.le_trans Zs g_p0)
  have KK13 : Keep h0 h13 [p0] := Keep.wr KK8 W13 (Or.inl (List.mem_of_getElem? (i := 0) rfl))
  obtain ⟨T18, h18, X18, e18, W18, st18⟩ := putF X13 hx hZ hown (host := "") (Or.inl (hw _ (List.mem_of_getElem? (i := 16) rfl))) Via.refl e13 F17 E14 (Or.inr ⟨(hw _ (List.mem_of_getElem? (i := 17) rfl)), rfl, hnm⟩) (hw _ (List.mem_of_getElem? (i := 2) rfl)) (ty := .long) (by decide) rfl rfl (g := (mkF m 59 #[.val (.ref p0), .val (.long p1), .second, .val (.long p2), .second, .val (.long p3), .second, .val (.long p4), .second] [(.long p4), (.ref p0)])) rfl rfl (hb hby d1_59)
  have E19 := E14.wr W18
  have F20 := F15.other W18 (Or.inr (slot_ne (Or.inr (hw _ (List.mem_of_getElem? (i := 11) rfl))) (Or.inr (hw _ (List.mem_of_getElem? (i := 17) rfl))) (by decide) (t := .long) (t' := .long) (by decide) (by decide)))
  have F21 := F16.other W18 (Or.inr (slot_ne (Or.inr (hw _ (List.mem_of_getElem? (i := 13) rfl))) (Or.inr (hw _ (List.mem_of_getElem? (i := 17) rfl))) (by decide) (t := .long) (t' := .long) (by decide) (by decide)))
  have F22 := G13.other W18 (Or.inr (slot_ne (Or.inr (hw _ (List.mem_of_getElem? (i := 15) rfl))) (Or.inr (hw _ (List.mem_of_getElem? (i := 17) rfl))) (by decide) (t := .long) (t' := .long) (by decide) (by decide)))
  have G18 : Fld Z h18 p0 "com/example/rialto/rialto/ledger/AccountTotals" "postedDebits" "J" (.long p4) := F17.same W18
  have N18' := Fr.snoc X18 N13' g_p0
  have EX18 : Ext hs h18 := own_ext_wr EX13 W18 (Nat.le_trans Zs g_p0)
  have KK18 : Keep h0 h18 [p0] := Keep.wr KK13 W18 (Or.inl (List.mem_of_getElem? (i := 0) rfl))
  obtain ⟨fs, hr, hrun, hended, hW, hsame⟩ := X18.leave (v := none) (fun _ => rfl)
  refine ⟨_, _, k2 _ ?_, hrun, hended, _, _, rfl, ?_, ⟨_, rfl⟩, hW, hsame.mono (by decide) (by decide)⟩
  · show Steps p.tables e below (T1.setTop (mkF m 41 #[.val (.ref p0), .val (.long p1), .second, .val (.long p2), .second, .val (.long p3), .second, .val (.long p4), .second] [(.ref p0)])) _
    refine XS.lloadN X1.here hx rfl (hb hby d1_41) rfl ?_
    show Steps p.tables e below (T1.setTop (mkF m 42 #[.val (.ref p0), .val (.long p1), .second, .val (.long p2), .second, .val (.long p3), .second, .val (.long p4), .second] [(.long p1), (.ref p0)])) _
    refine st3 _ ?_
    show Steps p.tables e below (T3.setTop (mkF m 45 #[.val (.ref p0), .val (.long p1), .second, .val (.long p2), .second, .val (.long p3), .second, .val (.long p4), .second] [])) _
    refine XS.aloadN X3.here hx rfl (hb hby d1_45) rfl rfl ?_
    show Steps p.tables e below (T3.setTop (mkF m 46 #[.val (.ref p0), .val (.long p1), .second, .val (.long p2), .second, .val (.long p3), .second, .val (.long p4), .second] [(.ref p0)])) _
    refine XS.lloadN X3.here hx rfl (hb hby d1_46) rfl ?_
    show Steps p.tables e below (T3.setTop (mkF m 47 #[.val (.ref p0), .val (.long p1), .second, .val (.long p2), .second, .val (.long p3), .second, .val (.long p4), .second] [(.long p2), (.ref p0)])) _
    refine st8 _ ?_
    show Steps p.tables e below (T8.setTop (mkF m 50 #[.val (.ref p0), .val (.long p1), .second, .val (.long p2), .second, .val (.long p3), .second, .val (.long p4), .second] [])) _
    refine XS.aloadN X8.here hx rfl (hb hby d1_50) rfl rfl ?_
    show Steps p.tables e below (T8.setTop (mkF m 51 #[.val (.ref p0), .val (.long p1), .second, .val (.long p2), .second, .val (.long p3), .second, .val (.long p4), .second] [(.ref p0)])) _
    refine XS.lload X8.here hx rfl (hb hby d1_51) rfl ?_
    show Steps p.tables e below (T8.setTop (mkF m 53 #[.val (.ref p0), .val (.long p1), .second, .val (.long p2), .second, .val (.long p3), .second, .val (.long p4), .second] [(.long p3), (.ref p0)])) _
    refine st13 _ ?_
    show Steps p.tables e below (T13.setTop (mkF m 56 #[.val (.ref p0), .val (.long p1), .second, .val (.long p2), .second, .val (.long p3), .second, .val (.long p4), .second] [])) _
    refine XS.aloadN X13.here hx rfl (hb hby d1_56) rfl rfl ?_
    show Steps p.tables e below (T13.setTop (mkF m 57 #[.val (.ref p0), .val (.long p1), .second, .val (.long p2), .second, .val (.long p3), .second, .val (.long p4), .second] [(.ref p0)])) _
    refine XS.lload X13.here hx rfl (hb hby d1_57) rfl ?_
    show Steps p.tables e below (T13.setTop (mkF m 59 #[.val (.ref p0), .val (.long p1), .second, .val (.long p2), .second, .val (.long p3), .second, .val (.long p4), .second] [(.long p4), (.ref p0)])) _
    refine st18 _ ?_
    show Steps p.tables e below (T18.setTop (mkF m 62 #[.val (.ref p0), .val (.long p1), .second, .val (.long p2), .second, .val (.long p3), .second, .val (.long p4), .second] [])) _
    exact X18.returnOut hx Bd.returns (hb hby d1_62) hr
  · show Q1 Z p0 p1 p2 p3 p4 wcache hs h0 n0 _ T18.heap _
    rw [e18]
    exact ⟨rfl, N18', EX18, KK18, ⟨E19, g_p0, F20, F21, F22, G18, trivial⟩⟩
theorem d2_0 : decode prog_10_method_9_code 0 = .ok (.aload_n 1, 1) := by decide +kernel
theorem d2_1 : decode prog_10_method_9_code 1 = .ok (.instanceof 15, 3) := by decide +kernel
theorem d2_4 : decode prog_10_method_9_code 4 = .ok (.ifCond .eq 60, 3) := by decide +kernel
theorem d2_7 : decode prog_10_method_9_code 7 = .ok (.aload_n 1, 1) := by decide +kernel
theorem d2_8 : decode prog_10_method_9_code 8 = .ok (.checkcast 15, 3) := by decide +kernel
theorem d2_11 : decode prog_10_method_9_code 11 = .ok (.astore_n 2, 1) := by decide +kernel
theorem d2_12 : decode prog_10_method_9_code 12 = .ok (.aload_n 0, 1) := by decide +kernel
theorem d2_13 : decode prog_10_method_9_code 13 = .ok (.getfield 14, 3) := by decide +kernel
theorem d2_16 : decode prog_10_method_9_code 16 = .ok (.aload_n 2, 1) := by decide +kernel
theorem d2_17 : decode prog_10_method_9_code 17 = .ok (.getfield 14, 3) := by decide +kernel
theorem d2_20 : decode prog_10_method_9_code 20 = .ok (.lcmp, 1) := by decide +kernel
theorem d2_21 : decode prog_10_method_9_code 21 = .ok (.ifCond .ne 43, 3) := by decide +kernel
theorem d2_24 : decode prog_10_method_9_code 24 = .ok (.aload_n 0, 1) := by decide +kernel
theorem d2_25 : decode prog_10_method_9_code 25 = .ok (.getfield 20, 3) := by decide +kernel
theorem d2_28 : decode prog_10_method_9_code 28 = .ok (.aload_n 2, 1) := by decide +kernel
theorem d2_29 : decode prog_10_method_9_code 29 = .ok (.getfield 20, 3) := by decide +kernel
theorem d2_32 : decode prog_10_method_9_code 32 = .ok (.lcmp, 1) := by decide +kernel
theorem d2_33 : decode prog_10_method_9_code 33 = .ok (.ifCond .ne 31, 3) := by decide +kernel
theorem d2_36 : decode prog_10_method_9_code 36 = .ok (.aload_n 0, 1) := by decide +kernel
theorem d2_37 : decode prog_10_method_9_code 37 = .ok (.getfield 23, 3) := by decide +kernel
theorem d2_40 : decode prog_10_method_9_code 40 = .ok (.aload_n 2, 1) := by decide +kernel
theorem d2_41 : decode prog_10_method_9_code 41 = .ok (.getfield 23, 3) := by decide +kernel
theorem d2_44 : decode prog_10_method_9_code 44 = .ok (.lcmp, 1) := by decide +kernel
theorem d2_45 : decode prog_10_method_9_code 45 = .ok (.ifCond .ne 19, 3) := by decide +kernel
theorem d2_48 : decode prog_10_method_9_code 48 = .ok (.aload_n 0, 1) := by decide +kernel
theorem d2_49 : decode prog_10_method_9_code 49 = .ok (.getfield 26, 3) := by decide +kernel
theorem d2_52 : decode prog_10_method_9_code 52 = .ok (.aload_n 2, 1) := by decide +kernel
theorem d2_53 : decode prog_10_method_9_code 53 = .ok (.getfield 26, 3) := by decide +kernel
theorem d2_56 : decode prog_10_method_9_code 56 = .ok (.lcmp, 1) := by decide +kernel
theorem d2_57 : decode prog_10_method_9_code 57 = .ok (.ifCond .ne 7, 3) := by decide +kernel
theorem d2_60 : decode prog_10_method_9_code 60 = .ok (.iconst 1, 1) := by decide +kernel
theorem d2_61 : decode prog_10_method_9_code 61 = .ok (.goto 4, 3) := by decide +kernel
theorem d2_65 : decode prog_10_method_9_code 65 = .ok (.ireturn, 1) := by decide +kernel
theorem d2_64 : decode prog_10_method_9_code 64 = .ok (.iconst 0, 1) := by decide +kernel
def f2 (p0 : Addr) (p1 : Addr) (p0_v_pendingCredits : Int64) (p0_v_pendingDebits : Int64) (p0_v_postedCredits : Int64) (p0_v_postedDebits : Int64) (p1_v_pendingCredits : Int64) (p1_v_pendingDebits : Int64) (p1_v_postedCredits : Int64) (p1_v_postedDebits : Int64) (wcache : Addr) : Int32 := if p0_v_pendingCredits = p1_v_pendingCredits then if p0_v_pendingDebits = p1_v_pendingDebits then if p0_v_postedCredits = p1_v_postedCredits then if p0_v_postedDebits = p1_v_postedDebits then (1 : Int32) else (0 : Int32) else (0 : Int32) else (0 : Int32) else (0 : Int32)
theorem ef_2 (m : MethodId) (p0 : Addr) (p1 : Addr) : entryFrame m #[(.ref p0), (.ref p1)] 3 = mkF m 0 #[.val (.ref p0), .val (.ref p1), .unset] [] := by first | (simp [entryFrame, mkF, argsToLocals, Value.category]; done) | rfl
def Q2 (Z : State) (p0 : Addr) (p1 : Addr) (p0_v_pendingCredits : Int64) (p0_v_pendingDebits : Int64) (p0_v_postedCredits : Int64) (p0_v_postedDebits : Int64) (p1_v_pendingCredits : Int64) (p1_v_pendingDebits : Int64) (p1_v_postedCredits : Int64) (p1_v_postedDebits : Int64) (wcache : Addr) (hs : Heap) (h0 : Heap) (n0 : Nat) (v : Option Value) (h : Heap) (L : List Loc) : Prop := v = some (.int (f2 p0 p1 p0_v_pendingCredits p0_v_pendingDebits p0_v_postedCredits p0_v_postedDebits p1_v_pendingCredits p1_v_pendingDebits p1_v_postedCredits p1_v_postedDebits wcache)) ∧ Fr n0 L ∧ h = h0
set_option maxRecDepth 65536 in
set_option maxHeartbeats 40000000 in
theorem rm2 (l : Launch) (Z : State) (a0 : Array Value) (hw : ∀ d ∈ tables_1, d.before a0 Z = true) (ws : List Jvm.Cond) (p0 : Addr) (p1 : Addr) (p0_v_pendingCredits : Int64) (p0_v_pendingDebits : Int64) (p0_v_postedCredits : Int64) (p0_v_postedDebits : Int64) (p1_v_pendingCredits : Int64) (p1_v_pendingDebits : Int64) (p1_v_postedCredits : Int64) (p1_v_postedDebits : Int64) (wcache : Addr) (hs : Heap) (h0 : Heap) (n0 : Nat) (Z0 : n0 ≤ h0.size) (WS : World Z hs wcache) (O0 : Ext hs h0) (Zs : hs.size ≤ n0) (OB_p0 : Tot Z h0 n0 p0 p0_v_pendingCredits p0_v_pendingDebits p0_v_postedCredits p0_v_postedDebits) (OB_p1 : Tot Z h0 n0 p1 p1_v_pendingCredits p1_v_pendingDebits p1_v_postedCredits p1_v_postedDebits) :
    MetFree l (⟨"com/example/rialto/rialto/ledger/AccountTotals", "equals", "(Ljava/lang/Object;)Z"⟩ : MethodName) (head1 (Jvm.Cond.code (⟨"com/example/rialto/rialto/ledger/AccountTotals", "equals", "(Ljava/lang/Object;)Z"⟩ : MethodName) prog_10_method_9_code 3 (some .boolean) :: ws) ({ frames := 0, cells := 0, slots := 0, locals := 0 } : Room)) (fun a U => a = #[(.ref p0), (.ref p1)] ∧ Z.Warmed39 U.vm ∧ U.heap = h0) (fun _ _ _ _ _ => True) (fun _ U o U' => ∃ v L, o = .returned v ∧ Q2 Z p0 p1 p0_v_pendingCredits p0_v_pendingDebits p0_v_postedCredits p0_v_postedDebits p1_v_pendingCredits p1_v_pendingDebits p1_v_postedCredits p1_v_postedDebits wcache hs h0 n0 v U'.heap L ∧ FrameEnd U o U' L ({ frames := 0, cells := 0, slots := 0, locals := 0 } : Room).cells ({ frames := 0, cells := 0, slots := 0, locals := 0 } : Room).slots) := by
  refine MetFree.of_bodySF (plainFor_of_name pn_0) hisR ?_
  intro p e s m args below meth c s₁ Bd hml0 hP hK
  obtain ⟨rfl, hZ, hh⟩ := hP
  have hx := Bd.exec
  have hby := Bd.bytes
  have hml : c.maxLocals = 3 := hml0
  have hown : s.vm.findClass "com/example/rialto/rialto/ledger/AccountTotals" = some m.cls := findClass_of_methodNamed Bd.named
  have hnm := (name_of_methodNamed Bd.named Bd.method).1
  have X0 : Stand p l e ({ frames := 0, cells := 0, slots := 0, locals := 0 } : Room) s m #[(.ref p0), (.ref p1)] below meth c s₁ [] 0 0 := Stand.of_body Bd
  have e0 : s₁.heap = h0 := by rw [← hh, Bd.state]; rfl
  have N0 := Fr.nil n0
  have W1 := WS
  obtain ⟨Scache, Ccache, -⟩ := W1
  obtain ⟨E_p0, g_p0, G_p0_pendingCredits, G_p0_pendingDebits, G_p0_postedCredits, G_p0_postedDebits, -⟩ := OB_p0
  obtain ⟨E_p1, g_p1, G_p1_pendingCredits, G_p1_pendingDebits, G_p1_postedCredits, G_p1_postedDebits, -⟩ := OB_p1
  have pre0 : ∀ t, Steps p.tables e below (s₁.setTop (mkF m 0 #[.val (.ref p0), .val (.ref p1), .unset] [])) t → Steps p.tables e below (s₁.setTop (entryFrame m #[(.ref p0), (.ref p1)] 3)) t := fun t k => castTop (ef_2 m p0 p1) k
  obtain ⟨T23, X23, e23, st23⟩ := instY X0 hx hZ hown (hw _ (List.mem_of_getElem? (i := 23) rfl)) e0 (Ins.self E_p1) (g := (mkF m 1 #[.val (.ref p0), .val (.ref p1), .unset] [(.ref p1)])) rfl rfl (hb hby d2_1)
  obtain ⟨T24, X24, e24, st24⟩ := castY X23 hx hZ hown (hw _ (List.mem_of_getElem? (i := 23) rfl)) e23 (Ins.self E_p1) (g := (mkF m 8 #[.val (.ref p0), .val (.ref p1), .unset] [(.ref p1)])) rfl rfl (hb hby d2_8)
  obtain ⟨T25, X25, e25, st25⟩ := getF X24 hx hZ hown (host := "") (Or.inl (hw _ (List.mem_of_getElem? (i := 10) rfl))) Via.refl e24 G_p0_pendingCredits (g := (mkF m 13 #[.val (.ref p0), .val (.ref p1), .val (.ref p1)] [(.ref p0)])) rfl rfl (hb hby d2_13)
  obtain ⟨T26, X26, e26, st26⟩ := getF X25 hx hZ hown (host := "") (Or.inl (hw _ (List.mem_of_getElem? (i := 10) rfl))) Via.refl e25 G_p1_pendingCredits (g := (mkF m 17 #[.val (.ref p0), .val (.ref p1), .val (.ref p1)] [(.ref p1), (.long p0_v_pendingCredits)])) rfl rfl (hb hby d2_17)
  have k27 : ∀ t, Steps p.tables e below (T26.setTop (mkF m 21 #[.val (.ref p0), .val (.ref p1), .val (.ref p1)] [(.int (lcmpW p0_v_pendingCredits p1_v_pendingCredits))])) t → Steps p.tables e below (s₁.setTop (entryFrame m #[(.ref p0), (.ref p1)] 3)) t := fun t kt => pre0 t (by
    show Steps p.tables e below (s₁.setTop (mkF m 0 #[.val (.ref p0), .val (.ref p1), .unset] [])) _
    refine XS.aloadN X0.here hx rfl (hb hby d2_0) rfl rfl ?_
    show Steps p.tables e below (s₁.setTop (mkF m 1 #[.val (.ref p0), .val (.ref p1), .unset] [(.ref p1)])) _
    refine st23 _ ?_
    show Steps p.tables e below (T23.setTop (mkF m 4 #[.val (.ref p0), .val (.ref p1), .unset] [(.int (1 : Int32))])) _
    refine XS.ifNo X23.here hx rfl (hb hby d2_4) rfl ((if0 _ _).trans (feq ((by decide) : ¬ ((1 : Int32) = (0 : Int32)))).1) ?_
    show Steps p.tables e below (T23.setTop (mkF m 7 #[.val (.ref p0), .val (.ref p1), .unset] [])) _
    refine XS.aloadN X23.here hx rfl (hb hby d2_7) rfl rfl ?_
    show Steps p.tables e below (T23.setTop (mkF m 8 #[.val (.ref p0), .val (.ref p1), .unset] [(.ref p1)])) _
    refine st24 _ ?_
    show Steps p.tables e below (T24.setTop (mkF m 11 #[.val (.ref p0), .val (.ref p1), .unset] [(.ref p1)])) _
    refine XS.astoreN X24.here hx rfl (hb hby d2_11) rfl rfl (l' := #[.val (.ref p0), .val (.ref p1), .val (.ref p1)]) rfl ?_
    show Steps p.tables e below (T24.setTop (mkF m 12 #[.val (.ref p0), .val (.ref p1), .val (.ref p1)] [])) _
    refine XS.aloadN X24.here hx rfl (hb hby d2_12) rfl rfl ?_
    show Steps p.tables e below (T24.setTop (mkF m 13 #[.val (.ref p0), .val (.ref p1), .val (.ref p1)] [(.ref p0)])) _
    refine st25 _ ?_
    show Steps p.tables e below (T25.setTop (mkF m 16 #[.val (.ref p0), .val (.ref p1), .val (.ref p1)] [(.long p0_v_pendingCredits)])) _
    refine XS.aloadN X25.here hx rfl (hb hby d2_16) rfl rfl ?_
    show Steps p.tables e below (T25.setTop (mkF m 17 #[.val (.ref p0), .val (.ref p1), .val (.ref p1)] [(.ref p1), (.long p0_v_pendingCredits)])) _
    refine st26 _ ?_
    show Steps p.tables e below (T26.setTop (mkF m 20 #[.val (.ref p0), .val (.ref p1), .val (.ref p1)] [(.long p1_v_pendingCredits), (.long p0_v_pendingCredits)])) _
    refine XS.lcmp X26.here hx rfl (hb hby d2_20) rfl ?_
    exact kt)
  by_cases hc28 : p0_v_pendingCredits = p1_v_pendingCredits
  · obtain ⟨T29, X29, e29, st29⟩ := getF X26 hx hZ hown (host := "") (Or.inl (hw _ (List.mem_of_getElem? (i := 12) rfl))) Via.refl e26 G_p0_pendingDebits (g := (mkF m 25 #[.val (.ref p0), .val (.ref p1), .val (.ref p1)] [(.ref p0)])) rfl rfl (hb hby d2_25)
    obtain ⟨T30, X30, e30, st30⟩ := getF X29 hx hZ hown (host := "") (Or.inl (hw _ (List.mem_of_getElem? (i := 12) rfl))) Via.refl e29 G_p1_pendingDebits (g := (mkF m 29 #[.val (.ref p0), .val (.ref p1), .val (.ref p1)] [(.ref p1), (.long p0_v_pendingDebits)])) rfl rfl (hb hby d2_29)
    have k31 : ∀ t, Steps p.tables e below (T30.setTop (mkF m 33 #[.val (.ref p0), .val (.ref p1), .val (.ref p1)] [(.int (lcmpW p0_v_pendingDebits p1_v_pendingDebits))])) t → Steps p.tables e below (s₁.setTop (entryFrame m #[(.ref p0), (.ref p1)] 3)) t := fun t kt => k27 t (by
      show Steps p.tables e below (T26.setTop (mkF m 21 #[.val (.ref p0), .val (.ref p1), .val (.ref p1)] [(.int (lcmpW p0_v_pendingCredits p1_v_pendingCredits))])) _
      refine XS.ifNo X26.here hx rfl (hb hby d2_21) rfl ((if0 _ _).trans (teq (own_lcEt (hc28 : p0_v_pendingCredits = p1_v_pendingCredits) : (lcmpW p0_v_pendingCredits p1_v_pendingCredits) = (0 : Int32))).2) ?_
      show Steps p.tables e below (T26.setTop (mkF m 24 #[.val (.ref p0), .val (.ref p1), .val (.ref p1)] [])) _
      refine XS.aloadN X26.here hx rfl (hb hby d2_24) rfl rfl ?_
      show Steps p.tables e below (T26.setTop (mkF m 25 #[.val (.ref p0), .val (.ref p1), .val (.ref p1)] [(.ref p0)])) _
      refine st29 _ ?_
      show Steps p.tables e below (T29.setTop (mkF m 28 #[.val (.ref p0), .val (.ref p1), .val (.ref p1)] [(.long p0_v_pendingDebits)])) _
      refine XS.aloadN X29.here hx rfl (hb hby d2_28) rfl rfl ?_
      show Steps p.tables e below (T29.setTop (mkF m 29 #[.val (.ref p0), .val (.ref p1), .val (.ref p1)] [(.ref p1), (.long p0_v_pendingDebits)])) _
      refine st30 _ ?_
      show Steps p.tables e below (T30.setTop (mkF m 32 #[.val (.ref p0), .val (.ref p1), .val (.ref p1)] [(.long p1_v_pendingDebits), (.long p0_v_pendingDebits)])) _
      refine XS.lcmp X30.here hx rfl (hb hby d2_32) rfl ?_
      exact kt)
    by_cases hc32 : p0_v_pendingDebits = p1_v_pendingDebits
    · obtain ⟨T33, X33, e33, st33⟩ := getF X30 hx hZ hown (host := "") (Or.inl (hw _ (List.mem_of_getElem? (i := 14) rfl))) Via.refl e30 G_p0_postedCredits (g := (mkF m 37 #[.val (.ref p0), .val (.ref p1), .val (.ref p1)] [(.ref p0)])) rfl rfl (hb hby d2_37)
      obtain ⟨T34, X34, e34, st34⟩ := getF X33 hx hZ hown (host := "") (Or.inl (hw _ (List.mem_of_getElem? (i := 14) rfl))) Via.refl e33 G_p1_postedCredits (g := (mkF m 41 #[.val (.ref p0), .val (.ref p1), .val (.ref p1)] [(.ref p1), (.long p0_v_postedCredits)])) rfl rfl (hb hby d2_41)
      have k35 : ∀ t, Steps p.tables e below (T34.setTop (mkF m 45 #[.val (.ref p0), .val (.ref p1), .val (.ref p1)] [(.int (lcmpW p0_v_postedCredits p1_v_postedCredits))])) t → Steps p.tables e below (s₁.setTop (entryFrame m #[(.ref p0), (.ref p1)] 3)) t := fun t kt => k31 t (by
        show Steps p.tables e below (T30.setTop (mkF m 33 #[.val (.ref p0), .val (.ref p1), .val (.ref p1)] [(.int (lcmpW p0_v_pendingDebits p1_v_pendingDebits))])) _
        refine XS.ifNo X30.here hx rfl (hb hby d2_33) rfl ((if0 _ _).trans (teq (own_lcEt (hc32 : p0_v_pendingDebits = p1_v_pendingDebits) : (lcmpW p0_v_pendingDebits p1_v_pendingDebits) = (0 : Int32))).2) ?_
        show Steps p.tables e below (T30.setTop (mkF m 36 #[.val (.ref p0), .val (.ref p1), .val (.ref p1)] [])) _
        refine XS.aloadN X30.here hx rfl (hb hby d2_36) rfl rfl ?_
        show Steps p.tables e below (T30.setTop (mkF m 37 #[.val (.ref p0), .val (.ref p1), .val (.ref p1)] [(.ref p0)])) _
        refine st33 _ ?_
        show Steps p.tables e below (T33.setTop (mkF m 40 #[.val (.ref p0), .val (.ref p1), .val (.ref p1)] [(.long p0_v_postedCredits)])) _
        refine XS.aloadN X33.here hx rfl (hb hby d2_40) rfl rfl ?_
        show Steps p.tables e below (T33.setTop (mkF m 41 #[.val (.ref p0), .val (.ref p1), .val (.ref p1)] [(.ref p1), (.long p0_v_postedCredits)])) _
        refine st34 _ ?_
        show Steps p.tables e below (T34.setTop (mkF m 44 #[.val (.ref p0), .val (.ref p1), .val (.ref p1)] [(.long p1_v_postedCredits), (.long p0_v_postedCredits)])) _
        refine XS.lcmp X34.here hx rfl (hb hby d2_44) rfl ?_
        exact kt)
      by_cases hc36 : p0_v_postedCredits = p1_v_postedCredits
      · obtain ⟨T37, X37, e37, st37⟩ := getF X34 hx hZ hown (host := "") (Or.inl (hw _ (List.mem_of_getElem? (i := 16) rfl))) Via.refl e34 G_p0_postedDebits (g := (mkF m 49 #[.val (.ref p0), .val (.ref p1), .val (.ref p1)] [(.ref p0)])) rfl rfl (hb hby d2_49)
        obtain ⟨T38, X38, e38, st38⟩ := getF X37 hx hZ hown (host := "") (Or.inl (hw _ (List.mem_of_getElem? (i := 16) rfl))) Via.refl e37 G_p1_postedDebits (g := (mkF m 53 #[.val (.ref p0), .val (.ref p1), .val (.ref p1)] [(.ref p1), (.long p0_v_postedDebits)])) rfl rfl (hb hby d2_53)
        have k39 : ∀ t, Steps p.tables e below (T38.setTop (mkF m 57 #[.val (.ref p0), .val (.ref p1), .val (.ref p1)] [(.int (lcmpW p0_v_postedDebits p1_v_postedDebits))])) t → Steps p.tables e below (s₁.setTop (entryFrame m #[(.ref p0), (.ref p1)] 3)) t := fun t kt => k35 t (by
          show Steps p.tables e below (T34.setTop (mkF m 45 #[.val (.ref p0), .val (.ref p1), .val (.ref p1)] [(.int (lcmpW p0_v_postedCredits p1_v_postedCredits))])) _
          refine XS.ifNo X34.here hx rfl (hb hby d2_45) rfl ((if0 _ _).trans (teq (own_lcEt (hc36 : p0_v_postedCredits = p1_v_postedCredits) : (lcmpW p0_v_postedCredits p1_v_postedCredits) = (0 : Int32))).2) ?_
          show Steps p.tables e below (T34.setTop (mkF m 48 #[.val (.ref p0), .val (.ref p1), .val (.ref p1)] [])) _
          refine XS.aloadN X34.here hx rfl (hb hby d2_48) rfl rfl ?_
          show Steps p.tables e below (T34.setTop (mkF m 49 #[.val (.ref p0), .val (.ref p1), .val (.ref p1)] [(.ref p0)])) _
          refine st37 _ ?_
          show Steps p.tables e below (T37.setTop (mkF m 52 #[.val (.ref p0), .val (.ref p1), .val (.ref p1)] [(.long p0_v_postedDebits)])) _
          refine XS.aloadN X37.here hx rfl (hb hby d2_52) rfl rfl ?_
          show Steps p.tables e below (T37.setTop (mkF m 53 #[.val (.ref p0), .val (.ref p1), .val (.ref p1)] [(.ref p1), (.long p0_v_postedDebits)])) _
          refine st38 _ ?_
          show Steps p.tables e below (T38.setTop (mkF m 56 #[.val (.ref p0), .val (.ref p1), .val (.ref p1)] [(.long p1_v_postedDebits), (.long p0_v_postedDebits)])) _
          refine XS.lcmp X38.here hx rfl (hb hby d2_56) rfl ?_
          exact kt)
        by_cases hc40 : p0_v_postedDebits = p1_v_postedDebits
        · obtain ⟨fs, hr, hrun, hended, hW, hsame⟩ := X38.leave (v := some (.int (1 : Int32))) (fun h => by rw [Bd.returns] at h; cases h)
          refine ⟨_, _, k39 _ ?_, hrun, hended, _, _, rfl, ?_, ⟨_, rfl⟩, hW, hsame.mono (by decide) (by decide)⟩
          · show Steps p.tables e below (T38.setTop (mkF m 57 #[.val (.ref p0), .val (.ref p1), .val (.ref p1)] [(.int (lcmpW p0_v_postedDebits p1_v_postedDebits))])) _
            refine XS.ifNo X38.here hx rfl (hb hby d2_57) rfl ((if0 _ _).trans (teq (own_lcEt (hc40 : p0_v_postedDebits = p1_v_postedDebits) : (lcmpW p0_v_postedDebits p1_v_postedDebits) = (0 : Int32))).2) ?_
            show Steps p.tables e below (T38.setTop (mkF m 60 #[.val (.ref p0), .val (.ref p1), .val (.ref p1)] [])) _
            refine XS.iconst X38.here hx rfl (hb hby d2_60) ?_
            show Steps p.tables e below (T38.setTop (mkF m 61 #[.val (.ref p0), .val (.ref p1), .val (.ref p1)] [(.int (1 : Int32))])) _
            refine XS.goto X38.here hx rfl (pc0 := 61) (pc' := 65) rfl (hb hby d2_61) (by decide) (by decide) ?_
            show Steps p.tables e below (T38.setTop (mkF m 65 #[.val (.ref p0), .val (.ref p1), .val (.ref p1)] [(.int (1 : Int32))])) _
            exact retN X38 hx (t := .boolean) Bd.returns (by simp) (hb hby d2_65) hr
          · show Q2 Z p0 p1 p0_v_pendingCredits p0_v_pendingDebits p0_v_postedCredits p0_v_postedDebits p1_v_pendingCredits p1_v_pendingDebits p1_v_postedCredits p1_v_postedDebits wcache hs h0 n0 _ T38.heap _
            rw [e38]
            exact ⟨by rw [f2, if_pos hc28, if_pos hc32, if_pos hc36, if_pos hc40], N0, rfl⟩
        · obtain ⟨fs, hr, hrun, hended, hW, hsame⟩ := X38.leave (v := some (.int (0 : Int32))) (fun h => by rw [Bd.returns] at h; cases h)
          refine ⟨_, _, k39 _ ?_, hrun, hended, _, _, rfl, ?_, ⟨_, rfl⟩, hW, hsame.mono (by decide) (by decide)⟩
          · show Steps p.tables e below (T38.setTop (mkF m 57 #[.val (.ref p0), .val (.ref p1), .val (.ref p1)] [(.int (lcmpW p0_v_postedDebits p1_v_postedDebits))])) _
            refine XS.ifYes X38.here hx rfl (pc0 := 57) (pc' := 64) rfl (hb hby d2_57) rfl ((if0 _ _).trans (feq (own_lcEf (hc40 : ¬ (p0_v_postedDebits = p1_v_postedDebits)) : ¬ ((lcmpW p0_v_postedDebits p1_v_postedDebits) = (0 : Int32)))).2) (by decide) (by decide) ?_
            show Steps p.tables e below (T38.setTop (mkF m 64 #[.val (.ref p0), .val (.ref p1), .val (.ref p1)] [])) _
            refine XS.iconst X38.here hx rfl (hb hby d2_64) ?_
            show Steps p.tables e below (T38.setTop (mkF m 65 #[.val (.ref p0), .val (.ref p1), .val (.ref p1)] [(.int (0 : Int32))])) _
            exact retN X38 hx (t := .boolean) Bd.returns (by simp) (hb hby d2_65) hr
          · show Q2 Z p0 p1 p0_v_pendingCredits p0_v_pendingDebits p0_v_postedCredits p0_v_postedDebits p1_v_pendingCredits p1_v_pendingDebits p1_v_postedCredits p1_v_postedDebits wcache hs h0 n0 _ T38.heap _
            rw [e38]
            exact ⟨by rw [f2, if_pos hc28, if_pos hc32, if_pos hc36, if_neg hc40], N0, rfl⟩
      · obtain ⟨fs, hr, hrun, hended, hW, hsame⟩ := X34.leave (v := some (.int (0 : Int32))) (fun h => by rw [Bd.returns] at h; cases h)
        refine ⟨_, _, k35 _ ?_, hrun, hended, _, _, rfl, ?_, ⟨_, rfl⟩, hW, hsame.mono (by decide) (by decide)⟩
        · show Steps p.tables e below (T34.setTop (mkF m 45 #[.val (.ref p0), .val (.ref p1), .val (.ref p1)] [(.int (lcmpW p0_v_postedCredits p1_v_postedCredits))])) _
          refine XS.ifYes X34.here hx rfl (pc0 := 45) (pc' := 64) rfl (hb hby d2_45) rfl ((if0 _ _).trans (feq (own_lcEf (hc36 : ¬ (p0_v_postedCredits = p1_v_postedCredits)) : ¬ ((lcmpW p0_v_postedCredits p1_v_postedCredits) = (0 : Int32)))).2) (by decide) (by decide) ?_
          show Steps p.tables e below (T34.setTop (mkF m 64 #[.val (.ref p0), .val (.ref p1), .val (.ref p1)] [])) _
          refine XS.iconst X34.here hx rfl (hb hby d2_64) ?_
          show Steps p.tables e below (T34.setTop (mkF m 65 #[.val (.ref p0), .val (.ref p1), .val (.ref p1)] [(.int (0 : Int32))])) _
          exact retN X34 hx (t := .boolean) Bd.returns (by simp) (hb hby d2_65) hr
        · show Q2 Z p0 p1 p0_v_pendingCredits p0_v_pendingDebits p0_v_postedCredits p0_v_postedDebits p1_v_pendingCredits p1_v_pendingDebits p1_v_postedCredits p1_v_postedDebits wcache hs h0 n0 _ T34.heap _
          rw [e34]
          exact ⟨by rw [f2, if_pos hc28, if_pos hc32, if_neg hc36], N0, rfl⟩
    · obtain ⟨fs, hr, hrun, hended, hW, hsame⟩ := X30.leave (v := some (.int (0 : Int32))) (fun h => by rw [Bd.returns] at h; cases h)
      refine ⟨_, _, k31 _ ?_, hrun, hended, _, _, rfl, ?_, ⟨_, rfl⟩, hW, hsame.mono (by decide) (by decide)⟩
      · show Steps p.tables e below (T30.setTop (mkF m 33 #[.val (.ref p0), .val (.ref p1), .val (.ref p1)] [(.int (lcmpW p0_v_pendingDebits p1_v_pendingDebits))])) _
        refine XS.ifYes X30.here hx rfl (pc0 := 33) (pc' := 64) rfl (hb hby d2_33) rfl ((if0 _ _).trans (feq (own_lcEf (hc32 : ¬ (p0_v_pendingDebits = p1_v_pendingDebits)) : ¬ ((lcmpW p0_v_pendingDebits p1_v_pendingDebits) = (0 : Int32)))).2) (by decide) (by decide) ?_
        show Steps p.tables e below (T30.setTop (mkF m 64 #[.val (.ref p0), .val (.ref p1), .val (.ref p1)] [])) _
        refine XS.iconst X30.here hx rfl (hb hby d2_64) ?_
        show Steps p.tables e below (T30.setTop (mkF m 65 #[.val (.ref p0), .val (.ref p1), .val (.ref p1)] [(.int (0 : Int32))])) _
        exact retN X30 hx (t := .boolean) Bd.returns (by simp) (hb hby d2_65) hr
      · show Q2 Z p0 p1 p0_v_pendingCredits p0_v_pendingDebits p0_v_postedCredits p0_v_postedDebits p1_v_pendingCredits p1_v_pendingDebits p1_v_postedCredits p1_v_postedDebits wcache hs h0 n0 _ T30.heap _
        rw [e30]
        exact ⟨by rw [f2, if_pos hc28, if_neg hc32], N0, rfl⟩
  · obtain ⟨fs, hr, hrun, hended, hW, hsame⟩ := X26.leave (v := some (.int (0 : Int32))) (fun h => by rw [Bd.returns] at h; cases h)
    refine ⟨_, _, k27 _ ?_, hrun, hended, _, _, rfl, ?_, ⟨_, rfl⟩, hW, hsame.mono (by decide) (by decide)⟩
    · show Steps p.tables e below (T26.setTop (mkF m 21 #[.val (.ref p0), .val (.ref p1), .val (.ref p1)] [(.int (lcmpW p0_v_pendingCredits p1_v_pendingCredits))])) _
      refine XS.ifYes X26.here hx rfl (pc0 := 21) (pc' := 64) rfl (hb hby d2_21) rfl ((if0 _ _).trans (feq (own_lcEf (hc28 : ¬ (p0_v_pendingCredits = p1_v_pendingCredits)) : ¬ ((lcmpW p0_v_pendingCredits p1_v_pendingCredits) = (0 : Int32)))).2) (by decide) (by decide) ?_
      show Steps p.tables e below (T26.setTop (mkF m 64 #[.val (.ref p0), .val (.ref p1), .val (.ref p1)] [])) _
      refine XS.iconst X26.here hx rfl (hb hby d2_64) ?_
      show Steps p.tables e below (T26.setTop (mkF m 65 #[.val (.ref p0), .val (.ref p1), .val (.ref p1)] [(.int (0 : Int32))])) _
      exact retN X26 hx (t := .boolean) Bd.returns (by simp) (hb hby d2_65) hr
    · show Q2 Z p0 p1 p0_v_pendingCredits p0_v_pendingDebits p0_v_postedCredits p0_v_postedDebits p1_v_pendingCredits p1_v_pendingDebits p1_v_postedCredits p1_v_postedDebits wcache hs h0 n0 _ T26.heap _
      rw [e26]
      exact ⟨by rw [f2, if_neg hc28], N0, rfl⟩

def f3 (p0 : Addr) (p0_v_pendingCredits : Int64) (p0_v_pendingDebits : Int64) (p0_v_postedCredits : Int64) (p0_v_postedDebits : Int64) (wcache : Addr) : Int32 := (0 : Int32)
theorem ef_3 (m : MethodId) (p0 : Addr) : entryFrame m #[(.ref p0), .null] 3 = mkF m 0 #[.val (.ref p0), .val .null, .unset] [] := by first | (simp [entryFrame, mkF, argsToLocals, Value.category]; done) | rfl
def Q3 (Z : State) (p0 : Addr) (p0_v_pendingCredits : Int64) (p0_v_pendingDebits : Int64) (p0_v_postedCredits : Int64) (p0_v_postedDebits : Int64) (wcache : Addr) (hs : Heap) (h0 : Heap) (n0 : Nat) (v : Option Value) (h : Heap) (L : List Loc) : Prop := v = some (.int (f3 p0 p0_v_pendingCredits p0_v_pendingDebits p0_v_postedCredits p0_v_postedDebits wcache)) ∧ Fr n0 L ∧ h = h0
set_option maxRecDepth 65536 in
set_option maxHeartbeats 40000000 in
theorem rm3 (l : Launch) (Z : State) (a0 : Array Value) (hw : ∀ d ∈ tables_1, d.before a0 Z = true) (ws : List Jvm.Cond) (p0 : Addr) (p0_v_pendingCredits : Int64) (p0_v_pendingDebits : Int64) (p0_v_postedCredits : Int64) (p0_v_postedDebits : Int64) (wcache : Addr) (hs : Heap) (h0 : Heap) (n0 : Nat) (Z0 : n0 ≤ h0.size) (WS : World Z hs wcache) (O0 : Ext hs h0) (Zs : hs.size ≤ n0) (OB_p0 : Tot Z h0 n0 p0 p0_v_pendingCredits p0_v_pendingDebits p0_v_postedCredits p0_v_postedDebits) :
    MetFree l (⟨"com/example/rialto/rialto/ledger/AccountTotals", "equals", "(Ljava/lang/Object;)Z"⟩ : MethodName) (head1 (Jvm.Cond.code (⟨"com/example/rialto/rialto/ledger/AccountTotals", "equals", "(Ljava/lang/Object;)Z"⟩ : MethodName) prog_10_method_9_code 3 (some .boolean) :: ws) ({ frames := 0, cells := 0, slots := 0, locals := 0 } : Room)) (fun a U => a = #[(.ref p0), .null] ∧ Z.Warmed39 U.vm ∧ U.heap = h0) (fun _ _ _ _ _ => True) (fun _ U o U' => ∃ v L, o = .returned v ∧ Q3 Z p0 p0_v_pendingCredits p0_v_pendingDebits p0_v_postedCredits p0_v_postedDebits wcache hs h0 n0 v U'.heap L ∧ FrameEnd U o U' L ({ frames := 0, cells := 0, slots := 0, locals := 0 } : Room).cells ({ frames := 0, cells := 0, slots := 0, locals := 0 } : Room).slots) := by
  refine MetFree.of_bodySF (plainFor_of_name pn_0) hisR ?_
  intro p e s m args below meth c s₁ Bd hml0 hP hK
  obtain ⟨rfl, hZ, hh⟩ := hP
  have hx := Bd.exec
  have hby := Bd.bytes
  have hml : c.maxLocals = 3 := hml0
  have hown : s.vm.findClass "com/example/rialto/rialto/ledger/AccountTotals" = some m.cls := findClass_of_methodNamed Bd.named
  have hnm := (name_of_methodNamed Bd.named Bd.method).1
  have X0 : Stand p l e ({ frames := 0, cells := 0, slots := 0, locals := 0 } : Room) s m #[(.ref p0), .null] below meth c s₁ [] 0 0 := Stand.of_body Bd
  have e0 : s₁.heap = h0 := by rw [← hh, Bd.state]; rfl
  have N0 := Fr.nil n0
  have W1 := WS
  obtain ⟨Scache, Ccache, -⟩ := W1
  obtain ⟨E_p0, g_p0, G_p0_pendingCredits, G_p0_pendingDebits, G_p0_postedCredits, G_p0_postedDebits, -⟩ := OB_p0
  have pre0 : ∀ t, Steps p.tables e below (s₁.setTop (mkF m 0 #[.val (.ref p0), .val .null, .unset] [])) t → Steps p.tables e below (s₁.setTop (entryFrame m #[(.ref p0), .null] 3)) t := fun t k => castTop (ef_3 m p0) k
  obtain ⟨fs, hr, hrun, hended, hW, hsame⟩ := X0.leave (v := some (.int (0 : Int32))) (fun h => by rw [Bd.returns] at h; cases h)
  refine ⟨_, _, pre0 _ ?_, hrun, hended, _, _, rfl, ?_, ⟨_, rfl⟩, hW, hsame.mono (by decide) (by decide)⟩
  · show Steps p.tables e below (s₁.setTop (mkF m 0 #[.val (.ref p0), .val .null, .unset] [])) _
    refine XS.aloadN X0.here hx rfl (hb hby d2_0) rfl rfl ?_
    show Steps p.tables e below (s₁.setTop (mkF m 1 #[.val (.ref p0), .val .null, .unset] [.null])) _
    refine X0.instanceofNull hx (g := (mkF m 1 #[.val (.ref p0), .val .null, .unset] [.null])) rfl rfl (hb hby d2_1) _ ?_
    show Steps p.tables e below (s₁.setTop (mkF m 4 #[.val (.ref p0), .val .null, .unset] [(.int (0 : Int32))])) _
    refine XS.ifYes X0.here hx rfl (pc0 := 4) (pc' := 64) rfl (hb hby d2_4) rfl ((if0 _ _).trans (teq (rfl : (0 : Int32) = (0 : Int32))).1) (by decide) (by decide) ?_
    show Steps p.tables e below (s₁.setTop (mkF m 64 #[.val (.ref p0), .val .null, .unset] [])) _
    refine XS.iconst X0.here hx rfl (hb hby d2_64) ?_
    show Steps p.tables e below (s₁.setTop (mkF m 65 #[.val (.ref p0), .val .null, .unset] [(.int (0 : Int32))])) _
    exact retN X0 hx (t := .boolean) Bd.returns (by simp) (hb hby d2_65) hr
  · show Q3 Z p0 p0_v_pendingCredits p0_v_pendingDebits p0_v_postedCredits p0_v_postedDebits wcache hs h0 n0 _ s₁.heap _
    rw [e0]
    exact ⟨by rw [f3], N0, rfl⟩

def f4 (p0 : Addr) (p1 : Addr) (p0_v_pendingCredits : Int64) (p0_v_pendingDebits : Int64) (p0_v_postedCredits : Int64) (p0_v_postedDebits : Int64) (wcache : Addr) : Int32 := (0 : Int32)
theorem ef_4 (m : MethodId) (p0 : Addr) (p1 : Addr) : entryFrame m #[(.ref p0), (.ref p1)] 3 = mkF m 0 #[.val (.ref p0), .val (.ref p1), .unset] [] := by first | (simp [entryFrame, mkF, argsToLocals, Value.category]; done) | rfl
def Q4 (Z : State) (p0 : Addr) (p1 : Addr) (p0_v_pendingCredits : Int64) (p0_v_pendingDebits : Int64) (p0_v_postedCredits : Int64) (p0_v_postedDebits : Int64) (wcache : Addr) (hs : Heap) (h0 : Heap) (n0 : Nat) (v : Option Value) (h : Heap) (L : List Loc) : Prop := v = some (.int (f4 p0 p1 p0_v_pendingCredits p0_v_pendingDebits p0_v_postedCredits p0_v_postedDebits wcache)) ∧ Fr n0 L ∧ h = h0
set_option maxRecDepth 65536 in
set_option maxHeartbeats 40000000 in
theorem rm4 (l : Launch) (Z : State) (a0 : Array Value) (hw : ∀ d ∈ tables_1, d.before a0 Z = true) (ws : List Jvm.Cond) (p0 : Addr) (p1 : Addr) (p0_v_pendingCredits : Int64) (p0_v_pendingDebits : Int64) (p0_v_postedCredits : Int64) (p0_v_postedDebits : Int64) (wcache : Addr) (hs : Heap) (h0 : Heap) (n0 : Nat) (Z0 : n0 ≤ h0.size) (WS : World Z hs wcache) (O0 : Ext hs h0) (Zs : hs.size ≤ n0) (OB_p0 : Tot Z h0 n0 p0 p0_v_pendingCredits p0_v_pendingDebits p0_v_postedCredits p0_v_postedDebits) (E_p1 : Exa Z h0 p1 "java/lang/Long") :
    MetFree l (⟨"com/example/rialto/rialto/ledger/AccountTotals", "equals", "(Ljava/lang/Object;)Z"⟩ : MethodName) (head1 (Jvm.Cond.code (⟨"com/example/rialto/rialto/ledger/AccountTotals", "equals", "(Ljava/lang/Object;)Z"⟩ : MethodName) prog_10_method_9_code 3 (some .boolean) :: ws) ({ frames := 0, cells := 0, slots := 0, locals := 0 } : Room)) (fun a U => a = #[(.ref p0), (.ref p1)] ∧ Z.Warmed39 U.vm ∧ U.heap = h0) (fun _ _ _ _ _ => True) (fun _ U o U' => ∃ v L, o = .returned v ∧ Q4 Z p0 p1 p0_v_pendingCredits p0_v_pendingDebits p0_v_postedCredits p0_v_postedDebits wcache hs h0 n0 v U'.heap L ∧ FrameEnd U o U' L ({ frames := 0, cells := 0, slots := 0, locals := 0 } : Room).cells ({ frames := 0, cells := 0, slots := 0, locals := 0 } : Room).slots) := by
  refine MetFree.of_bodySF (plainFor_of_name pn_0) hisR ?_
  intro p e s m args below meth c s₁ Bd hml0 hP hK
  obtain ⟨rfl, hZ, hh⟩ := hP
  have hx := Bd.exec
  have hby := Bd.bytes
  have hml : c.maxLocals = 3 := hml0
  have hown : s.vm.findClass "com/example/rialto/rialto/ledger/AccountTotals" = some m.cls := findClass_of_methodNamed Bd.named
  have hnm := (name_of_methodNamed Bd.named Bd.method).1
  have X0 : Stand p l e ({ frames := 0, cells := 0, slots := 0, locals := 0 } : Room) s m #[(.ref p0), (.ref p1)] below meth c s₁ [] 0 0 := Stand.of_body Bd
  have e0 : s₁.heap = h0 := by rw [← hh, Bd.state]; rfl
  have N0 := Fr.nil n0
  have W1 := WS
  obtain ⟨Scache, Ccache, -⟩ := W1
  obtain ⟨E_p0, g_p0, G_p0_pendingCredits, G_p0_pendingDebits, G_p0_postedCredits, G_p0_postedDebits, -⟩ := OB_p0
  have pre0 : ∀ t, Steps p.tables e below (s₁.setTop (mkF m 0 #[.val (.ref p0), .val (.ref p1), .unset] [])) t → Steps p.tables e below (s₁.setTop (entryFrame m #[(.ref p0), (.ref p1)] 3)) t := fun t k => castTop (ef_4 m p0 p1) k
  obtain ⟨T41, X41, e41, st41⟩ := instNo X0 hx hZ hown (hw _ (List.mem_of_getElem? (i := 23) rfl)) e0 E_p1 (own_noAT hw) (g := (mkF m 1 #[.val (.ref p0), .val (.ref p1), .unset] [(.ref p1)])) rfl rfl (hb hby d2_1)
  obtain ⟨fs, hr, hrun, hended, hW, hsame⟩ := X41.leave (v := some (.int (0 : Int32))) (fun h => by rw [Bd.returns] at h; cases h)
  refine ⟨_, _, pre0 _ ?_, hrun, hended, _, _, rfl, ?_, ⟨_, rfl⟩, hW, hsame.mono (by decide) (by decide)⟩
  · show Steps p.tables e below (s₁.setTop (mkF m 0 #[.val (.ref p0), .val (.ref p1), .unset] [])) _
    refine XS.aloadN X0.here hx rfl (hb hby d2_0) rfl rfl ?_
    show Steps p.tables e below (s₁.setTop (mkF m 1 #[.val (.ref p0), .val (.ref p1), .unset] [(.ref p1)])) _
    refine st41 _ ?_
    show Steps p.tables e below (T41.setTop (mkF m 4 #[.val (.ref p0), .val (.ref p1), .unset] [(.int (0 : Int32))])) _
    refine XS.ifYes X41.here hx rfl (pc0 := 4) (pc' := 64) rfl (hb hby d2_4) rfl ((if0 _ _).trans (teq (rfl : (0 : Int32) = (0 : Int32))).1) (by decide) (by decide) ?_
    show Steps p.tables e below (T41.setTop (mkF m 64 #[.val (.ref p0), .val (.ref p1), .unset] [])) _
    refine XS.iconst X41.here hx rfl (hb hby d2_64) ?_
    show Steps p.tables e below (T41.setTop (mkF m 65 #[.val (.ref p0), .val (.ref p1), .unset] [(.int (0 : Int32))])) _
    exact retN X41 hx (t := .boolean) Bd.returns (by simp) (hb hby d2_65) hr
  · show Q4 Z p0 p1 p0_v_pendingCredits p0_v_pendingDebits p0_v_postedCredits p0_v_postedDebits wcache hs h0 n0 _ T41.heap _
    rw [e41]
    exact ⟨by rw [f4], N0, rfl⟩
theorem d3_0 : decode jdk_18_method_1_code 0 = .ok (.aload_n 0, 1) := by decide +kernel
theorem d3_1 : decode jdk_18_method_1_code 1 = .ok (.invokespecial 1, 3) := by decide +kernel
theorem d3_4 : decode jdk_18_method_1_code 4 = .ok (.return_, 1) := by decide +kernel
theorem pn_1 : plainName "java/lang/Number" = true := by first | (simp [plainName, overriddenIn]; done) | decide +kernel
theorem ef_5 (m : MethodId) (p0 : Addr) : entryFrame m #[(.ref p0)] 1 = mkF m 0 #[.val (.ref p0)] [] := by first | (simp [entryFrame, mkF, argsToLocals, Value.category]; done) | rfl
def Q5 (Z : State) (p0 : Addr) (wcache : Addr) (hs : Heap) (h0 : Heap) (n0 : Nat) (v : Option Value) (h : Heap) (L : List Loc) : Prop := v = none ∧ Fr n0 L ∧ h = h0
set_option maxRecDepth 65536 in
set_option maxHeartbeats 40000000 in
theorem rm5 (l : Launch) (Z : State) (a0 : Array Value) (hw : ∀ d ∈ tables_1, d.before a0 Z = true) (ws : List Jvm.Cond) (p0 : Addr) (wcache : Addr) (hs : Heap) (h0 : Heap) (n0 : Nat) (Z0 : n0 ≤ h0.size) (WS : World Z hs wcache) (O0 : Ext hs h0) (Zs : hs.size ≤ n0) :
    MetFree l (⟨"java/lang/Number", "<init>", "()V"⟩ : MethodName) (head1 (Jvm.Cond.code (⟨"java/lang/Number", "<init>", "()V"⟩ : MethodName) jdk_18_method_1_code 1 none :: ws) ({ frames := 1, cells := 0, slots := 0, locals := 12 } : Room)) (fun a U => a = #[(.ref p0)] ∧ Z.Warmed39 U.vm ∧ U.heap = h0) (fun _ _ _ _ _ => True) (fun _ U o U' => ∃ v L, o = .returned v ∧ Q5 Z p0 wcache hs h0 n0 v U'.heap L ∧ FrameEnd U o U' L ({ frames := 1, cells := 0, slots := 0, locals := 12 } : Room).cells ({ frames := 1, cells := 0, slots := 0, locals := 12 } : Room).slots) := by
  refine MetFree.of_bodySF (plainFor_of_name pn_1) hisR ?_
  intro p e s m args below meth c s₁ Bd hml0 hP hK
  obtain ⟨rfl, hZ, hh⟩ := hP
  have hx := Bd.exec
  have hby := Bd.bytes
  have hml : c.maxLocals = 1 := hml0
  have hown : s.vm.findClass "java/lang/Number" = some m.cls := findClass_of_methodNamed Bd.named
  have hnm := (name_of_methodNamed Bd.named Bd.method).1
  have X0 : Stand p l e ({ frames := 1, cells := 0, slots := 0, locals := 12 } : Room) s m #[(.ref p0)] below meth c s₁ [] 0 0 := Stand.of_body Bd
  have e0 : s₁.heap = h0 := by rw [← hh, Bd.state]; rfl
  have N0 := Fr.nil n0
  have W1 := WS
  obtain ⟨Scache, Ccache, -⟩ := W1
  have pre0 : ∀ t, Steps p.tables e below (s₁.setTop (mkF m 0 #[.val (.ref p0)] [])) t → Steps p.tables e below (s₁.setTop (entryFrame m #[(.ref p0)] 1)) t := fun t k => castTop (ef_5 m p0) k
  obtain ⟨T42, X42, e42, st42⟩ := initO X0 hx hZ hown (hw _ (List.mem_of_getElem? (i := 43) rfl)) (hw _ (List.mem_of_getElem? (i := 8) rfl)) (hw _ (List.mem_of_getElem? (i := 9) rfl)) e0 (g := (mkF m 1 #[.val (.ref p0)] [(.ref p0)])) rfl (by rw [hml]; rfl) rfl (hb hby d3_1) (by decide) (W := 0) (by show 2 * 0 + _ ≤ _; exact Nat.le_of_eq rfl) (by decide)
  obtain ⟨fs, hr, hrun, hended, hW, hsame⟩ := X42.leave (v := none) (fun _ => rfl)
  refine ⟨_, _, pre0 _ ?_, hrun, hended, _, _, rfl, ?_, ⟨_, rfl⟩, hW, hsame.mono (by decide) (by decide)⟩
  · show Steps p.tables e below (s₁.setTop (mkF m 0 #[.val (.ref p0)] [])) _
    refine XS.aloadN X0.here hx rfl (hb hby d3_0) rfl rfl ?_
    show Steps p.tables e below (s₁.setTop (mkF m 1 #[.val (.ref p0)] [(.ref p0)])) _
    refine st42 _ ?_
    show Steps p.tables e below (T42.setTop (mkF m 4 #[.val (.ref p0)] [])) _
    exact X42.returnOut hx Bd.returns (hb hby d3_4) hr
  · show Q5 Z p0 wcache hs h0 n0 _ T42.heap _
    rw [e42]
    exact ⟨rfl, N0, rfl⟩
theorem d4_0 : decode jdk_35_method_26_code 0 = .ok (.aload_n 0, 1) := by decide +kernel
theorem d4_1 : decode jdk_35_method_26_code 1 = .ok (.invokespecial 270, 3) := by decide +kernel
theorem pd_0 : parseMethodDescriptor "()V" = some ⟨[], none⟩ := by decide +kernel
theorem d4_4 : decode jdk_35_method_26_code 4 = .ok (.aload_n 0, 1) := by decide +kernel
theorem d4_5 : decode jdk_35_method_26_code 5 = .ok (.lload_n 1, 1) := by decide +kernel
theorem d4_6 : decode jdk_35_method_26_code 6 = .ok (.putfield 273, 3) := by decide +kernel
theorem d4_9 : decode jdk_35_method_26_code 9 = .ok (.return_, 1) := by decide +kernel
theorem pn_2 : plainName "java/lang/Long" = true := by first | (simp [plainName, overriddenIn]; done) | decide +kernel
theorem ef_6 (m : MethodId) (p0 : Addr) (p1 : Int64) : entryFrame m #[(.ref p0), (.long p1)] 3 = mkF m 0 #[.val (.ref p0), .val (.long p1), .second] [] := by first | (simp [entryFrame, mkF, argsToLocals, Value.category]; done) | rfl
def Q6 (Z : State) (p0 : Addr) (p1 : Int64) (wcache : Addr) (hs : Heap) (h0 : Heap) (n0 : Nat) (v : Option Value) (h : Heap) (L : List Loc) : Prop := v = none ∧ Fr n0 L ∧ Ext hs h ∧ Keep h0 h [p0] ∧ LongO Z h n0 p0 p1
set_option maxRecDepth 65536 in
set_option maxHeartbeats 40000000 in
theorem rm6 (l : Launch) (Z : State) (a0 : Array Value) (hw : ∀ d ∈ tables_1, d.before a0 Z = true) (ws : List Jvm.Cond) (p0 : Addr) (p1 : Int64) (wcache : Addr) (hs : Heap) (h0 : Heap) (n0 : Nat) (Z0 : n0 ≤ h0.size) (WS : World Z hs wcache) (O0 : Ext hs h0) (Zs : hs.size ≤ n0) (E_p0 : Exa Z h0 p0 "java/lang/Long") (g_p0 : n0 ≤ p0) (G_p0_value : Fld Z h0 p0 "java/lang/Long" "value" "J" (.long (0 : Int64))) :
    MetFree l (⟨"java/lang/Long", "<init>", "(J)V"⟩ : MethodName) (head1 (Jvm.Cond.code (⟨"java/lang/Long", "<init>", "(J)V"⟩ : MethodName) jdk_35_method_26_code 3 none :: ws) ({ frames := 2, cells := 0, slots := 0, locals := 24 } : Room)) (fun a U => a = #[(.ref p0), (.long p1)] ∧ Z.Warmed39 U.vm ∧ U.heap = h0) (fun _ _ _ _ _ => True) (fun _ U o U' => ∃ v L, o = .returned v ∧ Q6 Z p0 p1 wcache hs h0 n0 v U'.heap L ∧ FrameEnd U o U' L ({ frames := 2, cells := 0, slots := 0, locals := 24 } : Room).cells ({ frames := 2, cells := 0, slots := 0, locals := 24 } : Room).slots) := by
  refine MetFree.of_bodySF (plainFor_of_name pn_2) hisR ?_
  intro p e s m args below meth c s₁ Bd hml0 hP hK
  obtain ⟨rfl, hZ, hh⟩ := hP
  have hx := Bd.exec
  have hby := Bd.bytes
  have hml : c.maxLocals = 3 := hml0
  have hown : s.vm.findClass "java/lang/Long" = some m.cls := findClass_of_methodNamed Bd.named
  have hnm := (name_of_methodNamed Bd.named Bd.method).1
  have X0 : Stand p l e ({ frames := 2, cells := 0, slots := 0, locals := 24 } : Room) s m #[(.ref p0), (.long p1)] below meth c s₁ [] 0 0 := Stand.of_body Bd
  have e0 : s₁.heap = h0 := by rw [← hh, Bd.state]; rfl
  have N0 := Fr.nil n0
  have W1 := WS
  obtain ⟨Scache, Ccache, -⟩ := W1
  have pre0 : ∀ t, Steps p.tables e below (s₁.setTop (mkF m 0 #[.val (.ref p0), .val (.long p1), .second] [])) t → Steps p.tables e below (s₁.setTop (entryFrame m #[(.ref p0), (.long p1)] 3)) t := fun t k => castTop (ef_6 m p0 p1) k
  obtain ⟨_, _, ⟨T43, L43, k43, n43⟩, -, X43, ⟨Lc43, hQ43, l43, y43, z43⟩, st43⟩ := X0.specialBack hx (y := (⟨"java/lang/Number", "<init>", "()V"⟩ : MethodName)) rfl hown (mvT hZ (hw _ (List.mem_of_getElem? (i := 37) rfl))) (mvT hZ (hw _ (List.mem_of_getElem? (i := 38) rfl))) (mvT hZ (hw _ (List.mem_of_getElem? (i := 42) rfl))) (by decide) (backOf (W := 0) (rm5 l Z a0 hw [] p0 wcache hs h0 n0 Z0 WS O0 Zs ) hZ (hw _ (List.mem_of_getElem? (i := 42) rfl)) (hw _ (List.mem_of_getElem? (i := 41) rfl)) (by decide) (by decide)) (g := (mkF m 1 #[.val (.ref p0), .val (.long p1), .second] [(.ref p0)])) rfl (by rw [hml]; rfl) (Steps.refl _) (a := p0) (argsL := []) (rest := []) (lenOf pd_0 rfl) rfl (by show 2 * 0 + _ ≤ _; exact Nat.le_of_eq rfl) (hb hby d4_1) (fun _ _ => ⟨rfl, e0, (by decide : 0 + 0 ≤ _), (by decide : 0 + 0 ≤ _)⟩)
  dsimp only [Pt.U, Pt.locs, Pt.cells, Pt.slots] at X43 l43 y43 z43 st43 hQ43
  subst l43 y43 z43
  unfold Q5 at hQ43
  obtain ⟨rfl, N43q, e43⟩ := hQ43
  have N43 := Fr.app N0 N43q
  obtain ⟨T44, h44, X44, e44, W44, st44⟩ := putF X43 hx hZ hown (host := "") (Or.inl (hw _ (List.mem_of_getElem? (i := 44) rfl))) Via.refl e43 G_p0_value E_p0 (Or.inr ⟨(hw _ (List.mem_of_getElem? (i := 45) rfl)), rfl, hnm⟩) (hw _ (List.mem_of_getElem? (i := 32) rfl)) (ty := .long) (by decide) rfl rfl (g := (mkF m 6 #[.val (.ref p0), .val (.long p1), .second] [(.long p1), (.ref p0)])) rfl rfl (hb hby d4_6)
  have E45 := E_p0.wr W44
  have G44 : Fld Z h44 p0 "java/lang/Long" "value" "J" (.long p1) := G_p0_value.same W44
  have N44' := Fr.snoc X44 N43 g_p0
  have EX44 : Ext hs h44 := own_ext_wr O0 W44 (Nat.le_trans Zs g_p0)
  have KK44 : Keep h0 h44 [p0] := Keep.wr (Keep.refl h0 [p0]) W44 (Or.inl (List.mem_of_getElem? (i := 0) rfl))
  obtain ⟨fs, hr, hrun, hended, hW, hsame⟩ := X44.leave (v := none) (fun _ => rfl)
  refine ⟨_, _, pre0 _ ?_, hrun, hended, _, _, rfl, ?_, ⟨_, rfl⟩, hW, hsame.mono (by decide) (by decide)⟩
  · show Steps p.tables e below (s₁.setTop (mkF m 0 #[.val (.ref p0), .val (.long p1), .second] [])) _
    refine XS.aloadN X0.here hx rfl (hb hby d4_0) rfl rfl ?_
    show Steps p.tables e below (s₁.setTop (mkF m 1 #[.val (.ref p0), .val (.long p1), .second] [(.ref p0)])) _
    refine st43.trans ?_
    show Steps p.tables e below (T43.setTop (mkF m 4 #[.val (.ref p0), .val (.long p1), .second] [])) _
    refine XS.aloadN X43.here hx rfl (hb hby d4_4) rfl rfl ?_
    show Steps p.tables e below (T43.setTop (mkF m 5 #[.val (.ref p0), .val (.long p1), .second] [(.ref p0)])) _
    refine XS.lloadN X43.here hx rfl (hb hby d4_5) rfl ?_
    show Steps p.tables e below (T43.setTop (mkF m 6 #[.val (.ref p0), .val (.long p1), .second] [(.long p1), (.ref p0)])) _
    refine st44 _ ?_
    show Steps p.tables e below (T44.setTop (mkF m 9 #[.val (.ref p0), .val (.long p1), .second] [])) _
    exact X44.returnOut hx Bd.returns (hb hby d4_9) hr
  · show Q6 Z p0 p1 wcache hs h0 n0 _ T44.heap _
    rw [e44]
    exact ⟨rfl, N44', EX44, KK44, ⟨E45, g_p0, G44, trivial⟩⟩
theorem d5_0 : decode jdk_35_method_24_code 0 = .ok (.sipush 128, 3) := by decide +kernel
theorem d5_3 : decode jdk_35_method_24_code 3 = .ok (.istore_n 2, 1) := by decide +kernel
theorem d5_4 : decode jdk_35_method_24_code 4 = .ok (.lload_n 0, 1) := by decide +kernel
theorem d5_5 : decode jdk_35_method_24_code 5 = .ok (.ldc2_w 230, 3) := by decide +kernel
theorem d5_8 : decode jdk_35_method_24_code 8 = .ok (.lcmp, 1) := by decide +kernel
theorem d5_9 : decode jdk_35_method_24_code 9 = .ok (.ifCond .lt 22, 3) := by decide +kernel
theorem d5_31 : decode jdk_35_method_24_code 31 = .ok (.new 1, 3) := by decide +kernel
theorem d5_34 : decode jdk_35_method_24_code 34 = .ok (.dup, 1) := by decide +kernel
theorem d5_35 : decode jdk_35_method_24_code 35 = .ok (.lload_n 0, 1) := by decide +kernel
theorem d5_36 : decode jdk_35_method_24_code 36 = .ok (.invokespecial 240, 3) := by decide +kernel
theorem pd_1 : parseMethodDescriptor "(J)V" = some ⟨[.long], none⟩ := by decide +kernel
theorem d5_39 : decode jdk_35_method_24_code 39 = .ok (.areturn, 1) := by decide +kernel
theorem d5_12 : decode jdk_35_method_24_code 12 = .ok (.lload_n 0, 1) := by decide +kernel
theorem d5_13 : decode jdk_35_method_24_code 13 = .ok (.ldc2_w 232, 3) := by decide +kernel
theorem d5_16 : decode jdk_35_method_24_code 16 = .ok (.lcmp, 1) := by decide +kernel
theorem d5_17 : decode jdk_35_method_24_code 17 = .ok (.ifCond .gt 14, 3) := by decide +kernel
theorem d5_20 : decode jdk_35_method_24_code 20 = .ok (.getstatic 234, 3) := by decide +kernel
theorem d5_23 : decode jdk_35_method_24_code 23 = .ok (.lload_n 0, 1) := by decide +kernel
theorem d5_24 : decode jdk_35_method_24_code 24 = .ok (.l2i, 1) := by decide +kernel
theorem d5_25 : decode jdk_35_method_24_code 25 = .ok (.sipush 128, 3) := by decide +kernel
theorem d5_28 : decode jdk_35_method_24_code 28 = .ok (.iadd, 1) := by decide +kernel
theorem d5_29 : decode jdk_35_method_24_code 29 = .ok (.aaload, 1) := by decide +kernel
theorem d5_30 : decode jdk_35_method_24_code 30 = .ok (.areturn, 1) := by decide +kernel
theorem ef_7 (m : MethodId) (p0 : Int64) : entryFrame m #[(.long p0)] 3 = mkF m 0 #[.val (.long p0), .second, .unset] [] := by first | (simp [entryFrame, mkF, argsToLocals, Value.category]; done) | rfl
def Q7 (Z : State) (p0 : Int64) (wcache : Addr) (hs : Heap) (h0 : Heap) (n0 : Nat) (v : Option Value) (h : Heap) (L : List Loc) : Prop := ∃ r, v = some (.ref r) ∧ Fr n0 L ∧ Ext hs h ∧ Keep h0 h ([] : List Addr) ∧ Exa Z h r "java/lang/Long"
set_option maxRecDepth 65536 in
set_option maxHeartbeats 40000000 in
theorem rm7 (l : Launch) (Z : State) (a0 : Array Value) (hw : ∀ d ∈ tables_1, d.before a0 Z = true) (ws : List Jvm.Cond) (p0 : Int64) (wcache : Addr) (hs : Heap) (h0 : Heap) (n0 : Nat) (Z0 : n0 ≤ h0.size) (WS : World Z hs wcache) (O0 : Ext hs h0) (Zs : hs.size ≤ n0) :
    MetFree l (⟨"java/lang/Long", "valueOf", "(J)Ljava/lang/Long;"⟩ : MethodName) (head1 (Jvm.Cond.code (⟨"java/lang/Long", "valueOf", "(J)Ljava/lang/Long;"⟩ : MethodName) jdk_35_method_24_code 3 (some (.object "java/lang/Long")) :: ws) ({ frames := 3, cells := 2, slots := 2, locals := 39 } : Room)) (fun a U => a = #[(.long p0)] ∧ Z.Warmed39 U.vm ∧ U.heap = h0) (fun _ _ _ _ _ => True) (fun _ U o U' => ∃ v L, o = .returned v ∧ Q7 Z p0 wcache hs h0 n0 v U'.heap L ∧ FrameEnd U o U' L ({ frames := 3, cells := 2, slots := 2, locals := 39 } : Room).cells ({ frames := 3, cells := 2, slots := 2, locals := 39 } : Room).slots) := by
  refine MetFree.of_bodySF (plainFor_of_name pn_2) hisR ?_
  intro p e s m args below meth c s₁ Bd hml0 hP hK
  obtain ⟨rfl, hZ, hh⟩ := hP
  have hx := Bd.exec
  have hby := Bd.bytes
  have hml : c.maxLocals = 3 := hml0
  have hown : s.vm.findClass "java/lang/Long" = some m.cls := findClass_of_methodNamed Bd.named
  have hnm := (name_of_methodNamed Bd.named Bd.method).1
  have X0 : Stand p l e ({ frames := 3, cells := 2, slots := 2, locals := 39 } : Room) s m #[(.long p0)] below meth c s₁ [] 0 0 := Stand.of_body Bd
  have e0 : s₁.heap = h0 := by rw [← hh, Bd.state]; rfl
  have N0 := Fr.nil n0
  have W1 := WS
  obtain ⟨Scache, Ccache, -⟩ := W1
  have pre0 : ∀ t, Steps p.tables e below (s₁.setTop (mkF m 0 #[.val (.long p0), .second, .unset] [])) t → Steps p.tables e below (s₁.setTop (entryFrame m #[(.long p0)] 3)) t := fun t k => castTop (ef_7 m p0) k
  have k46 : ∀ t, Steps p.tables e below (s₁.setTop (mkF m 9 #[.val (.long p0), .second, .val (.int (128 : Int32))] [(.int (lcmpW p0 (-128 : Int64)))])) t → Steps p.tables e below (s₁.setTop (entryFrame m #[(.long p0)] 3)) t := fun t kt => pre0 t (by
    show Steps p.tables e below (s₁.setTop (mkF m 0 #[.val (.long p0), .second, .unset] [])) _
    refine XS.sipush X0.here hx rfl (hb hby d5_0) ?_
    show Steps p.tables e below (s₁.setTop (mkF m 3 #[.val (.long p0), .second, .unset] [(.int (128 : Int32))])) _
    refine XS.istoreN X0.here hx rfl (hb hby d5_3) rfl (l' := #[.val (.long p0), .second, .val (.int (128 : Int32))]) rfl ?_
    show Steps p.tables e below (s₁.setTop (mkF m 4 #[.val (.long p0), .second, .val (.int (128 : Int32))] [])) _
    refine XS.lloadN X0.here hx rfl (hb hby d5_4) rfl ?_
    show Steps p.tables e below (s₁.setTop (mkF m 5 #[.val (.long p0), .second, .val (.int (128 : Int32))] [(.long p0)])) _
    refine X0.ldc2Long hx hown (mvT hZ (hw _ (List.mem_of_getElem? (i := 29) rfl))) (g := (mkF m 5 #[.val (.long p0), .second, .val (.int (128 : Int32))] [(.long p0)])) rfl (hb hby d5_5) _ ?_
    show Steps p.tables e below (s₁.setTop (mkF m 8 #[.val (.long p0), .second, .val (.int (128 : Int32))] [(.long (-128 : Int64)), (.long p0)])) _
    refine XS.lcmp X0.here hx rfl (hb hby d5_8) rfl ?_
    exact kt)
  by_cases hc47 : p0 < (-128 : Int64)
  · obtain ⟨T48, h48, X48, e48, E48, A48, D48, -, st48⟩ := newO X0 hx hZ hown (hw _ (List.mem_of_getElem? (i := 31) rfl)) (hw _ (List.mem_of_getElem? (i := 32) rfl)) (hw _ (List.mem_of_getElem? (i := 27) rfl)) e0 (g := (mkF m 31 #[.val (.long p0), .second, .val (.int (128 : Int32))] [])) rfl (hb hby d5_31) (by decide) (by decide)
    obtain ⟨b48, g48⟩ : ∃ z, z = h0.size := ⟨_, rfl⟩
    have g_b48 : n0 ≤ b48 := Nat.le_trans Z0 (Nat.le_of_eq g48.symm)
    have sz_b48 : h0.size ≤ b48 := Nat.le_of_eq g48.symm
    rw [← g48] at A48 D48 st48
    have EX48 : Ext hs h48 := own_ext_trans O0 E48
    have KK48 : Keep h0 h48 ([] : List Addr) := Keep.ext (Keep.refl h0 ([] : List Addr)) E48
    have G48_value : Fld Z h48 b48 "java/lang/Long" "value" "J" (.long (0 : Int64)) := D48 (Or.inr (hw _ (List.mem_of_getElem? (i := 45) rfl))) (ty := .long) (by decide)
    obtain ⟨_, _, ⟨T49, L49, k49, n49⟩, -, X49, ⟨Lc49, hQ49, l49, y49, z49⟩, st49⟩ := X48.specialBack hx (y := (⟨"java/lang/Long", "<init>", "(J)V"⟩ : MethodName)) rfl hown (mvT hZ (hw _ (List.mem_of_getElem? (i := 33) rfl))) (mvT hZ (hw _ (List.mem_of_getElem? (i := 34) rfl))) (mvT hZ (hw _ (List.mem_of_getElem? (i := 36) rfl))) (by decide) (backOf (W := 1) (rm6 l Z a0 hw [] b48 p0 wcache hs h48 n0 (Nat.le_trans Z0 KK48.1) WS EX48 Zs A48 g_b48 G48_value ) hZ (hw _ (List.mem_of_getElem? (i := 36) rfl)) (hw _ (List.mem_of_getElem? (i := 27) rfl)) (by decide) (by decide)) (g := (mkF m 36 #[.val (.long p0), .second, .val (.int (128 : Int32))] [(.long p0), (.ref b48), (.ref b48)])) rfl (by rw [hml]; rfl) (Steps.refl _) (a := b48) (argsL := [(.long p0)]) (rest := [(.ref b48)]) (lenOf pd_1 rfl) rfl (by show 2 * 0 + _ ≤ _; exact Nat.le_of_eq rfl) (hb hby d5_36) (fun _ _ => ⟨rfl, e48, (by decide : 1 + 0 ≤ _), (by decide : 1 + 0 ≤ _)⟩)
    dsimp only [Pt.U, Pt.locs, Pt.cells, Pt.slots] at X49 l49 y49 z49 st49 hQ49
    subst l49 y49 z49
    unfold Q6 at hQ49
    obtain ⟨rfl, N49q, EXc49, Kc49, OB49_p0⟩ := hQ49
    have N49 := Fr.app N0 N49q
    have EX49 : Ext hs T49.heap := EXc49
    have KK49 : Keep h0 T49.heap ([] : List Addr) := Keep.trans KK48 Kc49 (allS (Or.inr sz_b48) all0)
    have OBx49_p0 : LongO Z T49.heap n0 b48 p0 := OB49_p0
    obtain ⟨E_b48_49, g_b48_49, G_b48_value_49, -⟩ := OBx49_p0
    obtain ⟨fs, hr, hrun, hended, hW, hsame⟩ := X49.leave (v := some (.ref b48)) (fun h => by rw [Bd.returns] at h; cases h)
    refine ⟨_, _, k46 _ ?_, hrun, hended, _, _, rfl, ?_, ⟨_, rfl⟩, hW, hsame.mono (by decide) (by decide)⟩
    · show Steps p.tables e below (s₁.setTop (mkF m 9 #[.val (.long p0), .second, .val (.int (128 : Int32))] [(.int (lcmpW p0 (-128 : Int64)))])) _
      refine XS.ifYes X0.here hx rfl (pc0 := 9) (pc' := 31) rfl (hb hby d5_9) rfl ((if0 _ _).trans (tlt (own_lcLt (hc47 : p0 < (-128 : Int64)) : (lcmpW p0 (-128 : Int64)) < (0 : Int32))).1) (by decide) (by decide) ?_
      show Steps p.tables e below (s₁.setTop (mkF m 31 #[.val (.long p0), .second, .val (.int (128 : Int32))] [])) _
      refine st48 _ ?_
      show Steps p.tables e below (T48.setTop (mkF m 34 #[.val (.long p0), .second, .val (.int (128 : Int32))] [(.ref b48)])) _
      refine XS.dup X48.here hx rfl (hb hby d5_34) rfl rfl ?_
      show Steps p.tables e below (T48.setTop (mkF m 35 #[.val (.long p0), .second, .val (.int (128 : Int32))] [(.ref b48), (.ref b48)])) _
      refine XS.lloadN X48.here hx rfl (hb hby d5_35) rfl ?_
      show Steps p.tables e below (T48.setTop (mkF m 36 #[.val (.long p0), .second, .val (.int (128 : Int32))] [(.long p0), (.ref b48), (.ref b48)])) _
      refine st49.trans ?_
      show Steps p.tables e below (T49.setTop (mkF m 39 #[.val (.long p0), .second, .val (.int (128 : Int32))] [(.ref b48)])) _
      exact own_retA X49 hx Bd.returns rfl rfl (hb hby d5_39) hr
    · show Q7 Z p0 wcache hs h0 n0 _ T49.heap _
      exact ⟨b48, rfl, N49, EX49, KK49, E_b48_49⟩
  · have k51 : ∀ t, Steps p.tables e below (s₁.setTop (mkF m 17 #[.val (.long p0), .second, .val (.int (128 : Int32))] [(.int (lcmpW p0 (127 : Int64)))])) t → Steps p.tables e below (s₁.setTop (entryFrame m #[(.long p0)] 3)) t := fun t kt => k46 t (by
      show Steps p.tables e below (s₁.setTop (mkF m 9 #[.val (.long p0), .second, .val (.int (128 : Int32))] [(.int (lcmpW p0 (-128 : Int64)))])) _
      refine XS.ifNo X0.here hx rfl (hb hby d5_9) rfl ((if0 _ _).trans (flt (own_lcLf (hc47 : ¬ (p0 < (-128 : Int64))) : ¬ ((lcmpW p0 (-128 : Int64)) < (0 : Int32)))).1) ?_
      show Steps p.tables e below (s₁.setTop (mkF m 12 #[.val (.long p0), .second, .val (.int (128 : Int32))] [])) _
      refine XS.lloadN X0.here hx rfl (hb hby d5_12) rfl ?_
      show Steps p.tables e below (s₁.setTop (mkF m 13 #[.val (.long p0), .second, .val (.int (128 : Int32))] [(.long p0)])) _
      refine X0.ldc2Long hx hown (mvT hZ (hw _ (List.mem_of_getElem? (i := 30) rfl))) (g := (mkF m 13 #[.val (.long p0), .second, .val (.int (128 : Int32))] [(.long p0)])) rfl (hb hby d5_13) _ ?_
      show Steps p.tables e below (s₁.setTop (mkF m 16 #[.val (.long p0), .second, .val (.int (128 : Int32))] [(.long (127 : Int64)), (.long p0)])) _
      refine XS.lcmp X0.here hx rfl (hb hby d5_16) rfl ?_
      exact kt)
    by_cases hc52 : (127 : Int64) < p0
    · obtain ⟨T53, h53, X53, e53, E53, A53, D53, -, st53⟩ := newO X0 hx hZ hown (hw _ (List.mem_of_getElem? (i := 31) rfl)) (hw _ (List.mem_of_getElem? (i := 32) rfl)) (hw _ (List.mem_of_getElem? (i := 27) rfl)) e0 (g := (mkF m 31 #[.val (.long p0), .second, .val (.int (128 : Int32))] [])) rfl (hb hby d5_31) (by decide) (by decide)
      obtain ⟨b53, g53⟩ : ∃ z, z = h0.size := ⟨_, rfl⟩
      have g_b53 : n0 ≤ b53 := Nat.le_trans Z0 (Nat.le_of_eq g53.symm)
      have sz_b53 : h0.size ≤ b53 := Nat.le_of_eq g53.symm
      rw [← g53] at A53 D53 st53
      have EX53 : Ext hs h53 := own_ext_trans O0 E53
      have KK53 : Keep h0 h53 ([] : List Addr) := Keep.ext (Keep.refl h0 ([] : List Addr)) E53
      have G53_value : Fld Z h53 b53 "java/lang/Long" "value" "J" (.long (0 : Int64)) := D53 (Or.inr (hw _ (List.mem_of_getElem? (i := 45) rfl))) (ty := .long) (by decide)
      obtain ⟨_, _, ⟨T54, L54, k54, n54⟩, -, X54, ⟨Lc54, hQ54, l54, y54, z54⟩, st54⟩ := X53.specialBack hx (y := (⟨"java/lang/Long", "<init>", "(J)V"⟩ : MethodName)) rfl hown (mvT hZ (hw _ (List.mem_of_getElem? (i := 33) rfl))) (mvT hZ (hw _ (List.mem_of_getElem? (i := 34) rfl))) (mvT hZ (hw _ (List.mem_of_getElem? (i := 36) rfl))) (by decide) (backOf (W := 1) (rm6 l Z a0 hw [] b53 p0 wcache hs h53 n0 (Nat.le_trans Z0 KK53.1) WS EX53 Zs A53 g_b53 G53_value ) hZ (hw _ (List.mem_of_getElem? (i := 36) rfl)) (hw _ (List.mem_of_getElem? (i := 27) rfl)) (by decide) (by decide)) (g := (mkF m 36 #[.val (.long p0), .second, .val (.int (128 : Int32))] [(.long p0), (.ref b53), (.ref b53)])) rfl (by rw [hml]; rfl) (Steps.refl _) (a := b53) (argsL := [(.long p0)]) (rest := [(.ref b53)]) (lenOf pd_1 rfl) rfl (by show 2 * 0 + _ ≤ _; exact Nat.le_of_eq rfl) (hb hby d5_36) (fun _ _ => ⟨rfl, e53, (by decide : 1 + 0 ≤ _), (by decide : 1 + 0 ≤ _)⟩)
      dsimp only [Pt.U, Pt.locs, Pt.cells, Pt.slots] at X54 l54 y54 z54 st54 hQ54
      subst l54 y54 z54
      unfold Q6 at hQ54
      obtain ⟨rfl, N54q, EXc54, Kc54, OB54_p0⟩ := hQ54
      have N54 := Fr.app N0 N54q
      have EX54 : Ext hs T54.heap := EXc54
      have KK54 : Keep h0 T54.heap ([] : List Addr) := Keep.trans KK53 Kc54 (allS (Or.inr sz_b53) all0)
      have OBx54_p0 : LongO Z T54.heap n0 b53 p0 := OB54_p0
      obtain ⟨E_b53_54, g_b53_54, G_b53_value_54, -⟩ := OBx54_p0
      obtain ⟨fs, hr, hrun, hended, hW, hsame⟩ := X54.leave (v := some (.ref b53)) (fun h => by rw [Bd.returns] at h; cases h)
      refine ⟨_, _, k51 _ ?_, hrun, hended, _, _, rfl, ?_, ⟨_, rfl⟩, hW, hsame.mono (by decide) (by decide)⟩
      · show Steps p.tables e below (s₁.setTop (mkF m 17 #[.val (.long p0), .second, .val (.int (128 : Int32))] [(.int (lcmpW p0 (127 : Int64)))])) _
        refine XS.ifYes X0.here hx rfl (pc0 := 17) (pc' := 31) rfl (hb hby d5_17) rfl ((if0 _ _).trans (tlt (own_lcGt (hc52 : (127 : Int64) < p0) : (0 : Int32) < (lcmpW p0 (127 : Int64)))).2.2.1) (by decide) (by decide) ?_
        show Steps p.tables e below (s₁.setTop (mkF m 31 #[.val (.long p0), .second, .val (.int (128 : Int32))] [])) _
        refine st53 _ ?_
        show Steps p.tables e below (T53.setTop (mkF m 34 #[.val (.long p0), .second, .val (.int (128 : Int32))] [(.ref b53)])) _
        refine XS.dup X53.here hx rfl (hb hby d5_34) rfl rfl ?_
        show Steps p.tables e below (T53.setTop (mkF m 35 #[.val (.long p0), .second, .val (.int (128 : Int32))] [(.ref b53), (.ref b53)])) _
        refine XS.lloadN X53.here hx rfl (hb hby d5_35) rfl ?_
        show Steps p.tables e below (T53.setTop (mkF m 36 #[.val (.long p0), .second, .val (.int (128 : Int32))] [(.long p0), (.ref b53), (.ref b53)])) _
        refine st54.trans ?_
        show Steps p.tables e below (T54.setTop (mkF m 39 #[.val (.long p0), .second, .val (.int (128 : Int32))] [(.ref b53)])) _
        exact own_retA X54 hx Bd.returns rfl rfl (hb hby d5_39) hr
      · show Q7 Z p0 wcache hs h0 n0 _ T54.heap _
        exact ⟨b53, rfl, N54, EX54, KK54, E_b53_54⟩
    · obtain ⟨T56, X56, e56, st56⟩ := getS2 X0 hx hZ hown (host := "") (Or.inl (hw _ (List.mem_of_getElem? (i := 49) rfl))) Via.refl e0 (Scache.ext O0) (g := (mkF m 20 #[.val (.long p0), .second, .val (.int (128 : Int32))] [])) rfl (hb hby d5_20)
      obtain ⟨ix1, ix2⟩ := own_ix hc47 hc52
      obtain ⟨clC, ArC, SC, HC⟩ := Ccache.ext O0
      obtain ⟨rC, atC, EC⟩ := HC _ ix2
      have hinC : ¬ (((p0.toInt32) + (128 : Int32)) < 0 ∨ clC.slots.size ≤ (((p0.toInt32) + (128 : Int32))).toNatClampNeg) := fun q => q.elim ix1 fun q => absurd ix2 (by rw [SC] at q; omega)
      obtain ⟨fs, hr, hrun, hended, hW, hsame⟩ := X56.leave (v := some (.ref rC)) (fun h => by rw [Bd.returns] at h; cases h)
      refine ⟨_, _, k51 _ ?_, hrun, hended, _, _, rfl, ?_, ⟨_, rfl⟩, hW, hsame.mono (by decide) (by decide)⟩
      · show Steps p.tables e below (s₁.setTop (mkF m 17 #[.val (.long p0), .second, .val (.int (128 : Int32))] [(.int (lcmpW p0 (127 : Int64)))])) _
        refine XS.ifNo X0.here hx rfl (hb hby d5_17) rfl ((if0 _ _).trans (flt (own_lcGf (hc52 : ¬ ((127 : Int64) < p0)) : ¬ ((0 : Int32) < (lcmpW p0 (127 : Int64))))).2.2.1) ?_
        show Steps p.tables e below (s₁.setTop (mkF m 20 #[.val (.long p0), .second, .val (.int (128 : Int32))] [])) _
        refine st56 _ ?_
        show Steps p.tables e below (T56.setTop (mkF m 23 #[.val (.long p0), .second, .val (.int (128 : Int32))] [(.ref wcache)])) _
        refine XS.lloadN X56.here hx rfl (hb hby d5_23) rfl ?_
        show Steps p.tables e below (T56.setTop (mkF m 24 #[.val (.long p0), .second, .val (.int (128 : Int32))] [(.long p0), (.ref wcache)])) _
        refine XS.l2i X56.here hx rfl (hb hby d5_24) rfl ?_
        show Steps p.tables e below (T56.setTop (mkF m 25 #[.val (.long p0), .second, .val (.int (128 : Int32))] [(.int (p0.toInt32)), (.ref wcache)])) _
        refine XS.sipush X56.here hx rfl (hb hby d5_25) ?_
        show Steps p.tables e below (T56.setTop (mkF m 28 #[.val (.long p0), .second, .val (.int (128 : Int32))] [(.int (128 : Int32)), (.int (p0.toInt32)), (.ref wcache)])) _
        refine XS.iadd X56.here hx rfl (hb hby d5_28) rfl ?_
        show Steps p.tables e below (T56.setTop (mkF m 29 #[.val (.long p0), .second, .val (.int (128 : Int32))] [(.int ((p0.toInt32) + (128 : Int32))), (.ref wcache)])) _
        refine X56.aaload hx (j := ((p0.toInt32) + (128 : Int32))) (v := (.ref rC)) (by rw [e56]; exact ArC.1) (State.isArrayOf_alike hZ.alike ArC.2.1) rfl ArC.2.2 hinC atC (g := (mkF m 29 #[.val (.long p0), .second, .val (.int (128 : Int32))] [(.int ((p0.toInt32) + (128 : Int32))), (.ref wcache)])) rfl rfl (hb hby d5_29) _ ?_
        show Steps p.tables e below (T56.setTop (mkF m 30 #[.val (.long p0), .second, .val (.int (128 : Int32))] [(.ref rC)])) _
        exact own_retA X56 hx Bd.returns rfl rfl (hb hby d5_30) hr
      · show Q7 Z p0 wcache hs h0 n0 _ T56.heap _
        rw [e56]
        exact ⟨rC, rfl, N0, O0, Keep.refl _ _, EC⟩
theorem pd_2 : parseMethodDescriptor "(JJJJ)V" = some ⟨[.long, .long, .long, .long], none⟩ := by decide +kernel
theorem pd_3 : parseMethodDescriptor "(Ljava/lang/Object;)Z" = some ⟨[(.object "java/lang/Object")], some .boolean⟩ := by decide +kernel
theorem pd_4 : parseMethodDescriptor "(J)Ljava/lang/Long;" = some ⟨[.long], some (.object "java/lang/Long")⟩ := by decide +kernel
theorem pn_3 : plainName "com/example/rialto/rialto/ledger/AccountTotalsEqualsPinLaw" = true := by first | (simp [plainName, overriddenIn]; done) | decide +kernel
theorem ef_0 (m : MethodId) (p0 : Int64) (p1 : Int64) (p2 : Int64) (p3 : Int64) (p4 : Int64) (p5 : Int32) : entryFrame m #[(.long p0), (.long p1), (.long p2), (.long p3), (.long p4), (.int p5)] maxLocals = mkF m 0 #[.val (.long p0), .second, .val (.long p1), .second, .val (.long p2), .second, .val (.long p3), .second, .val (.long p4), .second, .val (.int p5), .unset, .unset, .unset, .unset, .unset, .unset, .unset, .unset, .unset, .unset, .unset, .unset, .unset, .unset, .unset, .unset, .unset, .unset, .unset, .unset, .unset, .unset, .unset, .unset] [] := by first | (simp [entryFrame, mkF, argsToLocals, Value.category, maxLocals]; done) | rfl
def Q0 (Z : State) (p0 : Int64) (p1 : Int64) (p2 : Int64) (p3 : Int64) (p4 : Int64) (p5 : Int32) (wcache : Addr) (h0 : Heap) (n0 : Nat) (v : Option Value) (h : Heap) (L : List Loc) : Prop := v = some (.int 1) ∧ Fr n0 L
set_option maxRecDepth 65536 in
set_option maxHeartbeats 40000000 in
theorem rm0 (l : Launch) (Z : State) (a0 : Array Value) (hw : ∀ d ∈ tables_1, d.before a0 Z = true) (ws : List Jvm.Cond) (p0 : Int64) (p1 : Int64) (p2 : Int64) (p3 : Int64) (p4 : Int64) (p5 : Int32) (wcache : Addr) (h0 : Heap) (n0 : Nat) (Z0 : n0 ≤ h0.size) (W0 : World Z h0 wcache) (Zs : h0.size ≤ n0) :
    MetFree l x (head1 (Jvm.Cond.code x code maxLocals ret :: ws) room_1) (fun a U => a = #[(.long p0), (.long p1), (.long p2), (.long p3), (.long p4), (.int p5)] ∧ Z.Warmed39 U.vm ∧ U.heap = h0) (fun _ _ _ _ _ => True) (fun _ U o U' => ∃ v L, o = .returned v ∧ Q0 Z p0 p1 p2 p3 p4 p5 wcache h0 n0 v U'.heap L ∧ FrameEnd U o U' L room_1.cells room_1.slots) := by
  refine MetFree.of_bodySF (plainFor_of_name pn_3) hisR ?_
  intro p e s m args below meth c s₁ Bd hml0 hP hK
  obtain ⟨rfl, hZ, hh⟩ := hP
  have hx := Bd.exec
  have hby := Bd.bytes
  have hml : c.maxLocals = 35 := hml0
  have hown : s.vm.findClass "com/example/rialto/rialto/ledger/AccountTotalsEqualsPinLaw" = some m.cls := findClass_of_methodNamed Bd.named
  have hnm := (name_of_methodNamed Bd.named Bd.method).1
  have X0 : Stand p l e room_1 s m #[(.long p0), (.long p1), (.long p2), (.long p3), (.long p4), (.int p5)] below meth c s₁ [] 0 0 := Stand.of_body Bd
  have e0 : s₁.heap = h0 := by rw [← hh, Bd.state]; rfl
  have N0 := Fr.nil n0
  have W1 := W0
  obtain ⟨Scache, Ccache, -⟩ := W1
  have pre0 : ∀ t, Steps p.tables e below (s₁.setTop (mkF m 0 #[.val (.long p0), .second, .val (.long p1), .second, .val (.long p2), .second, .val (.long p3), .second, .val (.long p4), .second, .val (.int p5), .unset, .unset, .unset, .unset, .unset, .unset, .unset, .unset, .unset, .unset, .unset, .unset, .unset, .unset, .unset, .unset, .unset, .unset, .unset, .unset, .unset, .unset, .unset, .unset] [])) t → Steps p.tables e below (s₁.setTop (entryFrame m #[(.long p0), (.long p1), (.long p2), (.long p3), (.long p4), (.int p5)] maxLocals)) t := fun t k => castTop (ef_0 m p0 p1 p2 p3 p4 p5) k
  obtain ⟨j57, hj57⟩ : ∃ z, z = (p0 &&& (9223372036854775807 : Int64)) := ⟨_, rfl⟩
  have nn_j57 : ¬ j57 < (0 : Int64) := by rw [hj57]; exact own_max _
  obtain ⟨j58, hj58⟩ : ∃ z, z = (p1 &&& (9223372036854775807 : Int64)) := ⟨_, rfl⟩
  have nn_j58 : ¬ j58 < (0 : Int64) := by rw [hj58]; exact own_max _
  obtain ⟨j59, hj59⟩ : ∃ z, z = (p2 &&& (9223372036854775807 : Int64)) := ⟨_, rfl⟩
  have nn_j59 : ¬ j59 < (0 : Int64) := by rw [hj59]; exact own_max _
  obtain ⟨j60, hj60⟩ : ∃ z, z = (p3 &&& (9223372036854775807 : Int64)) := ⟨_, rfl⟩
  have nn_j60 : ¬ j60 < (0 : Int64) := by rw [hj60]; exact own_max _
  have k61 : ∀ t, Steps p.tables e below (s₁.setTop (mkF m 32 #[.val (.long p0), .second, .val (.long p1), .second, .val (.long p2), .second, .val (.long p3), .second, .val (.long p4), .second, .val (.int p5), .val (.long j57), .second, .val (.long j58), .second, .val (.long j59), .second, .val (.long j60), .second, .unset, .unset, .unset, .unset, .unset, .unset, .unset, .unset, .unset, .unset, .unset, .unset, .unset, .unset, .unset, .unset] [(.long p4)])) t → Steps p.tables e below (s₁.setTop (entryFrame m #[(.long p0), (.long p1), (.long p2), (.long p3), (.long p4), (.int p5)] maxLocals)) t := fun t kt => pre0 t (by
    show Steps p.tables e below (s₁.setTop (mkF m 0 #[.val (.long p0), .second, .val (.long p1), .second, .val (.long p2), .second, .val (.long p3), .second, .val (.long p4), .second, .val (.int p5), .unset, .unset, .unset, .unset, .unset, .unset, .unset, .unset, .unset, .unset, .unset, .unset, .unset, .unset, .unset, .unset, .unset, .unset, .unset, .unset, .unset, .unset, .unset, .unset] [])) _
    refine XS.lloadN X0.here hx rfl (hb hby at_0) rfl ?_
    show Steps p.tables e below (s₁.setTop (mkF m 1 #[.val (.long p0), .second, .val (.long p1), .second, .val (.long p2), .second, .val (.long p3), .second, .val (.long p4), .second, .val (.int p5), .unset, .unset, .unset, .unset, .unset, .unset, .unset, .unset, .unset, .unset, .unset, .unset, .unset, .unset, .unset, .unset, .unset, .unset, .unset, .unset, .unset, .unset, .unset, .unset] [(.long p0)])) _
    refine X0.ldc2Long hx hown (mvT hZ (hw _ (List.mem_of_getElem? (i := 0) rfl))) (g := (mkF m 1 #[.val (.long p0), .second, .val (.long p1), .second, .val (.long p2), .second, .val (.long p3), .second, .val (.long p4), .second, .val (.int p5), .unset, .unset, .unset, .unset, .unset, .unset, .unset, .unset, .unset, .unset, .unset, .unset, .unset, .unset, .unset, .unset, .unset, .unset, .unset, .unset, .unset, .unset, .unset, .unset] [(.long p0)])) rfl (hb hby at_1) _ ?_
    show Steps p.tables e below (s₁.setTop (mkF m 4 #[.val (.long p0), .second, .val (.long p1), .second, .val (.long p2), .second, .val (.long p3), .second, .val (.long p4), .second, .val (.int p5), .unset, .unset, .unset, .unset, .unset, .unset, .unset, .unset, .unset, .unset, .unset, .unset, .unset, .unset, .unset, .unset, .unset, .unset, .unset, .unset, .unset, .unset, .unset, .unset] [(.long (9223372036854775807 : Int64)), (.long p0)])) _
    refine XS.land X0.here hx rfl (hb hby at_4) rfl ?_
    rw [← hj57]
    show Steps p.tables e below (s₁.setTop (mkF m 5 #[.val (.long p0), .second, .val (.long p1), .second, .val (.long p2), .second, .val (.long p3), .second, .val (.long p4), .second, .val (.int p5), .unset, .unset, .unset, .unset, .unset, .unset, .unset, .unset, .unset, .unset, .unset, .unset, .unset, .unset, .unset, .unset, .unset, .unset, .unset, .unset, .unset, .unset, .unset, .unset] [(.long j57)])) _
    refine XS.lstore X0.here hx rfl (hb hby at_5) rfl (l' := #[.val (.long p0), .second, .val (.long p1), .second, .val (.long p2), .second, .val (.long p3), .second, .val (.long p4), .second, .val (.int p5), .val (.long j57), .second, .unset, .unset, .unset, .unset, .unset, .unset, .unset, .unset, .unset, .unset, .unset, .unset, .unset, .unset, .unset, .unset, .unset, .unset, .unset, .unset, .unset, .unset]) rfl ?_
    show Steps p.tables e below (s₁.setTop (mkF m 7 #[.val (.long p0), .second, .val (.long p1), .second, .val (.long p2), .second, .val (.long p3), .second, .val (.long p4), .second, .val (.int p5), .val (.long j57), .second, .unset, .unset, .unset, .unset, .unset, .unset, .unset, .unset, .unset, .unset, .unset, .unset, .unset, .unset, .unset, .unset, .unset, .unset, .unset, .unset, .unset, .unset] [])) _
    refine XS.lloadN X0.here hx rfl (hb hby at_7) rfl ?_
    show Steps p.tables e below (s₁.setTop (mkF m 8 #[.val (.long p0), .second, .val (.long p1), .second, .val (.long p2), .second, .val (.long p3), .second, .val (.long p4), .second, .val (.int p5), .val (.long j57), .second, .unset, .unset, .unset, .unset, .unset, .unset, .unset, .unset, .unset, .unset, .unset, .unset, .unset, .unset, .unset, .unset, .unset, .unset, .unset, .unset, .unset, .unset] [(.long p1)])) _
    refine X0.ldc2Long hx hown (mvT hZ (hw _ (List.mem_of_getElem? (i := 0) rfl))) (g := (mkF m 8 #[.val (.long p0), .second, .val (.long p1), .second, .val (.long p2), .second, .val (.long p3), .second, .val (.long p4), .second, .val (.int p5), .val (.long j57), .second, .unset, .unset, .unset, .unset, .unset, .unset, .unset, .unset, .unset, .unset, .unset, .unset, .unset, .unset, .unset, .unset, .unset, .unset, .unset, .unset, .unset, .unset] [(.long p1)])) rfl (hb hby at_8) _ ?_
    show Steps p.tables e below (s₁.setTop (mkF m 11 #[.val (.long p0), .second, .val (.long p1), .second, .val (.long p2), .second, .val (.long p3), .second, .val (.long p4), .second, .val (.int p5), .val (.long j57), .second, .unset, .unset, .unset, .unset, .unset, .unset, .unset, .unset, .unset, .unset, .unset, .unset, .unset, .unset, .unset, .unset, .unset, .unset, .unset, .unset, .unset, .unset] [(.long (9223372036854775807 : Int64)), (.long p1)])) _
    refine XS.land X0.here hx rfl (hb hby at_11) rfl ?_
    rw [← hj58]
    show Steps p.tables e below (s₁.setTop (mkF m 12 #[.val (.long p0), .second, .val (.long p1), .second, .val (.long p2), .second, .val (.long p3), .second, .val (.long p4), .second, .val (.int p5), .val (.long j57), .second, .unset, .unset, .unset, .unset, .unset, .unset, .unset, .unset, .unset, .unset, .unset, .unset, .unset, .unset, .unset, .unset, .unset, .unset, .unset, .unset, .unset, .unset] [(.long j58)])) _
    refine XS.lstore X0.here hx rfl (hb hby at_12) rfl (l' := #[.val (.long p0), .second, .val (.long p1), .second, .val (.long p2), .second, .val (.long p3), .second, .val (.long p4), .second, .val (.int p5), .val (.long j57), .second, .val (.long j58), .second, .unset, .unset, .unset, .unset, .unset, .unset, .unset, .unset, .unset, .unset, .unset, .unset, .unset, .unset, .unset, .unset, .unset, .unset, .unset, .unset]) rfl ?_
    show Steps p.tables e below (s₁.setTop (mkF m 14 #[.val (.long p0), .second, .val (.long p1), .second, .val (.long p2), .second, .val (.long p3), .second, .val (.long p4), .second, .val (.int p5), .val (.long j57), .second, .val (.long j58), .second, .unset, .unset, .unset, .unset, .unset, .unset, .unset, .unset, .unset, .unset, .unset, .unset, .unset, .unset, .unset, .unset, .unset, .unset, .unset, .unset] [])) _
    refine XS.lload X0.here hx rfl (hb hby at_14) rfl ?_
    show Steps p.tables e below (s₁.setTop (mkF m 16 #[.val (.long p0), .second, .val (.long p1), .second, .val (.long p2), .second, .val (.long p3), .second, .val (.long p4), .second, .val (.int p5), .val (.long j57), .second, .val (.long j58), .second, .unset, .unset, .unset, .unset, .unset, .unset, .unset, .unset, .unset, .unset, .unset, .unset, .unset, .unset, .unset, .unset, .unset, .unset, .unset, .unset] [(.long p2)])) _
    refine X0.ldc2Long hx hown (mvT hZ (hw _ (List.mem_of_getElem? (i := 0) rfl))) (g := (mkF m 16 #[.val (.long p0), .second, .val (.long p1), .second, .val (.long p2), .second, .val (.long p3), .second, .val (.long p4), .second, .val (.int p5), .val (.long j57), .second, .val (.long j58), .second, .unset, .unset, .unset, .unset, .unset, .unset, .unset, .unset, .unset, .unset, .unset, .unset, .unset, .unset, .unset, .unset, .unset, .unset, .unset, .unset] [(.long p2)])) rfl (hb hby at_16) _ ?_
    show Steps p.tables e below (s₁.setTop (mkF m 19 #[.val (.long p0), .second, .val (.long p1), .second, .val (.long p2), .second, .val (.long p3), .second, .val (.long p4), .second, .val (.int p5), .val (.long j57), .second, .val (.long j58), .second, .unset, .unset, .unset, .unset, .unset, .unset, .unset, .unset, .unset, .unset, .unset, .unset, .unset, .unset, .unset, .unset, .unset, .unset, .unset, .unset] [(.long (9223372036854775807 : Int64)), (.long p2)])) _
    refine XS.land X0.here hx rfl (hb hby at_19) rfl ?_
    rw [← hj59]
    show Steps p.tables e below (s₁.setTop (mkF m 20 #[.val (.long p0), .second, .val (.long p1), .second, .val (.long p2), .second, .val (.long p3), .second, .val (.long p4), .second, .val (.int p5), .val (.long j57), .second, .val (.long j58), .second, .unset, .unset, .unset, .unset, .unset, .unset, .unset, .unset, .unset, .unset, .unset, .unset, .unset, .unset, .unset, .unset, .unset, .unset, .unset, .unset] [(.long j59)])) _
    refine XS.lstore X0.here hx rfl (hb hby at_20) rfl (l' := #[.val (.long p0), .second, .val (.long p1), .second, .val (.long p2), .second, .val (.long p3), .second, .val (.long p4), .second, .val (.int p5), .val (.long j57), .second, .val (.long j58), .second, .val (.long j59), .second, .unset, .unset, .unset, .unset, .unset, .unset, .unset, .unset, .unset, .unset, .unset, .unset, .unset, .unset, .unset, .unset, .unset, .unset]) rfl ?_
    show Steps p.tables e below (s₁.setTop (mkF m 22 #[.val (.long p0), .second, .val (.long p1), .second, .val (.long p2), .second, .val (.long p3), .second, .val (.long p4), .second, .val (.int p5), .val (.long j57), .second, .val (.long j58), .second, .val (.long j59), .second, .unset, .unset, .unset, .unset, .unset, .unset, .unset, .unset, .unset, .unset, .unset, .unset, .unset, .unset, .unset, .unset, .unset, .unset] [])) _
    refine XS.lload X0.here hx rfl (hb hby at_22) rfl ?_
    show Steps p.tables e below (s₁.setTop (mkF m 24 #[.val (.long p0), .second, .val (.long p1), .second, .val (.long p2), .second, .val (.long p3), .second, .val (.long p4), .second, .val (.int p5), .val (.long j57), .second, .val (.long j58), .second, .val (.long j59), .second, .unset, .unset, .unset, .unset, .unset, .unset, .unset, .unset, .unset, .unset, .unset, .unset, .unset, .unset, .unset, .unset, .unset, .unset] [(.long p3)])) _
    refine X0.ldc2Long hx hown (mvT hZ (hw _ (List.mem_of_getElem? (i := 0) rfl))) (g := (mkF m 24 #[.val (.long p0), .second, .val (.long p1), .second, .val (.long p2), .second, .val (.long p3), .second, .val (.long p4), .second, .val (.int p5), .val (.long j57), .second, .val (.long j58), .second, .val (.long j59), .second, .unset, .unset, .unset, .unset, .unset, .unset, .unset, .unset, .unset, .unset, .unset, .unset, .unset, .unset, .unset, .unset, .unset, .unset] [(.long p3)])) rfl (hb hby at_24) _ ?_
    show Steps p.tables e below (s₁.setTop (mkF m 27 #[.val (.long p0), .second, .val (.long p1), .second, .val (.long p2), .second, .val (.long p3), .second, .val (.long p4), .second, .val (.int p5), .val (.long j57), .second, .val (.long j58), .second, .val (.long j59), .second, .unset, .unset, .unset, .unset, .unset, .unset, .unset, .unset, .unset, .unset, .unset, .unset, .unset, .unset, .unset, .unset, .unset, .unset] [(.long (9223372036854775807 : Int64)), (.long p3)])) _
    refine XS.land X0.here hx rfl (hb hby at_27) rfl ?_
    rw [← hj60]
    show Steps p.tables e below (s₁.setTop (mkF m 28 #[.val (.long p0), .second, .val (.long p1), .second, .val (.long p2), .second, .val (.long p3), .second, .val (.long p4), .second, .val (.int p5), .val (.long j57), .second, .val (.long j58), .second, .val (.long j59), .second, .unset, .unset, .unset, .unset, .unset, .unset, .unset, .unset, .unset, .unset, .unset, .unset, .unset, .unset, .unset, .unset, .unset, .unset] [(.long j60)])) _
    refine XS.lstore X0.here hx rfl (hb hby at_28) rfl (l' := #[.val (.long p0), .second, .val (.long p1), .second, .val (.long p2), .second, .val (.long p3), .second, .val (.long p4), .second, .val (.int p5), .val (.long j57), .second, .val (.long j58), .second, .val (.long j59), .second, .val (.long j60), .second, .unset, .unset, .unset, .unset, .unset, .unset, .unset, .unset, .unset, .unset, .unset, .unset, .unset, .unset, .unset, .unset]) rfl ?_
    show Steps p.tables e below (s₁.setTop (mkF m 30 #[.val (.long p0), .second, .val (.long p1), .second, .val (.long p2), .second, .val (.long p3), .second, .val (.long p4), .second, .val (.int p5), .val (.long j57), .second, .val (.long j58), .second, .val (.long j59), .second, .val (.long j60), .second, .unset, .unset, .unset, .unset, .unset, .unset, .unset, .unset, .unset, .unset, .unset, .unset, .unset, .unset, .unset, .unset] [])) _
    refine XS.lload X0.here hx rfl (hb hby at_30) rfl ?_
    exact kt)
  obtain ⟨j62, hj62⟩ : ∃ z, z = (p4 &&& (9223372036854775807 : Int64)) := ⟨_, rfl⟩
  have nn_j62 : ¬ j62 < (0 : Int64) := by rw [hj62]; exact own_max _
  have Mq63 : ∃ q63 : Int64, (q63 = j57 ∨ q63 = j62) ∧ ∀ t, Steps p.tables e below (s₁.setTop (mkF m 52 #[.val (.long p0), .second, .val (.long p1), .second, .val (.long p2), .second, .val (.long p3), .second, .val (.long p4), .second, .val (.int p5), .val (.long j57), .second, .val (.long j58), .second, .val (.long j59), .second, .val (.long j60), .second, .val (.long j62), .second, .unset, .unset, .unset, .unset, .unset, .unset, .unset, .unset, .unset, .unset, .unset, .unset, .unset, .unset] [(.long q63)])) t → Steps p.tables e below (s₁.setTop (mkF m 42 #[.val (.long p0), .second, .val (.long p1), .second, .val (.long p2), .second, .val (.long p3), .second, .val (.long p4), .second, .val (.int p5), .val (.long j57), .second, .val (.long j58), .second, .val (.long j59), .second, .val (.long j60), .second, .val (.long j62), .second, .unset, .unset, .unset, .unset, .unset, .unset, .unset, .unset, .unset, .unset, .unset, .unset, .unset, .unset] [(.int (p5 &&& (1 : Int32)))])) t := by
    by_cases hmq63 : (p5 &&& (1 : Int32)) = (0 : Int32)
    · refine ⟨j57, Or.inl rfl, fun t kt => ?_⟩
      show Steps p.tables e below (s₁.setTop (mkF m 42 #[.val (.long p0), .second, .val (.long p1), .second, .val (.long p2), .second, .val (.long p3), .second, .val (.long p4), .second, .val (.int p5), .val (.long j57), .second, .val (.long j58), .second, .val (.long j59), .second, .val (.long j60), .second, .val (.long j62), .second, .unset, .unset, .unset, .unset, .unset, .unset, .unset, .unset, .unset, .unset, .unset, .unset, .unset, .unset] [(.int (p5 &&& (1 : Int32)))])) _
      refine XS.ifYes X0.here hx rfl (pc0 := 42) (pc' := 50) rfl (hb hby at_42) rfl ((if0 _ _).trans (teq (hmq63 : (p5 &&& (1 : Int32)) = (0 : Int32))).1) (by decide) (by decide) ?_
      show Steps p.tables e below (s₁.setTop (mkF m 50 #[.val (.long p0), .second, .val (.long p1), .second, .val (.long p2), .second, .val (.long p3), .second, .val (.long p4), .second, .val (.int p5), .val (.long j57), .second, .val (.long j58), .second, .val (.long j59), .second, .val (.long j60), .second, .val (.long j62), .second, .unset, .unset, .unset, .unset, .unset, .unset, .unset, .unset, .unset, .unset, .unset, .unset, .unset, .unset] [])) _
      refine XS.lload X0.here hx rfl (hb hby at_50) rfl ?_
      exact kt
    · refine ⟨j62, Or.inr rfl, fun t kt => ?_⟩
      show Steps p.tables e below (s₁.setTop (mkF m 42 #[.val (.long p0), .second, .val (.long p1), .second, .val (.long p2), .second, .val (.long p3), .second, .val (.long p4), .second, .val (.int p5), .val (.long j57), .second, .val (.long j58), .second, .val (.long j59), .second, .val (.long j60), .second, .val (.long j62), .second, .unset, .unset, .unset, .unset, .unset, .unset, .unset, .unset, .unset, .unset, .unset, .unset, .unset, .unset] [(.int (p5 &&& (1 : Int32)))])) _
      refine XS.ifNo X0.here hx rfl (hb hby at_42) rfl ((if0 _ _).trans (feq (hmq63 : ¬ ((p5 &&& (1 : Int32)) = (0 : Int32)))).1) ?_
      show Steps p.tables e below (s₁.setTop (mkF m 45 #[.val (.long p0), .second, .val (.long p1), .second, .val (.long p2), .second, .val (.long p3), .second, .val (.long p4), .second, .val (.int p5), .val (.long j57), .second, .val (.long j58), .second, .val (.long j59), .second, .val (.long j60), .second, .val (.long j62), .second, .unset, .unset, .unset, .unset, .unset, .unset, .unset, .unset, .unset, .unset, .unset, .unset, .unset, .unset] [])) _
      refine XS.lload X0.here hx rfl (hb hby at_45) rfl ?_
      show Steps p.tables e below (s₁.setTop (mkF m 47 #[.val (.long p0), .second, .val (.long p1), .second, .val (.long p2), .second, .val (.long p3), .second, .val (.long p4), .second, .val (.int p5), .val (.long j57), .second, .val (.long j58), .second, .val (.long j59), .second, .val (.long j60), .second, .val (.long j62), .second, .unset, .unset, .unset, .unset, .unset, .unset, .unset, .unset, .unset, .unset, .unset, .unset, .unset, .unset] [(.long j62)])) _
      refine XS.goto X0.here hx rfl (pc0 := 47) (pc' := 52) rfl (hb hby at_47) (by decide) (by decide) ?_
      exact kt
  obtain ⟨q63, hq63, kmq63⟩ := Mq63
  have nn_q63 : ¬ q63 < (0 : Int64) := by rcases hq63 with e | e <;> rw [e] <;> assumption
  have Mq64 : ∃ q64 : Int64, (q64 = j58 ∨ q64 = j62) ∧ ∀ t, Steps p.tables e below (s₁.setTop (mkF m 68 #[.val (.long p0), .second, .val (.long p1), .second, .val (.long p2), .second, .val (.long p3), .second, .val (.long p4), .second, .val (.int p5), .val (.long j57), .second, .val (.long j58), .second, .val (.long j59), .second, .val (.long j60), .second, .val (.long j62), .second, .val (.long q63), .second, .unset, .unset, .unset, .unset, .unset, .unset, .unset, .unset, .unset, .unset, .unset, .unset] [(.long q64)])) t → Steps p.tables e below (s₁.setTop (mkF m 58 #[.val (.long p0), .second, .val (.long p1), .second, .val (.long p2), .second, .val (.long p3), .second, .val (.long p4), .second, .val (.int p5), .val (.long j57), .second, .val (.long j58), .second, .val (.long j59), .second, .val (.long j60), .second, .val (.long j62), .second, .val (.long q63), .second, .unset, .unset, .unset, .unset, .unset, .unset, .unset, .unset, .unset, .unset, .unset, .unset] [(.int (p5 &&& (2 : Int32)))])) t := by
    by_cases hmq64 : (p5 &&& (2 : Int32)) = (0 : Int32)
    · refine ⟨j58, Or.inl rfl, fun t kt => ?_⟩
      show Steps p.tables e below (s₁.setTop (mkF m 58 #[.val (.long p0), .second, .val (.long p1), .second, .val (.long p2), .second, .val (.long p3), .second, .val (.long p4), .second, .val (.int p5), .val (.long j57), .second, .val (.long j58), .second, .val (.long j59), .second, .val (.long j60), .second, .val (.long j62), .second, .val (.long q63), .second, .unset, .unset, .unset, .unset, .unset, .unset, .unset, .unset, .unset, .unset, .unset, .unset] [(.int (p5 &&& (2 : Int32)))])) _
      refine XS.ifYes X0.here hx rfl (pc0 := 58) (pc' := 66) rfl (hb hby at_58) rfl ((if0 _ _).trans (teq (hmq64 : (p5 &&& (2 : Int32)) = (0 : Int32))).1) (by decide) (by decide) ?_
      show Steps p.tables e below (s₁.setTop (mkF m 66 #[.val (.long p0), .second, .val (.long p1), .second, .val (.long p2), .second, .val (.long p3), .second, .val (.long p4), .second, .val (.int p5), .val (.long j57), .second, .val (.long j58), .second, .val (.long j59), .second, .val (.long j60), .second, .val (.long j62), .second, .val (.long q63), .second, .unset, .unset, .unset, .unset, .unset, .unset, .unset, .unset, .unset, .unset, .unset, .unset] [])) _
      refine XS.lload X0.here hx rfl (hb hby at_66) rfl ?_
      exact kt
    · refine ⟨j62, Or.inr rfl, fun t kt => ?_⟩
      show Steps p.tables e below (s₁.setTop (mkF m 58 #[.val (.long p0), .second, .val (.long p1), .second, .val (.long p2), .second, .val (.long p3), .second, .val (.long p4), .second, .val (.int p5), .val (.long j57), .second, .val (.long j58), .second, .val (.long j59), .second, .val (.long j60), .second, .val (.long j62), .second, .val (.long q63), .second, .unset, .unset, .unset, .unset, .unset, .unset, .unset, .unset, .unset, .unset, .unset, .unset] [(.int (p5 &&& (2 : Int32)))])) _
      refine XS.ifNo X0.here hx rfl (hb hby at_58) rfl ((if0 _ _).trans (feq (hmq64 : ¬ ((p5 &&& (2 : Int32)) = (0 : Int32)))).1) ?_
      show Steps p.tables e below (s₁.setTop (mkF m 61 #[.val (.long p0), .second, .val (.long p1), .second, .val (.long p2), .second, .val (.long p3), .second, .val (.long p4), .second, .val (.int p5), .val (.long j57), .second, .val (.long j58), .second, .val (.long j59), .second, .val (.long j60), .second, .val (.long j62), .second, .val (.long q63), .second, .unset, .unset, .unset, .unset, .unset, .unset, .unset, .unset, .unset, .unset, .unset, .unset] [])) _
      refine XS.lload X0.here hx rfl (hb hby at_61) rfl ?_
      show Steps p.tables e below (s₁.setTop (mkF m 63 #[.val (.long p0), .second, .val (.long p1), .second, .val (.long p2), .second, .val (.long p3), .second, .val (.long p4), .second, .val (.int p5), .val (.long j57), .second, .val (.long j58), .second, .val (.long j59), .second, .val (.long j60), .second, .val (.long j62), .second, .val (.long q63), .second, .unset, .unset, .unset, .unset, .unset, .unset, .unset, .unset, .unset, .unset, .unset, .unset] [(.long j62)])) _
      refine XS.goto X0.here hx rfl (pc0 := 63) (pc' := 68) rfl (hb hby at_63) (by decide) (by decide) ?_
      exact kt
  obtain ⟨q64, hq64, kmq64⟩ := Mq64
  have nn_q64 : ¬ q64 < (0 : Int64) := by rcases hq64 with e | e <;> rw [e] <;> assumption
  have Mq65 : ∃ q65 : Int64, (q65 = j59 ∨ q65 = j62) ∧ ∀ t, Steps p.tables e below (s₁.setTop (mkF m 84 #[.val (.long p0), .second, .val (.long p1), .second, .val (.long p2), .second, .val (.long p3), .second, .val (.long p4), .second, .val (.int p5), .val (.long j57), .second, .val (.long j58), .second, .val (.long j59), .second, .val (.long j60), .second, .val (.long j62), .second, .val (.long q63), .second, .val (.long q64), .second, .unset, .unset, .unset, .unset, .unset, .unset, .unset, .unset, .unset, .unset] [(.long q65)])) t → Steps p.tables e below (s₁.setTop (mkF m 74 #[.val (.long p0), .second, .val (.long p1), .second, .val (.long p2), .second, .val (.long p3), .second, .val (.long p4), .second, .val (.int p5), .val (.long j57), .second, .val (.long j58), .second, .val (.long j59), .second, .val (.long j60), .second, .val (.long j62), .second, .val (.long q63), .second, .val (.long q64), .second, .unset, .unset, .unset, .unset, .unset, .unset, .unset, .unset, .unset, .unset] [(.int (p5 &&& (4 : Int32)))])) t := by
    by_cases hmq65 : (p5 &&& (4 : Int32)) = (0 : Int32)
    · refine ⟨j59, Or.inl rfl, fun t kt => ?_⟩
      show Steps p.tables e below (s₁.setTop (mkF m 74 #[.val (.long p0), .second, .val (.long p1), .second, .val (.long p2), .second, .val (.long p3), .second, .val (.long p4), .second, .val (.int p5), .val (.long j57), .second, .val (.long j58), .second, .val (.long j59), .second, .val (.long j60), .second, .val (.long j62), .second, .val (.long q63), .second, .val (.long q64), .second, .unset, .unset, .unset, .unset, .unset, .unset, .unset, .unset, .unset, .unset] [(.int (p5 &&& (4 : Int32)))])) _
      refine XS.ifYes X0.here hx rfl (pc0 := 74) (pc' := 82) rfl (hb hby at_74) rfl ((if0 _ _).trans (teq (hmq65 : (p5 &&& (4 : Int32)) = (0 : Int32))).1) (by decide) (by decide) ?_
      show Steps p.tables e below (s₁.setTop (mkF m 82 #[.val (.long p0), .second, .val (.long p1), .second, .val (.long p2), .second, .val (.long p3), .second, .val (.long p4), .second, .val (.int p5), .val (.long j57), .second, .val (.long j58), .second, .val (.long j59), .second, .val (.long j60), .second, .val (.long j62), .second, .val (.long q63), .second, .val (.long q64), .second, .unset, .unset, .unset, .unset, .unset, .unset, .unset, .unset, .unset, .unset] [])) _
      refine XS.lload X0.here hx rfl (hb hby at_82) rfl ?_
      exact kt
    · refine ⟨j62, Or.inr rfl, fun t kt => ?_⟩
      show Steps p.tables e below (s₁.setTop (mkF m 74 #[.val (.long p0), .second, .val (.long p1), .second, .val (.long p2), .second, .val (.long p3), .second, .val (.long p4), .second, .val (.int p5), .val (.long j57), .second, .val (.long j58), .second, .val (.long j59), .second, .val (.long j60), .second, .val (.long j62), .second, .val (.long q63), .second, .val (.long q64), .second, .unset, .unset, .unset, .unset, .unset, .unset, .unset, .unset, .unset, .unset] [(.int (p5 &&& (4 : Int32)))])) _
      refine XS.ifNo X0.here hx rfl (hb hby at_74) rfl ((if0 _ _).trans (feq (hmq65 : ¬ ((p5 &&& (4 : Int32)) = (0 : Int32)))).1) ?_
      show Steps p.tables e below (s₁.setTop (mkF m 77 #[.val (.long p0), .second, .val (.long p1), .second, .val (.long p2), .second, .val (.long p3), .second, .val (.long p4), .second, .val (.int p5), .val (.long j57), .second, .val (.long j58), .second, .val (.long j59), .second, .val (.long j60), .second, .val (.long j62), .second, .val (.long q63), .second, .val (.long q64), .second, .unset, .unset, .unset, .unset, .unset, .unset, .unset, .unset, .unset, .unset] [])) _
      refine XS.lload X0.here hx rfl (hb hby at_77) rfl ?_
      show Steps p.tables e below (s₁.setTop (mkF m 79 #[.val (.long p0), .second, .val (.long p1), .second, .val (.long p2), .second, .val (.long p3), .second, .val (.long p4), .second, .val (.int p5), .val (.long j57), .second, .val (.long j58), .second, .val (.long j59), .second, .val (.long j60), .second, .val (.long j62), .second, .val (.long q63), .second, .val (.long q64), .second, .unset, .unset, .unset, .unset, .unset, .unset, .unset, .unset, .unset, .unset] [(.long j62)])) _
      refine XS.goto X0.here hx rfl (pc0 := 79) (pc' := 84) rfl (hb hby at_79) (by decide) (by decide) ?_
      exact kt
  obtain ⟨q65, hq65, kmq65⟩ := Mq65
  have nn_q65 : ¬ q65 < (0 : Int64) := by rcases hq65 with e | e <;> rw [e] <;> assumption
  have k66 : ∀ t, Steps p.tables e below (s₁.setTop (mkF m 86 #[.val (.long p0), .second, .val (.long p1), .second, .val (.long p2), .second, .val (.long p3), .second, .val (.long p4), .second, .val (.int p5), .val (.long j57), .second, .val (.long j58), .second, .val (.long j59), .second, .val (.long j60), .second, .val (.long j62), .second, .val (.long q63), .second, .val (.long q64), .second, .val (.long q65), .second, .unset, .unset, .unset, .unset, .unset, .unset, .unset, .unset] [])) t → Steps p.tables e below (s₁.setTop (entryFrame m #[(.long p0), (.long p1), (.long p2), (.long p3), (.long p4), (.int p5)] maxLocals)) t := fun t kt => k61 t (by
    show Steps p.tables e below (s₁.setTop (mkF m 32 #[.val (.long p0), .second, .val (.long p1), .second, .val (.long p2), .second, .val (.long p3), .second, .val (.long p4), .second, .val (.int p5), .val (.long j57), .second, .val (.long j58), .second, .val (.long j59), .second, .val (.long j60), .second, .unset, .unset, .unset, .unset, .unset, .unset, .unset, .unset, .unset, .unset, .unset, .unset, .unset, .unset, .unset, .unset] [(.long p4)])) _
    refine X0.ldc2Long hx hown (mvT hZ (hw _ (List.mem_of_getElem? (i := 0) rfl))) (g := (mkF m 32 #[.val (.long p0), .second, .val (.long p1), .second, .val (.long p2), .second, .val (.long p3), .second, .val (.long p4), .second, .val (.int p5), .val (.long j57), .second, .val (.long j58), .second, .val (.long j59), .second, .val (.long j60), .second, .unset, .unset, .unset, .unset, .unset, .unset, .unset, .unset, .unset, .unset, .unset, .unset, .unset, .unset, .unset, .unset] [(.long p4)])) rfl (hb hby at_32) _ ?_
    show Steps p.tables e below (s₁.setTop (mkF m 35 #[.val (.long p0), .second, .val (.long p1), .second, .val (.long p2), .second, .val (.long p3), .second, .val (.long p4), .second, .val (.int p5), .val (.long j57), .second, .val (.long j58), .second, .val (.long j59), .second, .val (.long j60), .second, .unset, .unset, .unset, .unset, .unset, .unset, .unset, .unset, .unset, .unset, .unset, .unset, .unset, .unset, .unset, .unset] [(.long (9223372036854775807 : Int64)), (.long p4)])) _
    refine XS.land X0.here hx rfl (hb hby at_35) rfl ?_
    rw [← hj62]
    show Steps p.tables e below (s₁.setTop (mkF m 36 #[.val (.long p0), .second, .val (.long p1), .second, .val (.long p2), .second, .val (.long p3), .second, .val (.long p4), .second, .val (.int p5), .val (.long j57), .second, .val (.long j58), .second, .val (.long j59), .second, .val (.long j60), .second, .unset, .unset, .unset, .unset, .unset, .unset, .unset, .unset, .unset, .unset, .unset, .unset, .unset, .unset, .unset, .unset] [(.long j62)])) _
    refine XS.lstore X0.here hx rfl (hb hby at_36) rfl (l' := #[.val (.long p0), .second, .val (.long p1), .second, .val (.long p2), .second, .val (.long p3), .second, .val (.long p4), .second, .val (.int p5), .val (.long j57), .second, .val (.long j58), .second, .val (.long j59), .second, .val (.long j60), .second, .val (.long j62), .second, .unset, .unset, .unset, .unset, .unset, .unset, .unset, .unset, .unset, .unset, .unset, .unset, .unset, .unset]) rfl ?_
    show Steps p.tables e below (s₁.setTop (mkF m 38 #[.val (.long p0), .second, .val (.long p1), .second, .val (.long p2), .second, .val (.long p3), .second, .val (.long p4), .second, .val (.int p5), .val (.long j57), .second, .val (.long j58), .second, .val (.long j59), .second, .val (.long j60), .second, .val (.long j62), .second, .unset, .unset, .unset, .unset, .unset, .unset, .unset, .unset, .unset, .unset, .unset, .unset, .unset, .unset] [])) _
    refine XS.iload X0.here hx rfl (hb hby at_38) rfl ?_
    show Steps p.tables e below (s₁.setTop (mkF m 40 #[.val (.long p0), .second, .val (.long p1), .second, .val (.long p2), .second, .val (.long p3), .second, .val (.long p4), .second, .val (.int p5), .val (.long j57), .second, .val (.long j58), .second, .val (.long j59), .second, .val (.long j60), .second, .val (.long j62), .second, .unset, .unset, .unset, .unset, .unset, .unset, .unset, .unset, .unset, .unset, .unset, .unset, .unset, .unset] [(.int p5)])) _
    refine XS.iconst X0.here hx rfl (hb hby at_40) ?_
    show Steps p.tables e below (s₁.setTop (mkF m 41 #[.val (.long p0), .second, .val (.long p1), .second, .val (.long p2), .second, .val (.long p3), .second, .val (.long p4), .second, .val (.int p5), .val (.long j57), .second, .val (.long j58), .second, .val (.long j59), .second, .val (.long j60), .second, .val (.long j62), .second, .unset, .unset, .unset, .unset, .unset, .unset, .unset, .unset, .unset, .unset, .unset, .unset, .unset, .unset] [(.int (1 : Int32)), (.int p5)])) _
    refine XS.iand X0.here hx rfl (hb hby at_41) rfl ?_
    show Steps p.tables e below (s₁.setTop (mkF m 42 #[.val (.long p0), .second, .val (.long p1), .second, .val (.long p2), .second, .val (.long p3), .second, .val (.long p4), .second, .val (.int p5), .val (.long j57), .second, .val (.long j58), .second, .val (.long j59), .second, .val (.long j60), .second, .val (.long j62), .second, .unset, .unset, .unset, .unset, .unset, .unset, .unset, .unset, .unset, .unset, .unset, .unset, .unset, .unset] [(.int (p5 &&& (1 : Int32)))])) _
    refine kmq63 _ ?_
    show Steps p.tables e below (s₁.setTop (mkF m 52 #[.val (.long p0), .second, .val (.long p1), .second, .val (.long p2), .second, .val (.long p3), .second, .val (.long p4), .second, .val (.int p5), .val (.long j57), .second, .val (.long j58), .second, .val (.long j59), .second, .val (.long j60), .second, .val (.long j62), .second, .unset, .unset, .unset, .unset, .unset, .unset, .unset, .unset, .unset, .unset, .unset, .unset, .unset, .unset] [(.long q63)])) _
    refine XS.lstore X0.here hx rfl (hb hby at_52) rfl (l' := #[.val (.long p0), .second, .val (.long p1), .second, .val (.long p2), .second, .val (.long p3), .second, .val (.long p4), .second, .val (.int p5), .val (.long j57), .second, .val (.long j58), .second, .val (.long j59), .second, .val (.long j60), .second, .val (.long j62), .second, .val (.long q63), .second, .unset, .unset, .unset, .unset, .unset, .unset, .unset, .unset, .unset, .unset, .unset, .unset]) rfl ?_
    show Steps p.tables e below (s₁.setTop (mkF m 54 #[.val (.long p0), .second, .val (.long p1), .second, .val (.long p2), .second, .val (.long p3), .second, .val (.long p4), .second, .val (.int p5), .val (.long j57), .second, .val (.long j58), .second, .val (.long j59), .second, .val (.long j60), .second, .val (.long j62), .second, .val (.long q63), .second, .unset, .unset, .unset, .unset, .unset, .unset, .unset, .unset, .unset, .unset, .unset, .unset] [])) _
    refine XS.iload X0.here hx rfl (hb hby at_54) rfl ?_
    show Steps p.tables e below (s₁.setTop (mkF m 56 #[.val (.long p0), .second, .val (.long p1), .second, .val (.long p2), .second, .val (.long p3), .second, .val (.long p4), .second, .val (.int p5), .val (.long j57), .second, .val (.long j58), .second, .val (.long j59), .second, .val (.long j60), .second, .val (.long j62), .second, .val (.long q63), .second, .unset, .unset, .unset, .unset, .unset, .unset, .unset, .unset, .unset, .unset, .unset, .unset] [(.int p5)])) _
    refine XS.iconst X0.here hx rfl (hb hby at_56) ?_
    show Steps p.tables e below (s₁.setTop (mkF m 57 #[.val (.long p0), .second, .val (.long p1), .second, .val (.long p2), .second, .val (.long p3), .second, .val (.long p4), .second, .val (.int p5), .val (.long j57), .second, .val (.long j58), .second, .val (.long j59), .second, .val (.long j60), .second, .val (.long j62), .second, .val (.long q63), .second, .unset, .unset, .unset, .unset, .unset, .unset, .unset, .unset, .unset, .unset, .unset, .unset] [(.int (2 : Int32)), (.int p5)])) _
    refine XS.iand X0.here hx rfl (hb hby at_57) rfl ?_
    show Steps p.tables e below (s₁.setTop (mkF m 58 #[.val (.long p0), .second, .val (.long p1), .second, .val (.long p2), .second, .val (.long p3), .second, .val (.long p4), .second, .val (.int p5), .val (.long j57), .second, .val (.long j58), .second, .val (.long j59), .second, .val (.long j60), .second, .val (.long j62), .second, .val (.long q63), .second, .unset, .unset, .unset, .unset, .unset, .unset, .unset, .unset, .unset, .unset, .unset, .unset] [(.int (p5 &&& (2 : Int32)))])) _
    refine kmq64 _ ?_
    show Steps p.tables e below (s₁.setTop (mkF m 68 #[.val (.long p0), .second, .val (.long p1), .second, .val (.long p2), .second, .val (.long p3), .second, .val (.long p4), .second, .val (.int p5), .val (.long j57), .second, .val (.long j58), .second, .val (.long j59), .second, .val (.long j60), .second, .val (.long j62), .second, .val (.long q63), .second, .unset, .unset, .unset, .unset, .unset, .unset, .unset, .unset, .unset, .unset, .unset, .unset] [(.long q64)])) _
    refine XS.lstore X0.here hx rfl (hb hby at_68) rfl (l' := #[.val (.long p0), .second, .val (.long p1), .second, .val (.long p2), .second, .val (.long p3), .second, .val (.long p4), .second, .val (.int p5), .val (.long j57), .second, .val (.long j58), .second, .val (.long j59), .second, .val (.long j60), .second, .val (.long j62), .second, .val (.long q63), .second, .val (.long q64), .second, .unset, .unset, .unset, .unset, .unset, .unset, .unset, .unset, .unset, .unset]) rfl ?_
    show Steps p.tables e below (s₁.setTop (mkF m 70 #[.val (.long p0), .second, .val (.long p1), .second, .val (.long p2), .second, .val (.long p3), .second, .val (.long p4), .second, .val (.int p5), .val (.long j57), .second, .val (.long j58), .second, .val (.long j59), .second, .val (.long j60), .second, .val (.long j62), .second, .val (.long q63), .second, .val (.long q64), .second, .unset, .unset, .unset, .unset, .unset, .unset, .unset, .unset, .unset, .unset] [])) _
    refine XS.iload X0.here hx rfl (hb hby at_70) rfl ?_
    show Steps p.tables e below (s₁.setTop (mkF m 72 #[.val (.long p0), .second, .val (.long p1), .second, .val (.long p2), .second, .val (.long p3), .second, .val (.long p4), .second, .val (.int p5), .val (.long j57), .second, .val (.long j58), .second, .val (.long j59), .second, .val (.long j60), .second, .val (.long j62), .second, .val (.long q63), .second, .val (.long q64), .second, .unset, .unset, .unset, .unset, .unset, .unset, .unset, .unset, .unset, .unset] [(.int p5)])) _
    refine XS.iconst X0.here hx rfl (hb hby at_72) ?_
    show Steps p.tables e below (s₁.setTop (mkF m 73 #[.val (.long p0), .second, .val (.long p1), .second, .val (.long p2), .second, .val (.long p3), .second, .val (.long p4), .second, .val (.int p5), .val (.long j57), .second, .val (.long j58), .second, .val (.long j59), .second, .val (.long j60), .second, .val (.long j62), .second, .val (.long q63), .second, .val (.long q64), .second, .unset, .unset, .unset, .unset, .unset, .unset, .unset, .unset, .unset, .unset] [(.int (4 : Int32)), (.int p5)])) _
    refine XS.iand X0.here hx rfl (hb hby at_73) rfl ?_
    show Steps p.tables e below (s₁.setTop (mkF m 74 #[.val (.long p0), .second, .val (.long p1), .second, .val (.long p2), .second, .val (.long p3), .second, .val (.long p4), .second, .val (.int p5), .val (.long j57), .second, .val (.long j58), .second, .val (.long j59), .second, .val (.long j60), .second, .val (.long j62), .second, .val (.long q63), .second, .val (.long q64), .second, .unset, .unset, .unset, .unset, .unset, .unset, .unset, .unset, .unset, .unset] [(.int (p5 &&& (4 : Int32)))])) _
    refine kmq65 _ ?_
    show Steps p.tables e below (s₁.setTop (mkF m 84 #[.val (.long p0), .second, .val (.long p1), .second, .val (.long p2), .second, .val (.long p3), .second, .val (.long p4), .second, .val (.int p5), .val (.long j57), .second, .val (.long j58), .second, .val (.long j59), .second, .val (.long j60), .second, .val (.long j62), .second, .val (.long q63), .second, .val (.long q64), .second, .unset, .unset, .unset, .unset, .unset, .unset, .unset, .unset, .unset, .unset] [(.long q65)])) _
    refine XS.lstore X0.here hx rfl (hb hby at_84) rfl (l' := #[.val (.long p0), .second, .val (.long p1), .second, .val (.long p2), .second, .val (.long p3), .second, .val (.long p4), .second, .val (.int p5), .val (.long j57), .second, .val (.long j58), .second, .val (.long j59), .second, .val (.long j60), .second, .val (.long j62), .second, .val (.long q63), .second, .val (.long q64), .second, .val (.long q65), .second, .unset, .unset, .unset, .unset, .unset, .unset, .unset, .unset]) rfl ?_
    exact kt)
  have Mq67 : ∃ q67 : Int64, (q67 = j60 ∨ q67 = j62) ∧ ∀ t, Steps p.tables e below (s₁.setTop (mkF m 101 #[.val (.long p0), .second, .val (.long p1), .second, .val (.long p2), .second, .val (.long p3), .second, .val (.long p4), .second, .val (.int p5), .val (.long j57), .second, .val (.long j58), .second, .val (.long j59), .second, .val (.long j60), .second, .val (.long j62), .second, .val (.long q63), .second, .val (.long q64), .second, .val (.long q65), .second, .unset, .unset, .unset, .unset, .unset, .unset, .unset, .unset] [(.long q67)])) t → Steps p.tables e below (s₁.setTop (mkF m 91 #[.val (.long p0), .second, .val (.long p1), .second, .val (.long p2), .second, .val (.long p3), .second, .val (.long p4), .second, .val (.int p5), .val (.long j57), .second, .val (.long j58), .second, .val (.long j59), .second, .val (.long j60), .second, .val (.long j62), .second, .val (.long q63), .second, .val (.long q64), .second, .val (.long q65), .second, .unset, .unset, .unset, .unset, .unset, .unset, .unset, .unset] [(.int (p5 &&& (8 : Int32)))])) t := by
    by_cases hmq67 : (p5 &&& (8 : Int32)) = (0 : Int32)
    · refine ⟨j60, Or.inl rfl, fun t kt => ?_⟩
      show Steps p.tables e below (s₁.setTop (mkF m 91 #[.val (.long p0), .second, .val (.long p1), .second, .val (.long p2), .second, .val (.long p3), .second, .val (.long p4), .second, .val (.int p5), .val (.long j57), .second, .val (.long j58), .second, .val (.long j59), .second, .val (.long j60), .second, .val (.long j62), .second, .val (.long q63), .second, .val (.long q64), .second, .val (.long q65), .second, .unset, .unset, .unset, .unset, .unset, .unset, .unset, .unset] [(.int (p5 &&& (8 : Int32)))])) _
      refine XS.ifYes X0.here hx rfl (pc0 := 91) (pc' := 99) rfl (hb hby at_91) rfl ((if0 _ _).trans (teq (hmq67 : (p5 &&& (8 : Int32)) = (0 : Int32))).1) (by decide) (by decide) ?_
      show Steps p.tables e below (s₁.setTop (mkF m 99 #[.val (.long p0), .second, .val (.long p1), .second, .val (.long p2), .second, .val (.long p3), .second, .val (.long p4), .second, .val (.int p5), .val (.long j57), .second, .val (.long j58), .second, .val (.long j59), .second, .val (.long j60), .second, .val (.long j62), .second, .val (.long q63), .second, .val (.long q64), .second, .val (.long q65), .second, .unset, .unset, .unset, .unset, .unset, .unset, .unset, .unset] [])) _
      refine XS.lload X0.here hx rfl (hb hby at_99) rfl ?_
      exact kt
    · refine ⟨j62, Or.inr rfl, fun t kt => ?_⟩
      show Steps p.tables e below (s₁.setTop (mkF m 91 #[.val (.long p0), .second, .val (.long p1), .second, .val (.long p2), .second, .val (.long p3), .second, .val (.long p4), .second, .val (.int p5), .val (.long j57), .second, .val (.long j58), .second, .val (.long j59), .second, .val (.long j60), .second, .val (.long j62), .second, .val (.long q63), .second, .val (.long q64), .second, .val (.long q65), .second, .unset, .unset, .unset, .unset, .unset, .unset, .unset, .unset] [(.int (p5 &&& (8 : Int32)))])) _
      refine XS.ifNo X0.here hx rfl (hb hby at_91) rfl ((if0 _ _).trans (feq (hmq67 : ¬ ((p5 &&& (8 : Int32)) = (0 : Int32)))).1) ?_
      show Steps p.tables e below (s₁.setTop (mkF m 94 #[.val (.long p0), .second, .val (.long p1), .second, .val (.long p2), .second, .val (.long p3), .second, .val (.long p4), .second, .val (.int p5), .val (.long j57), .second, .val (.long j58), .second, .val (.long j59), .second, .val (.long j60), .second, .val (.long j62), .second, .val (.long q63), .second, .val (.long q64), .second, .val (.long q65), .second, .unset, .unset, .unset, .unset, .unset, .unset, .unset, .unset] [])) _
      refine XS.lload X0.here hx rfl (hb hby at_94) rfl ?_
      show Steps p.tables e below (s₁.setTop (mkF m 96 #[.val (.long p0), .second, .val (.long p1), .second, .val (.long p2), .second, .val (.long p3), .second, .val (.long p4), .second, .val (.int p5), .val (.long j57), .second, .val (.long j58), .second, .val (.long j59), .second, .val (.long j60), .second, .val (.long j62), .second, .val (.long q63), .second, .val (.long q64), .second, .val (.long q65), .second, .unset, .unset, .unset, .unset, .unset, .unset, .unset, .unset] [(.long j62)])) _
      refine XS.goto X0.here hx rfl (pc0 := 96) (pc' := 101) rfl (hb hby at_96) (by decide) (by decide) ?_
      exact kt
  obtain ⟨q67, hq67, kmq67⟩ := Mq67
  have nn_q67 : ¬ q67 < (0 : Int64) := by rcases hq67 with e | e <;> rw [e] <;> assumption
  obtain ⟨T68, h68, X68, e68, E68, A68, D68, -, st68⟩ := newO X0 hx hZ hown (hw _ (List.mem_of_getElem? (i := 1) rfl)) (hw _ (List.mem_of_getElem? (i := 2) rfl)) (hw _ (List.mem_of_getElem? (i := 3) rfl)) e0 (g := (mkF m 103 #[.val (.long p0), .second, .val (.long p1), .second, .val (.long p2), .second, .val (.long p3), .second, .val (.long p4), .second, .val (.int p5), .val (.long j57), .second, .val (.long j58), .second, .val (.long j59), .second, .val (.long j60), .second, .val (.long j62), .second, .val (.long q63), .second, .val (.long q64), .second, .val (.long q65), .second, .val (.long q67), .second, .unset, .unset, .unset, .unset, .unset, .unset] [])) rfl (hb hby at_103) (by decide) (by decide)
  obtain ⟨b68, g68⟩ : ∃ z, z = h0.size := ⟨_, rfl⟩
  have g_b68 : n0 ≤ b68 := Nat.le_trans Z0 (Nat.le_of_eq g68.symm)
  have sz_b68 : h0.size ≤ b68 := Nat.le_of_eq g68.symm
  rw [← g68] at A68 D68 st68
  have EX68 : Ext h0 h68 := E68
  have KK68 : Keep h0 h68 ([] : List Addr) := Keep.ext (Keep.refl h0 ([] : List Addr)) E68
  have G68_pendingCredits : Fld Z h68 b68 "com/example/rialto/rialto/ledger/AccountTotals" "pendingCredits" "J" (.long (0 : Int64)) := D68 (Or.inr (hw _ (List.mem_of_getElem? (i := 11) rfl))) (ty := .long) (by decide)
  have G68_pendingDebits : Fld Z h68 b68 "com/example/rialto/rialto/ledger/AccountTotals" "pendingDebits" "J" (.long (0 : Int64)) := D68 (Or.inr (hw _ (List.mem_of_getElem? (i := 13) rfl))) (ty := .long) (by decide)
  have G68_postedCredits : Fld Z h68 b68 "com/example/rialto/rialto/ledger/AccountTotals" "postedCredits" "J" (.long (0 : Int64)) := D68 (Or.inr (hw _ (List.mem_of_getElem? (i := 15) rfl))) (ty := .long) (by decide)
  have G68_postedDebits : Fld Z h68 b68 "com/example/rialto/rialto/ledger/AccountTotals" "postedDebits" "J" (.long (0 : Int64)) := D68 (Or.inr (hw _ (List.mem_of_getElem? (i := 17) rfl))) (ty := .long) (by decide)
  obtain ⟨_, _, ⟨T69, L69, k69, n69⟩, -, X69, ⟨Lc69, hQ69, l69, y69, z69⟩, st69⟩ := X68.specialBack hx (y := (⟨"com/example/rialto/rialto/ledger/AccountTotals", "<init>", "(JJJJ)V"⟩ : MethodName)) rfl hown (mvT hZ (hw _ (List.mem_of_getElem? (i := 4) rfl))) (mvT hZ (hw _ (List.mem_of_getElem? (i := 5) rfl))) (mvT hZ (hw _ (List.mem_of_getElem? (i := 6) rfl))) (by decide) (backOf (W := 1) (rm1 l Z a0 hw [] b68 j57 j58 j59 j60 wcache h0 h68 n0 (Nat.le_trans Z0 KK68.1) W0 EX68 Zs A68 g_b68 G68_pendingCredits G68_pendingDebits G68_postedCredits G68_postedDebits nn_j57 nn_j58 nn_j59 nn_j60) hZ (hw _ (List.mem_of_getElem? (i := 6) rfl)) (hw _ (List.mem_of_getElem? (i := 3) rfl)) (by decide) (by decide)) (g := (mkF m 115 #[.val (.long p0), .second, .val (.long p1), .second, .val (.long p2), .second, .val (.long p3), .second, .val (.long p4), .second, .val (.int p5), .val (.long j57), .second, .val (.long j58), .second, .val (.long j59), .second, .val (.long j60), .second, .val (.long j62), .second, .val (.long q63), .second, .val (.long q64), .second, .val (.long q65), .second, .val (.long q67), .second, .unset, .unset, .unset, .unset, .unset, .unset] [(.long j60), (.long j59), (.long j58), (.long j57), (.ref b68), (.ref b68)])) rfl (by rw [hml]; rfl) (Steps.refl _) (a := b68) (argsL := [(.long j57), (.long j58), (.long j59), (.long j60)]) (rest := [(.ref b68)]) (lenOf pd_2 rfl) rfl (by show 2 * 0 + _ ≤ _; exact Nat.le_of_eq rfl) (hb hby at_115) (fun _ _ => ⟨rfl, e68, (by decide : 1 + 0 ≤ _), (by decide : 4 + 0 ≤ _)⟩)
  dsimp only [Pt.U, Pt.locs, Pt.cells, Pt.slots] at X69 l69 y69 z69 st69 hQ69
  subst l69 y69 z69
  unfold Q1 at hQ69
  obtain ⟨rfl, N69q, EXc69, Kc69, OB69_p0⟩ := hQ69
  have N69 := Fr.app N0 N69q
  have EX69 : Ext h0 T69.heap := EXc69
  have KK69 : Keep h0 T69.heap ([] : List Addr) := Keep.trans KK68 Kc69 (allS (Or.inr (Nat.le_trans Zs g_b68)) all0)
  have OBx69_p0 : Tot Z T69.heap n0 b68 j57 j58 j59 j60 := OB69_p0
  obtain ⟨E_b68_69, g_b68_69, G_b68_pendingCredits_69, G_b68_pendingDebits_69, G_b68_postedCredits_69, G_b68_postedDebits_69, -⟩ := OBx69_p0
  obtain ⟨T71, h71, X71, e71, E71, A71, D71, -, st71⟩ := newO X69 hx hZ hown (hw _ (List.mem_of_getElem? (i := 1) rfl)) (hw _ (List.mem_of_getElem? (i := 2) rfl)) (hw _ (List.mem_of_getElem? (i := 3) rfl)) rfl (g := (mkF m 120 #[.val (.long p0), .second, .val (.long p1), .second, .val (.long p2), .second, .val (.long p3), .second, .val (.long p4), .second, .val (.int p5), .val (.long j57), .second, .val (.long j58), .second, .val (.long j59), .second, .val (.long j60), .second, .val (.long j62), .second, .val (.long q63), .second, .val (.long q64), .second, .val (.long q65), .second, .val (.long q67), .second, .val (.ref b68), .unset, .unset, .unset, .unset, .unset] [])) rfl (hb hby at_120) (by decide) (by decide)
  obtain ⟨b71, g71⟩ : ∃ z, z = T69.heap.size := ⟨_, rfl⟩
  have g_b71 : n0 ≤ b71 := Nat.le_trans (Nat.le_trans Z0 KK69.1) (Nat.le_of_eq g71.symm)
  have sz_b71 : h0.size ≤ b71 := Nat.le_trans KK69.1 <| Nat.le_of_eq g71.symm
  have ne72 : b68 ≠ b71 := Nat.ne_of_lt (Nat.lt_of_lt_of_le E_b68_69.lt (Nat.le_of_eq g71.symm))
  rw [← g71] at A71 D71 st71
  have E73 := E_b68_69.ext E71
  have F74 := G_b68_pendingCredits_69.ext E71
  have F75 := G_b68_pendingDebits_69.ext E71
  have F76 := G_b68_postedCredits_69.ext E71
  have F77 := G_b68_postedDebits_69.ext E71
  have EX71 : Ext h0 h71 := own_ext_trans EX69 E71
  have KK71 : Keep h0 h71 ([] : List Addr) := Keep.ext KK69 E71
  have G71_pendingCredits : Fld Z h71 b71 "com/example/rialto/rialto/ledger/AccountTotals" "pendingCredits" "J" (.long (0 : Int64)) := D71 (Or.inr (hw _ (List.mem_of_getElem? (i := 11) rfl))) (ty := .long) (by decide)
  have G71_pendingDebits : Fld Z h71 b71 "com/example/rialto/rialto/ledger/AccountTotals" "pendingDebits" "J" (.long (0 : Int64)) := D71 (Or.inr (hw _ (List.mem_of_getElem? (i := 13) rfl))) (ty := .long) (by decide)
  have G71_postedCredits : Fld Z h71 b71 "com/example/rialto/rialto/ledger/AccountTotals" "postedCredits" "J" (.long (0 : Int64)) := D71 (Or.inr (hw _ (List.mem_of_getElem? (i := 15) rfl))) (ty := .long) (by decide)
  have G71_postedDebits : Fld Z h71 b71 "com/example/rialto/rialto/ledger/AccountTotals" "postedDebits" "J" (.long (0 : Int64)) := D71 (Or.inr (hw _ (List.mem_of_getElem? (i := 17) rfl))) (ty := .long) (by decide)
  have k78 : ∀ t, Steps p.tables e below (T71.setTop (mkF m 132 #[.val (.long p0), .second, .val (.long p1), .second, .val (.long p2), .second, .val (.long p3), .second, .val (.long p4), .second, .val (.int p5), .val (.long j57), .second, .val (.long j58), .second, .val (.long j59), .second, .val (.long j60), .second, .val (.long j62), .second, .val (.long q63), .second, .val (.long q64), .second, .val (.long q65), .second, .val (.long q67), .second, .val (.ref b68), .unset, .unset, .unset, .unset, .unset] [(.long q67), (.long q65), (.long q64), (.long q63), (.ref b71), (.ref b71)])) t → Steps p.tables e below (s₁.setTop (entryFrame m #[(.long p0), (.long p1), (.long p2), (.long p3), (.long p4), (.int p5)] maxLocals)) t := fun t kt => k66 t (by
    show Steps p.tables e below (s₁.setTop (mkF m 86 #[.val (.long p0), .second, .val (.long p1), .second, .val (.long p2), .second, .val (.long p3), .second, .val (.long p4), .second, .val (.int p5), .val (.long j57), .second, .val (.long j58), .second, .val (.long j59), .second, .val (.long j60), .second, .val (.long j62), .second, .val (.long q63), .second, .val (.long q64), .second, .val (.long q65), .second, .unset, .unset, .unset, .unset, .unset, .unset, .unset, .unset] [])) _
    refine XS.iload X0.here hx rfl (hb hby at_86) rfl ?_
    show Steps p.tables e below (s₁.setTop (mkF m 88 #[.val (.long p0), .second, .val (.long p1), .second, .val (.long p2), .second, .val (.long p3), .second, .val (.long p4), .second, .val (.int p5), .val (.long j57), .second, .val (.long j58), .second, .val (.long j59), .second, .val (.long j60), .second, .val (.long j62), .second, .val (.long q63), .second, .val (.long q64), .second, .val (.long q65), .second, .unset, .unset, .unset, .unset, .unset, .unset, .unset, .unset] [(.int p5)])) _
    refine XS.bipush X0.here hx rfl (hb hby at_88) ?_
    show Steps p.tables e below (s₁.setTop (mkF m 90 #[.val (.long p0), .second, .val (.long p1), .second, .val (.long p2), .second, .val (.long p3), .second, .val (.long p4), .second, .val (.int p5), .val (.long j57), .second, .val (.long j58), .second, .val (.long j59), .second, .val (.long j60), .second, .val (.long j62), .second, .val (.long q63), .second, .val (.long q64), .second, .val (.long q65), .second, .unset, .unset, .unset, .unset, .unset, .unset, .unset, .unset] [(.int (8 : Int32)), (.int p5)])) _
    refine XS.iand X0.here hx rfl (hb hby at_90) rfl ?_
    show Steps p.tables e below (s₁.setTop (mkF m 91 #[.val (.long p0), .second, .val (.long p1), .second, .val (.long p2), .second, .val (.long p3), .second, .val (.long p4), .second, .val (.int p5), .val (.long j57), .second, .val (.long j58), .second, .val (.long j59), .second, .val (.long j60), .second, .val (.long j62), .second, .val (.long q63), .second, .val (.long q64), .second, .val (.long q65), .second, .unset, .unset, .unset, .unset, .unset, .unset, .unset, .unset] [(.int (p5 &&& (8 : Int32)))])) _
    refine kmq67 _ ?_
    show Steps p.tables e below (s₁.setTop (mkF m 101 #[.val (.long p0), .second, .val (.long p1), .second, .val (.long p2), .second, .val (.long p3), .second, .val (.long p4), .second, .val (.int p5), .val (.long j57), .second, .val (.long j58), .second, .val (.long j59), .second, .val (.long j60), .second, .val (.long j62), .second, .val (.long q63), .second, .val (.long q64), .second, .val (.long q65), .second, .unset, .unset, .unset, .unset, .unset, .unset, .unset, .unset] [(.long q67)])) _
    refine XS.lstore X0.here hx rfl (hb hby at_101) rfl (l' := #[.val (.long p0), .second, .val (.long p1), .second, .val (.long p2), .second, .val (.long p3), .second, .val (.long p4), .second, .val (.int p5), .val (.long j57), .second, .val (.long j58), .second, .val (.long j59), .second, .val (.long j60), .second, .val (.long j62), .second, .val (.long q63), .second, .val (.long q64), .second, .val (.long q65), .second, .val (.long q67), .second, .unset, .unset, .unset, .unset, .unset, .unset]) rfl ?_
    show Steps p.tables e below (s₁.setTop (mkF m 103 #[.val (.long p0), .second, .val (.long p1), .second, .val (.long p2), .second, .val (.long p3), .second, .val (.long p4), .second, .val (.int p5), .val (.long j57), .second, .val (.long j58), .second, .val (.long j59), .second, .val (.long j60), .second, .val (.long j62), .second, .val (.long q63), .second, .val (.long q64), .second, .val (.long q65), .second, .val (.long q67), .second, .unset, .unset, .unset, .unset, .unset, .unset] [])) _
    refine st68 _ ?_
    show Steps p.tables e below (T68.setTop (mkF m 106 #[.val (.long p0), .second, .val (.long p1), .second, .val (.long p2), .second, .val (.long p3), .second, .val (.long p4), .second, .val (.int p5), .val (.long j57), .second, .val (.long j58), .second, .val (.long j59), .second, .val (.long j60), .second, .val (.long j62), .second, .val (.long q63), .second, .val (.long q64), .second, .val (.long q65), .second, .val (.long q67), .second, .unset, .unset, .unset, .unset, .unset, .unset] [(.ref b68)])) _
    refine XS.dup X68.here hx rfl (hb hby at_106) rfl rfl ?_
    show Steps p.tables e below (T68.setTop (mkF m 107 #[.val (.long p0), .second, .val (.long p1), .second, .val (.long p2), .second, .val (.long p3), .second, .val (.long p4), .second, .val (.int p5), .val (.long j57), .second, .val (.long j58), .second, .val (.long j59), .second, .val (.long j60), .second, .val (.long j62), .second, .val (.long q63), .second, .val (.long q64), .second, .val (.long q65), .second, .val (.long q67), .second, .unset, .unset, .unset, .unset, .unset, .unset] [(.ref b68), (.ref b68)])) _
    refine XS.lload X68.here hx rfl (hb hby at_107) rfl ?_
    show Steps p.tables e below (T68.setTop (mkF m 109 #[.val (.long p0), .second, .val (.long p1), .second, .val (.long p2), .second, .val (.long p3), .second, .val (.long p4), .second, .val (.int p5), .val (.long j57), .second, .val (.long j58), .second, .val (.long j59), .second, .val (.long j60), .second, .val (.long j62), .second, .val (.long q63), .second, .val (.long q64), .second, .val (.long q65), .second, .val (.long q67), .second, .unset, .unset, .unset, .unset, .unset, .unset] [(.long j57), (.ref b68), (.ref b68)])) _
    refine XS.lload X68.here hx rfl (hb hby at_109) rfl ?_
    show Steps p.tables e below (T68.setTop (mkF m 111 #[.val (.long p0), .second, .val (.long p1), .second, .val (.long p2), .second, .val (.long p3), .second, .val (.long p4), .second, .val (.int p5), .val (.long j57), .second, .val (.long j58), .second, .val (.long j59), .second, .val (.long j60), .second, .val (.long j62), .second, .val (.long q63), .second, .val (.long q64), .second, .val (.long q65), .second, .val (.long q67), .second, .unset, .unset, .unset, .unset, .unset, .unset] [(.long j58), (.long j57), (.ref b68), (.ref b68)])) _
    refine XS.lload X68.here hx rfl (hb hby at_111) rfl ?_
    show Steps p.tables e below (T68.setTop (mkF m 113 #[.val (.long p0), .second, .val (.long p1), .second, .val (.long p2), .second, .val (.long p3), .second, .val (.long p4), .second, .val (.int p5), .val (.long j57), .second, .val (.long j58), .second, .val (.long j59), .second, .val (.long j60), .second, .val (.long j62), .second, .val (.long q63), .second, .val (.long q64), .second, .val (.long q65), .second, .val (.long q67), .second, .unset, .unset, .unset, .unset, .unset, .unset] [(.long j59), (.long j58), (.long j57), (.ref b68), (.ref b68)])) _
    refine XS.lload X68.here hx rfl (hb hby at_113) rfl ?_
    show Steps p.tables e below (T68.setTop (mkF m 115 #[.val (.long p0), .second, .val (.long p1), .second, .val (.long p2), .second, .val (.long p3), .second, .val (.long p4), .second, .val (.int p5), .val (.long j57), .second, .val (.long j58), .second, .val (.long j59), .second, .val (.long j60), .second, .val (.long j62), .second, .val (.long q63), .second, .val (.long q64), .second, .val (.long q65), .second, .val (.long q67), .second, .unset, .unset, .unset, .unset, .unset, .unset] [(.long j60), (.long j59), (.long j58), (.long j57), (.ref b68), (.ref b68)])) _
    refine st69.trans ?_
    show Steps p.tables e below (T69.setTop (mkF m 118 #[.val (.long p0), .second, .val (.long p1), .second, .val (.long p2), .second, .val (.long p3), .second, .val (.long p4), .second, .val (.int p5), .val (.long j57), .second, .val (.long j58), .second, .val (.long j59), .second, .val (.long j60), .second, .val (.long j62), .second, .val (.long q63), .second, .val (.long q64), .second, .val (.long q65), .second, .val (.long q67), .second, .unset, .unset, .unset, .unset, .unset, .unset] [(.ref b68)])) _
    refine XS.astore X69.here hx rfl (hb hby at_118) rfl rfl (l' := #[.val (.long p0), .second, .val (.long p1), .second, .val (.long p2), .second, .val (.long p3), .second, .val (.long p4), .second, .val (.int p5), .val (.long j57), .second, .val (.long j58), .second, .val (.long j59), .second, .val (.long j60), .second, .val (.long j62), .second, .val (.long q63), .second, .val (.long q64), .second, .val (.long q65), .second, .val (.long q67), .second, .val (.ref b68), .unset, .unset, .unset, .unset, .unset]) rfl ?_
    show Steps p.tables e below (T69.setTop (mkF m 120 #[.val (.long p0), .second, .val (.long p1), .second, .val (.long p2), .second, .val (.long p3), .second, .val (.long p4), .second, .val (.int p5), .val (.long j57), .second, .val (.long j58), .second, .val (.long j59), .second, .val (.long j60), .second, .val (.long j62), .second, .val (.long q63), .second, .val (.long q64), .second, .val (.long q65), .second, .val (.long q67), .second, .val (.ref b68), .unset, .unset, .unset, .unset, .unset] [])) _
    refine st71 _ ?_
    show Steps p.tables e below (T71.setTop (mkF m 123 #[.val (.long p0), .second, .val (.long p1), .second, .val (.long p2), .second, .val (.long p3), .second, .val (.long p4), .second, .val (.int p5), .val (.long j57), .second, .val (.long j58), .second, .val (.long j59), .second, .val (.long j60), .second, .val (.long j62), .second, .val (.long q63), .second, .val (.long q64), .second, .val (.long q65), .second, .val (.long q67), .second, .val (.ref b68), .unset, .unset, .unset, .unset, .unset] [(.ref b71)])) _
    refine XS.dup X71.here hx rfl (hb hby at_123) rfl rfl ?_
    show Steps p.tables e below (T71.setTop (mkF m 124 #[.val (.long p0), .second, .val (.long p1), .second, .val (.long p2), .second, .val (.long p3), .second, .val (.long p4), .second, .val (.int p5), .val (.long j57), .second, .val (.long j58), .second, .val (.long j59), .second, .val (.long j60), .second, .val (.long j62), .second, .val (.long q63), .second, .val (.long q64), .second, .val (.long q65), .second, .val (.long q67), .second, .val (.ref b68), .unset, .unset, .unset, .unset, .unset] [(.ref b71), (.ref b71)])) _
    refine XS.lload X71.here hx rfl (hb hby at_124) rfl ?_
    show Steps p.tables e below (T71.setTop (mkF m 126 #[.val (.long p0), .second, .val (.long p1), .second, .val (.long p2), .second, .val (.long p3), .second, .val (.long p4), .second, .val (.int p5), .val (.long j57), .second, .val (.long j58), .second, .val (.long j59), .second, .val (.long j60), .second, .val (.long j62), .second, .val (.long q63), .second, .val (.long q64), .second, .val (.long q65), .second, .val (.long q67), .second, .val (.ref b68), .unset, .unset, .unset, .unset, .unset] [(.long q63), (.ref b71), (.ref b71)])) _
    refine XS.lload X71.here hx rfl (hb hby at_126) rfl ?_
    show Steps p.tables e below (T71.setTop (mkF m 128 #[.val (.long p0), .second, .val (.long p1), .second, .val (.long p2), .second, .val (.long p3), .second, .val (.long p4), .second, .val (.int p5), .val (.long j57), .second, .val (.long j58), .second, .val (.long j59), .second, .val (.long j60), .second, .val (.long j62), .second, .val (.long q63), .second, .val (.long q64), .second, .val (.long q65), .second, .val (.long q67), .second, .val (.ref b68), .unset, .unset, .unset, .unset, .unset] [(.long q64), (.long q63), (.ref b71), (.ref b71)])) _
    refine XS.lload X71.here hx rfl (hb hby at_128) rfl ?_
    show Steps p.tables e below (T71.setTop (mkF m 130 #[.val (.long p0), .second, .val (.long p1), .second, .val (.long p2), .second, .val (.long p3), .second, .val (.long p4), .second, .val (.int p5), .val (.long j57), .second, .val (.long j58), .second, .val (.long j59), .second, .val (.long j60), .second, .val (.long j62), .second, .val (.long q63), .second, .val (.long q64), .second, .val (.long q65), .second, .val (.long q67), .second, .val (.ref b68), .unset, .unset, .unset, .unset, .unset] [(.long q65), (.long q64), (.long q63), (.ref b71), (.ref b71)])) _
    refine XS.lload X71.here hx rfl (hb hby at_130) rfl ?_
    exact kt)
  obtain ⟨_, _, ⟨T79, L79, k79, n79⟩, -, X79, ⟨Lc79, hQ79, l79, y79, z79⟩, st79⟩ := X71.specialBack hx (y := (⟨"com/example/rialto/rialto/ledger/AccountTotals", "<init>", "(JJJJ)V"⟩ : MethodName)) rfl hown (mvT hZ (hw _ (List.mem_of_getElem? (i := 4) rfl))) (mvT hZ (hw _ (List.mem_of_getElem? (i := 5) rfl))) (mvT hZ (hw _ (List.mem_of_getElem? (i := 6) rfl))) (by decide) (backOf (W := 1) (rm1 l Z a0 hw [] b71 q63 q64 q65 q67 wcache h0 h71 n0 (Nat.le_trans Z0 KK71.1) W0 EX71 Zs A71 g_b71 G71_pendingCredits G71_pendingDebits G71_postedCredits G71_postedDebits nn_q63 nn_q64 nn_q65 nn_q67) hZ (hw _ (List.mem_of_getElem? (i := 6) rfl)) (hw _ (List.mem_of_getElem? (i := 3) rfl)) (by decide) (by decide)) (g := (mkF m 132 #[.val (.long p0), .second, .val (.long p1), .second, .val (.long p2), .second, .val (.long p3), .second, .val (.long p4), .second, .val (.int p5), .val (.long j57), .second, .val (.long j58), .second, .val (.long j59), .second, .val (.long j60), .second, .val (.long j62), .second, .val (.long q63), .second, .val (.long q64), .second, .val (.long q65), .second, .val (.long q67), .second, .val (.ref b68), .unset, .unset, .unset, .unset, .unset] [(.long q67), (.long q65), (.long q64), (.long q63), (.ref b71), (.ref b71)])) rfl (by rw [hml]; rfl) (Steps.refl _) (a := b71) (argsL := [(.long q63), (.long q64), (.long q65), (.long q67)]) (rest := [(.ref b71)]) (lenOf pd_2 rfl) rfl (by show 2 * 0 + _ ≤ _; exact Nat.le_of_eq rfl) (hb hby at_132) (fun _ _ => ⟨rfl, e71, (by decide : 2 + 0 ≤ _), (by decide : 8 + 0 ≤ _)⟩)
  dsimp only [Pt.U, Pt.locs, Pt.cells, Pt.slots] at X79 l79 y79 z79 st79 hQ79
  subst l79 y79 z79
  unfold Q1 at hQ79
  obtain ⟨rfl, N79q, EXc79, Kc79, OB79_p0⟩ := hQ79
  have N79 := Fr.app N69 N79q
  have E80 := E73.keep Kc79
  have F81 := F74.keep Kc79 (ninS ne72 nin0)
  have F82 := F75.keep Kc79 (ninS ne72 nin0)
  have F83 := F76.keep Kc79 (ninS ne72 nin0)
  have F84 := F77.keep Kc79 (ninS ne72 nin0)
  have EX79 : Ext h0 T79.heap := EXc79
  have KK79 : Keep h0 T79.heap ([] : List Addr) := Keep.trans KK71 Kc79 (allS (Or.inr (Nat.le_trans Zs g_b71)) all0)
  have OBx79_p0 : Tot Z T79.heap n0 b71 q63 q64 q65 q67 := OB79_p0
  obtain ⟨E_b71_79, g_b71_79, G_b71_pendingCredits_79, G_b71_pendingDebits_79, G_b71_postedCredits_79, G_b71_postedDebits_79, -⟩ := OBx79_p0
  obtain ⟨i86, hi86⟩ : ∃ z, z = (((p5.toUInt32 >>> ((4 : Int32) &&& 31).toUInt32).toInt32) &&& (3 : Int32)) := ⟨_, rfl⟩
  have k87 : ∀ t, Steps p.tables e below (T79.setTop (mkF m 148 #[.val (.long p0), .second, .val (.long p1), .second, .val (.long p2), .second, .val (.long p3), .second, .val (.long p4), .second, .val (.int p5), .val (.long j57), .second, .val (.long j58), .second, .val (.long j59), .second, .val (.long j60), .second, .val (.long j62), .second, .val (.long q63), .second, .val (.long q64), .second, .val (.long q65), .second, .val (.long q67), .second, .val (.ref b68), .val (.ref b71), .val (.int i86), .unset, .unset, .unset] [(.int (1 : Int32)), (.int i86)])) t → Steps p.tables e below (s₁.setTop (entryFrame m #[(.long p0), (.long p1), (.long p2), (.long p3), (.long p4), (.int p5)] maxLocals)) t := fun t kt => k78 t (by
    show Steps p.tables e below (T71.setTop (mkF m 132 #[.val (.long p0), .second, .val (.long p1), .second, .val (.long p2), .second, .val (.long p3), .second, .val (.long p4), .second, .val (.int p5), .val (.long j57), .second, .val (.long j58), .second, .val (.long j59), .second, .val (.long j60), .second, .val (.long j62), .second, .val (.long q63), .second, .val (.long q64), .second, .val (.long q65), .second, .val (.long q67), .second, .val (.ref b68), .unset, .unset, .unset, .unset, .unset] [(.long q67), (.long q65), (.long q64), (.long q63), (.ref b71), (.ref b71)])) _
    refine st79.trans ?_
    show Steps p.tables e below (T79.setTop (mkF m 135 #[.val (.long p0), .second, .val (.long p1), .second, .val (.long p2), .second, .val (.long p3), .second, .val (.long p4), .second, .val (.int p5), .val (.long j57), .second, .val (.long j58), .second, .val (.long j59), .second, .val (.long j60), .second, .val (.long j62), .second, .val (.long q63), .second, .val (.long q64), .second, .val (.long q65), .second, .val (.long q67), .second, .val (.ref b68), .unset, .unset, .unset, .unset, .unset] [(.ref b71)])) _
    refine XS.astore X79.here hx rfl (hb hby at_135) rfl rfl (l' := #[.val (.long p0), .second, .val (.long p1), .second, .val (.long p2), .second, .val (.long p3), .second, .val (.long p4), .second, .val (.int p5), .val (.long j57), .second, .val (.long j58), .second, .val (.long j59), .second, .val (.long j60), .second, .val (.long j62), .second, .val (.long q63), .second, .val (.long q64), .second, .val (.long q65), .second, .val (.long q67), .second, .val (.ref b68), .val (.ref b71), .unset, .unset, .unset, .unset]) rfl ?_
    show Steps p.tables e below (T79.setTop (mkF m 137 #[.val (.long p0), .second, .val (.long p1), .second, .val (.long p2), .second, .val (.long p3), .second, .val (.long p4), .second, .val (.int p5), .val (.long j57), .second, .val (.long j58), .second, .val (.long j59), .second, .val (.long j60), .second, .val (.long j62), .second, .val (.long q63), .second, .val (.long q64), .second, .val (.long q65), .second, .val (.long q67), .second, .val (.ref b68), .val (.ref b71), .unset, .unset, .unset, .unset] [])) _
    refine XS.iload X79.here hx rfl (hb hby at_137) rfl ?_
    show Steps p.tables e below (T79.setTop (mkF m 139 #[.val (.long p0), .second, .val (.long p1), .second, .val (.long p2), .second, .val (.long p3), .second, .val (.long p4), .second, .val (.int p5), .val (.long j57), .second, .val (.long j58), .second, .val (.long j59), .second, .val (.long j60), .second, .val (.long j62), .second, .val (.long q63), .second, .val (.long q64), .second, .val (.long q65), .second, .val (.long q67), .second, .val (.ref b68), .val (.ref b71), .unset, .unset, .unset, .unset] [(.int p5)])) _
    refine XS.iconst X79.here hx rfl (hb hby at_139) ?_
    show Steps p.tables e below (T79.setTop (mkF m 140 #[.val (.long p0), .second, .val (.long p1), .second, .val (.long p2), .second, .val (.long p3), .second, .val (.long p4), .second, .val (.int p5), .val (.long j57), .second, .val (.long j58), .second, .val (.long j59), .second, .val (.long j60), .second, .val (.long j62), .second, .val (.long q63), .second, .val (.long q64), .second, .val (.long q65), .second, .val (.long q67), .second, .val (.ref b68), .val (.ref b71), .unset, .unset, .unset, .unset] [(.int (4 : Int32)), (.int p5)])) _
    refine XS.iushr X79.here hx rfl (hb hby at_140) rfl ?_
    show Steps p.tables e below (T79.setTop (mkF m 141 #[.val (.long p0), .second, .val (.long p1), .second, .val (.long p2), .second, .val (.long p3), .second, .val (.long p4), .second, .val (.int p5), .val (.long j57), .second, .val (.long j58), .second, .val (.long j59), .second, .val (.long j60), .second, .val (.long j62), .second, .val (.long q63), .second, .val (.long q64), .second, .val (.long q65), .second, .val (.long q67), .second, .val (.ref b68), .val (.ref b71), .unset, .unset, .unset, .unset] [(.int ((p5.toUInt32 >>> ((4 : Int32) &&& 31).toUInt32).toInt32))])) _
    refine XS.iconst X79.here hx rfl (hb hby at_141) ?_
    show Steps p.tables e below (T79.setTop (mkF m 142 #[.val (.long p0), .second, .val (.long p1), .second, .val (.long p2), .second, .val (.long p3), .second, .val (.long p4), .second, .val (.int p5), .val (.long j57), .second, .val (.long j58), .second, .val (.long j59), .second, .val (.long j60), .second, .val (.long j62), .second, .val (.long q63), .second, .val (.long q64), .second, .val (.long q65), .second, .val (.long q67), .second, .val (.ref b68), .val (.ref b71), .unset, .unset, .unset, .unset] [(.int (3 : Int32)), (.int ((p5.toUInt32 >>> ((4 : Int32) &&& 31).toUInt32).toInt32))])) _
    refine XS.iand X79.here hx rfl (hb hby at_142) rfl ?_
    rw [← hi86]
    show Steps p.tables e below (T79.setTop (mkF m 143 #[.val (.long p0), .second, .val (.long p1), .second, .val (.long p2), .second, .val (.long p3), .second, .val (.long p4), .second, .val (.int p5), .val (.long j57), .second, .val (.long j58), .second, .val (.long j59), .second, .val (.long j60), .second, .val (.long j62), .second, .val (.long q63), .second, .val (.long q64), .second, .val (.long q65), .second, .val (.long q67), .second, .val (.ref b68), .val (.ref b71), .unset, .unset, .unset, .unset] [(.int i86)])) _
    refine XS.istore X79.here hx rfl (hb hby at_143) rfl (l' := #[.val (.long p0), .second, .val (.long p1), .second, .val (.long p2), .second, .val (.long p3), .second, .val (.long p4), .second, .val (.int p5), .val (.long j57), .second, .val (.long j58), .second, .val (.long j59), .second, .val (.long j60), .second, .val (.long j62), .second, .val (.long q63), .second, .val (.long q64), .second, .val (.long q65), .second, .val (.long q67), .second, .val (.ref b68), .val (.ref b71), .val (.int i86), .unset, .unset, .unset]) rfl ?_
    show Steps p.tables e below (T79.setTop (mkF m 145 #[.val (.long p0), .second, .val (.long p1), .second, .val (.long p2), .second, .val (.long p3), .second, .val (.long p4), .second, .val (.int p5), .val (.long j57), .second, .val (.long j58), .second, .val (.long j59), .second, .val (.long j60), .second, .val (.long j62), .second, .val (.long q63), .second, .val (.long q64), .second, .val (.long q65), .second, .val (.long q67), .second, .val (.ref b68), .val (.ref b71), .val (.int i86), .unset, .unset, .unset] [])) _
    refine XS.iload X79.here hx rfl (hb hby at_145) rfl ?_
    show Steps p.tables e below (T79.setTop (mkF m 147 #[.val (.long p0), .second, .val (.long p1), .second, .val (.long p2), .second, .val (.long p3), .second, .val (.long p4), .second, .val (.int p5), .val (.long j57), .second, .val (.long j58), .second, .val (.long j59), .second, .val (.long j60), .second, .val (.long j62), .second, .val (.long q63), .second, .val (.long q64), .second, .val (.long q65), .second, .val (.long q67), .second, .val (.ref b68), .val (.ref b71), .val (.int i86), .unset, .unset, .unset] [(.int i86)])) _
    refine XS.iconst X79.here hx rfl (hb hby at_147) ?_
    exact kt)
  by_cases hc88 : i86 = (1 : Int32)
  · obtain ⟨cq89, kq89, q89a, q89b, q89c⟩ := isOf hZ rfl E80
    obtain ⟨_, _, ⟨T89, L89, k89, n89⟩, -, X89, ⟨Lc89, hQ89, l89, y89, z89⟩, st89⟩ := X79.virtualBack hx (y := (⟨"com/example/rialto/rialto/ledger/AccountTotals", "equals", "(Ljava/lang/Object;)Z"⟩ : MethodName)) (z := (⟨"com/example/rialto/rialto/ledger/AccountTotals", "equals", "(Ljava/lang/Object;)Z"⟩ : MethodName)) hown (mvT hZ (hw _ (List.mem_of_getElem? (i := 18) rfl))) (mvT hZ (hw _ (List.mem_of_getElem? (i := 19) rfl))) (notFace_of_selects (args := #[]) (mvT hZ (hw _ (List.mem_of_getElem? (i := 21) rfl)))) (mvT hZ (hw _ (List.mem_of_getElem? (i := 21) rfl))) (mvT hZ (hw _ (List.mem_of_getElem? (i := 20) rfl))) (by decide) (backOf (W := 0) (rm3 l Z a0 hw [] b68 j57 j58 j59 j60 wcache h0 T79.heap n0 (Nat.le_trans Z0 KK79.1) W0 EX79 Zs ⟨E80, g_b68_69, F81, F82, F83, F84, trivial⟩ ) hZ (hw _ (List.mem_of_getElem? (i := 22) rfl)) (hw _ (List.mem_of_getElem? (i := 3) rfl)) (by decide) (by decide)) q89a q89c (g := (mkF m 154 #[.val (.long p0), .second, .val (.long p1), .second, .val (.long p2), .second, .val (.long p3), .second, .val (.long p4), .second, .val (.int p5), .val (.long j57), .second, .val (.long j58), .second, .val (.long j59), .second, .val (.long j60), .second, .val (.long j62), .second, .val (.long q63), .second, .val (.long q64), .second, .val (.long q65), .second, .val (.long q67), .second, .val (.ref b68), .val (.ref b71), .val (.int i86), .unset, .unset, .unset] [.null, (.ref b68)])) rfl (by rw [hml]; rfl) (Steps.refl _) (argsL := [.null]) (rest := []) (lenOf pd_3 rfl) rfl (by show 2 * 0 + _ ≤ _; exact Nat.le_of_eq rfl) (hb hby at_154) (fun _ _ => ⟨rfl, rfl, (by decide : 2 + 0 ≤ _), (by decide : 8 + 0 ≤ _)⟩)
    dsimp only [Pt.U, Pt.locs, Pt.cells, Pt.slots] at X89 l89 y89 z89 st89 hQ89
    subst l89 y89 z89
    unfold Q3 at hQ89
    have k90 : ∀ t, Steps p.tables e below (T79.setTop (mkF m 154 #[.val (.long p0), .second, .val (.long p1), .second, .val (.long p2), .second, .val (.long p3), .second, .val (.long p4), .second, .val (.int p5), .val (.long j57), .second, .val (.long j58), .second, .val (.long j59), .second, .val (.long j60), .second, .val (.long j62), .second, .val (.long q63), .second, .val (.long q64), .second, .val (.long q65), .second, .val (.long q67), .second, .val (.ref b68), .val (.ref b71), .val (.int i86), .unset, .unset, .unset] [.null, (.ref b68)])) t → Steps p.tables e below (s₁.setTop (entryFrame m #[(.long p0), (.long p1), (.long p2), (.long p3), (.long p4), (.int p5)] maxLocals)) t := fun t kt => k87 t (by
      show Steps p.tables e below (T79.setTop (mkF m 148 #[.val (.long p0), .second, .val (.long p1), .second, .val (.long p2), .second, .val (.long p3), .second, .val (.long p4), .second, .val (.int p5), .val (.long j57), .second, .val (.long j58), .second, .val (.long j59), .second, .val (.long j60), .second, .val (.long j62), .second, .val (.long q63), .second, .val (.long q64), .second, .val (.long q65), .second, .val (.long q67), .second, .val (.ref b68), .val (.ref b71), .val (.int i86), .unset, .unset, .unset] [(.int (1 : Int32)), (.int i86)])) _
      refine XS.icmpNo X79.here hx rfl (hb hby at_148) rfl (teq (hc88 : i86 = (1 : Int32))).2 ?_
      show Steps p.tables e below (T79.setTop (mkF m 151 #[.val (.long p0), .second, .val (.long p1), .second, .val (.long p2), .second, .val (.long p3), .second, .val (.long p4), .second, .val (.int p5), .val (.long j57), .second, .val (.long j58), .second, .val (.long j59), .second, .val (.long j60), .second, .val (.long j62), .second, .val (.long q63), .second, .val (.long q64), .second, .val (.long q65), .second, .val (.long q67), .second, .val (.ref b68), .val (.ref b71), .val (.int i86), .unset, .unset, .unset] [])) _
      refine XS.aload X79.here hx rfl (hb hby at_151) rfl rfl ?_
      show Steps p.tables e below (T79.setTop (mkF m 153 #[.val (.long p0), .second, .val (.long p1), .second, .val (.long p2), .second, .val (.long p3), .second, .val (.long p4), .second, .val (.int p5), .val (.long j57), .second, .val (.long j58), .second, .val (.long j59), .second, .val (.long j60), .second, .val (.long j62), .second, .val (.long q63), .second, .val (.long q64), .second, .val (.long q65), .second, .val (.long q67), .second, .val (.ref b68), .val (.ref b71), .val (.int i86), .unset, .unset, .unset] [(.ref b68)])) _
      refine XS.aconstNull X79.here hx rfl (hb hby at_153) ?_
      exact kt)
    rw [((by rw [f3]) : (f3 b68 j57 j58 j59 j60 wcache) = (0 : Int32))] at hQ89
    obtain ⟨rfl, N89q, e89⟩ := hQ89
    have N89 := Fr.app N79 N89q
    obtain ⟨fs, hr, hrun, hended, hW, hsame⟩ := X89.leave (v := some (.int (1 : Int32))) (fun h => by rw [Bd.returns] at h; cases h)
    refine ⟨_, _, k90 _ ?_, hrun, hended, _, _, rfl, ?_, ⟨_, rfl⟩, hW, hsame.mono (by decide) (by decide)⟩
    · show Steps p.tables e below (T79.setTop (mkF m 154 #[.val (.long p0), .second, .val (.long p1), .second, .val (.long p2), .second, .val (.long p3), .second, .val (.long p4), .second, .val (.int p5), .val (.long j57), .second, .val (.long j58), .second, .val (.long j59), .second, .val (.long j60), .second, .val (.long j62), .second, .val (.long q63), .second, .val (.long q64), .second, .val (.long q65), .second, .val (.long q67), .second, .val (.ref b68), .val (.ref b71), .val (.int i86), .unset, .unset, .unset] [.null, (.ref b68)])) _
      refine st89.trans ?_
      show Steps p.tables e below (T89.setTop (mkF m 157 #[.val (.long p0), .second, .val (.long p1), .second, .val (.long p2), .second, .val (.long p3), .second, .val (.long p4), .second, .val (.int p5), .val (.long j57), .second, .val (.long j58), .second, .val (.long j59), .second, .val (.long j60), .second, .val (.long j62), .second, .val (.long q63), .second, .val (.long q64), .second, .val (.long q65), .second, .val (.long q67), .second, .val (.ref b68), .val (.ref b71), .val (.int i86), .unset, .unset, .unset] [(.int (0 : Int32))])) _
      refine XS.ifNo X89.here hx rfl (hb hby at_157) rfl ((if0 _ _).trans (teq (rfl : (0 : Int32) = (0 : Int32))).2) ?_
      show Steps p.tables e below (T89.setTop (mkF m 160 #[.val (.long p0), .second, .val (.long p1), .second, .val (.long p2), .second, .val (.long p3), .second, .val (.long p4), .second, .val (.int p5), .val (.long j57), .second, .val (.long j58), .second, .val (.long j59), .second, .val (.long j60), .second, .val (.long j62), .second, .val (.long q63), .second, .val (.long q64), .second, .val (.long q65), .second, .val (.long q67), .second, .val (.ref b68), .val (.ref b71), .val (.int i86), .unset, .unset, .unset] [])) _
      refine XS.iconst X89.here hx rfl (hb hby at_160) ?_
      show Steps p.tables e below (T89.setTop (mkF m 161 #[.val (.long p0), .second, .val (.long p1), .second, .val (.long p2), .second, .val (.long p3), .second, .val (.long p4), .second, .val (.int p5), .val (.long j57), .second, .val (.long j58), .second, .val (.long j59), .second, .val (.long j60), .second, .val (.long j62), .second, .val (.long q63), .second, .val (.long q64), .second, .val (.long q65), .second, .val (.long q67), .second, .val (.ref b68), .val (.ref b71), .val (.int i86), .unset, .unset, .unset] [(.int (1 : Int32))])) _
      refine XS.goto X89.here hx rfl (pc0 := 161) (pc' := 165) rfl (hb hby at_161) (by decide) (by decide) ?_
      show Steps p.tables e below (T89.setTop (mkF m 165 #[.val (.long p0), .second, .val (.long p1), .second, .val (.long p2), .second, .val (.long p3), .second, .val (.long p4), .second, .val (.int p5), .val (.long j57), .second, .val (.long j58), .second, .val (.long j59), .second, .val (.long j60), .second, .val (.long j62), .second, .val (.long q63), .second, .val (.long q64), .second, .val (.long q65), .second, .val (.long q67), .second, .val (.ref b68), .val (.ref b71), .val (.int i86), .unset, .unset, .unset] [(.int (1 : Int32))])) _
      exact retN X89 hx (t := .boolean) Bd.returns (by simp) (hb hby at_165) hr
    · show Q0 Z p0 p1 p2 p3 p4 p5 wcache h0 n0 _ T89.heap _
      rw [e89]
      exact ⟨rfl, N89⟩
  · have k91 : ∀ t, Steps p.tables e below (T79.setTop (mkF m 169 #[.val (.long p0), .second, .val (.long p1), .second, .val (.long p2), .second, .val (.long p3), .second, .val (.long p4), .second, .val (.int p5), .val (.long j57), .second, .val (.long j58), .second, .val (.long j59), .second, .val (.long j60), .second, .val (.long j62), .second, .val (.long q63), .second, .val (.long q64), .second, .val (.long q65), .second, .val (.long q67), .second, .val (.ref b68), .val (.ref b71), .val (.int i86), .unset, .unset, .unset] [(.int (2 : Int32)), (.int i86)])) t → Steps p.tables e below (s₁.setTop (entryFrame m #[(.long p0), (.long p1), (.long p2), (.long p3), (.long p4), (.int p5)] maxLocals)) t := fun t kt => k87 t (by
      show Steps p.tables e below (T79.setTop (mkF m 148 #[.val (.long p0), .second, .val (.long p1), .second, .val (.long p2), .second, .val (.long p3), .second, .val (.long p4), .second, .val (.int p5), .val (.long j57), .second, .val (.long j58), .second, .val (.long j59), .second, .val (.long j60), .second, .val (.long j62), .second, .val (.long q63), .second, .val (.long q64), .second, .val (.long q65), .second, .val (.long q67), .second, .val (.ref b68), .val (.ref b71), .val (.int i86), .unset, .unset, .unset] [(.int (1 : Int32)), (.int i86)])) _
      refine XS.icmpYes X79.here hx rfl (pc0 := 148) (pc' := 166) rfl (hb hby at_148) rfl (feq (hc88 : ¬ (i86 = (1 : Int32)))).2 (by decide) (by decide) ?_
      show Steps p.tables e below (T79.setTop (mkF m 166 #[.val (.long p0), .second, .val (.long p1), .second, .val (.long p2), .second, .val (.long p3), .second, .val (.long p4), .second, .val (.int p5), .val (.long j57), .second, .val (.long j58), .second, .val (.long j59), .second, .val (.long j60), .second, .val (.long j62), .second, .val (.long q63), .second, .val (.long q64), .second, .val (.long q65), .second, .val (.long q67), .second, .val (.ref b68), .val (.ref b71), .val (.int i86), .unset, .unset, .unset] [])) _
      refine XS.iload X79.here hx rfl (hb hby at_166) rfl ?_
      show Steps p.tables e below (T79.setTop (mkF m 168 #[.val (.long p0), .second, .val (.long p1), .second, .val (.long p2), .second, .val (.long p3), .second, .val (.long p4), .second, .val (.int p5), .val (.long j57), .second, .val (.long j58), .second, .val (.long j59), .second, .val (.long j60), .second, .val (.long j62), .second, .val (.long q63), .second, .val (.long q64), .second, .val (.long q65), .second, .val (.long q67), .second, .val (.ref b68), .val (.ref b71), .val (.int i86), .unset, .unset, .unset] [(.int i86)])) _
      refine XS.iconst X79.here hx rfl (hb hby at_168) ?_
      exact kt)
    by_cases hc92 : i86 = (2 : Int32)
    · obtain ⟨_, _, ⟨T93, L93, k93, n93⟩, -, X93, ⟨Lc93, hQ93, l93, y93, z93⟩, st93⟩ := Jvm.LawKit.callS X79 hx (y := (⟨"java/lang/Long", "valueOf", "(J)Ljava/lang/Long;"⟩ : MethodName)) hown (mvT hZ (hw _ (List.mem_of_getElem? (i := 25) rfl))) (mvT hZ (hw _ (List.mem_of_getElem? (i := 26) rfl))) (mvT hZ (hw _ (List.mem_of_getElem? (i := 27) rfl))) (mvT hZ (hw _ (List.mem_of_getElem? (i := 28) rfl))) (by decide) (backOf (W := 0) (rm7 l Z a0 hw [] j57 wcache h0 T79.heap n0 (Nat.le_trans Z0 KK79.1) W0 EX79 Zs ) hZ (hw _ (List.mem_of_getElem? (i := 28) rfl)) (hw _ (List.mem_of_getElem? (i := 27) rfl)) (by decide) (by decide)) (g := (mkF m 174 #[.val (.long p0), .second, .val (.long p1), .second, .val (.long p2), .second, .val (.long p3), .second, .val (.long p4), .second, .val (.int p5), .val (.long j57), .second, .val (.long j58), .second, .val (.long j59), .second, .val (.long j60), .second, .val (.long j62), .second, .val (.long q63), .second, .val (.long q64), .second, .val (.long q65), .second, .val (.long q67), .second, .val (.ref b68), .val (.ref b71), .val (.int i86), .unset, .unset, .unset] [(.long j57)])) rfl (by rw [hml]; rfl) (argsL := [(.long j57)]) (rest := []) (lenOf pd_4 rfl) rfl (by show 2 * 0 + _ ≤ _; exact Nat.le_of_eq rfl) (hb hby at_174) (fun _ _ => ⟨rfl, rfl, (by decide : 2 + 2 ≤ _), (by decide : 8 + 2 ≤ _)⟩)
      dsimp only [Pt.U, Pt.locs, Pt.cells, Pt.slots] at X93 l93 y93 z93 st93 hQ93
      subst l93 y93 z93
      unfold Q7 at hQ93
      have k94 : ∀ t, Steps p.tables e below (T79.setTop (mkF m 174 #[.val (.long p0), .second, .val (.long p1), .second, .val (.long p2), .second, .val (.long p3), .second, .val (.long p4), .second, .val (.int p5), .val (.long j57), .second, .val (.long j58), .second, .val (.long j59), .second, .val (.long j60), .second, .val (.long j62), .second, .val (.long q63), .second, .val (.long q64), .second, .val (.long q65), .second, .val (.long q67), .second, .val (.ref b68), .val (.ref b71), .val (.int i86), .unset, .unset, .unset] [(.long j57)])) t → Steps p.tables e below (s₁.setTop (entryFrame m #[(.long p0), (.long p1), (.long p2), (.long p3), (.long p4), (.int p5)] maxLocals)) t := fun t kt => k91 t (by
        show Steps p.tables e below (T79.setTop (mkF m 169 #[.val (.long p0), .second, .val (.long p1), .second, .val (.long p2), .second, .val (.long p3), .second, .val (.long p4), .second, .val (.int p5), .val (.long j57), .second, .val (.long j58), .second, .val (.long j59), .second, .val (.long j60), .second, .val (.long j62), .second, .val (.long q63), .second, .val (.long q64), .second, .val (.long q65), .second, .val (.long q67), .second, .val (.ref b68), .val (.ref b71), .val (.int i86), .unset, .unset, .unset] [(.int (2 : Int32)), (.int i86)])) _
        refine XS.icmpNo X79.here hx rfl (hb hby at_169) rfl (teq (hc92 : i86 = (2 : Int32))).2 ?_
        show Steps p.tables e below (T79.setTop (mkF m 172 #[.val (.long p0), .second, .val (.long p1), .second, .val (.long p2), .second, .val (.long p3), .second, .val (.long p4), .second, .val (.int p5), .val (.long j57), .second, .val (.long j58), .second, .val (.long j59), .second, .val (.long j60), .second, .val (.long j62), .second, .val (.long q63), .second, .val (.long q64), .second, .val (.long q65), .second, .val (.long q67), .second, .val (.ref b68), .val (.ref b71), .val (.int i86), .unset, .unset, .unset] [])) _
        refine XS.lload X79.here hx rfl (hb hby at_172) rfl ?_
        exact kt)
      obtain ⟨r93, rfl, N93q, EXc93, Kc93, Er93⟩ := hQ93
      have N93 := Fr.app N79 N93q
      have E95 := E80.keep Kc93
      have F96 := F81.keep Kc93 nin0
      have F97 := F82.keep Kc93 nin0
      have F98 := F83.keep Kc93 nin0
      have F99 := F84.keep Kc93 nin0
      have E100 := E_b71_79.keep Kc93
      have F101 := G_b71_pendingCredits_79.keep Kc93 nin0
      have F102 := G_b71_pendingDebits_79.keep Kc93 nin0
      have F103 := G_b71_postedCredits_79.keep Kc93 nin0
      have F104 := G_b71_postedDebits_79.keep Kc93 nin0
      have EX93 : Ext h0 T93.heap := EXc93
      have KK93 : Keep h0 T93.heap ([] : List Addr) := Keep.trans KK79 Kc93 all0
      obtain ⟨cq105, kq105, q105a, q105b, q105c⟩ := isOf hZ rfl E95
      obtain ⟨_, _, ⟨T105, L105, k105, n105⟩, -, X105, ⟨Lc105, hQ105, l105, y105, z105⟩, st105⟩ := X93.virtualBack hx (y := (⟨"com/example/rialto/rialto/ledger/AccountTotals", "equals", "(Ljava/lang/Object;)Z"⟩ : MethodName)) (z := (⟨"com/example/rialto/rialto/ledger/AccountTotals", "equals", "(Ljava/lang/Object;)Z"⟩ : MethodName)) hown (mvT hZ (hw _ (List.mem_of_getElem? (i := 18) rfl))) (mvT hZ (hw _ (List.mem_of_getElem? (i := 19) rfl))) (notFace_of_selects (args := #[]) (mvT hZ (hw _ (List.mem_of_getElem? (i := 21) rfl)))) (mvT hZ (hw _ (List.mem_of_getElem? (i := 21) rfl))) (mvT hZ (hw _ (List.mem_of_getElem? (i := 20) rfl))) (by decide) (backOf (W := 0) (rm4 l Z a0 hw [] b68 r93 j57 j58 j59 j60 wcache h0 T93.heap n0 (Nat.le_trans Z0 KK93.1) W0 EX93 Zs ⟨E95, g_b68_69, F96, F97, F98, F99, trivial⟩ Er93 ) hZ (hw _ (List.mem_of_getElem? (i := 22) rfl)) (hw _ (List.mem_of_getElem? (i := 3) rfl)) (by decide) (by decide)) q105a q105c (g := (mkF m 183 #[.val (.long p0), .second, .val (.long p1), .second, .val (.long p2), .second, .val (.long p3), .second, .val (.long p4), .second, .val (.int p5), .val (.long j57), .second, .val (.long j58), .second, .val (.long j59), .second, .val (.long j60), .second, .val (.long j62), .second, .val (.long q63), .second, .val (.long q64), .second, .val (.long q65), .second, .val (.long q67), .second, .val (.ref b68), .val (.ref b71), .val (.int i86), .val (.ref r93), .unset, .unset] [(.ref r93), (.ref b68)])) rfl (by rw [hml]; rfl) (Steps.refl _) (argsL := [(.ref r93)]) (rest := []) (lenOf pd_3 rfl) rfl (by show 2 * 0 + _ ≤ _; exact Nat.le_of_eq rfl) (hb hby at_183) (fun _ _ => ⟨rfl, rfl, (by decide : 4 + 0 ≤ _), (by decide : 10 + 0 ≤ _)⟩)
      dsimp only [Pt.U, Pt.locs, Pt.cells, Pt.slots] at X105 l105 y105 z105 st105 hQ105
      subst l105 y105 z105
      unfold Q4 at hQ105
      have k106 : ∀ t, Steps p.tables e below (T93.setTop (mkF m 183 #[.val (.long p0), .second, .val (.long p1), .second, .val (.long p2), .second, .val (.long p3), .second, .val (.long p4), .second, .val (.int p5), .val (.long j57), .second, .val (.long j58), .second, .val (.long j59), .second, .val (.long j60), .second, .val (.long j62), .second, .val (.long q63), .second, .val (.long q64), .second, .val (.long q65), .second, .val (.long q67), .second, .val (.ref b68), .val (.ref b71), .val (.int i86), .val (.ref r93), .unset, .unset] [(.ref r93), (.ref b68)])) t → Steps p.tables e below (s₁.setTop (entryFrame m #[(.long p0), (.long p1), (.long p2), (.long p3), (.long p4), (.int p5)] maxLocals)) t := fun t kt => k94 t (by
        show Steps p.tables e below (T79.setTop (mkF m 174 #[.val (.long p0), .second, .val (.long p1), .second, .val (.long p2), .second, .val (.long p3), .second, .val (.long p4), .second, .val (.int p5), .val (.long j57), .second, .val (.long j58), .second, .val (.long j59), .second, .val (.long j60), .second, .val (.long j62), .second, .val (.long q63), .second, .val (.long q64), .second, .val (.long q65), .second, .val (.long q67), .second, .val (.ref b68), .val (.ref b71), .val (.int i86), .unset, .unset, .unset] [(.long j57)])) _
        refine st93 _ ?_
        show Steps p.tables e below (T93.setTop (mkF m 177 #[.val (.long p0), .second, .val (.long p1), .second, .val (.long p2), .second, .val (.long p3), .second, .val (.long p4), .second, .val (.int p5), .val (.long j57), .second, .val (.long j58), .second, .val (.long j59), .second, .val (.long j60), .second, .val (.long j62), .second, .val (.long q63), .second, .val (.long q64), .second, .val (.long q65), .second, .val (.long q67), .second, .val (.ref b68), .val (.ref b71), .val (.int i86), .unset, .unset, .unset] [(.ref r93)])) _
        refine XS.astore X93.here hx rfl (hb hby at_177) rfl rfl (l' := #[.val (.long p0), .second, .val (.long p1), .second, .val (.long p2), .second, .val (.long p3), .second, .val (.long p4), .second, .val (.int p5), .val (.long j57), .second, .val (.long j58), .second, .val (.long j59), .second, .val (.long j60), .second, .val (.long j62), .second, .val (.long q63), .second, .val (.long q64), .second, .val (.long q65), .second, .val (.long q67), .second, .val (.ref b68), .val (.ref b71), .val (.int i86), .val (.ref r93), .unset, .unset]) rfl ?_
        show Steps p.tables e below (T93.setTop (mkF m 179 #[.val (.long p0), .second, .val (.long p1), .second, .val (.long p2), .second, .val (.long p3), .second, .val (.long p4), .second, .val (.int p5), .val (.long j57), .second, .val (.long j58), .second, .val (.long j59), .second, .val (.long j60), .second, .val (.long j62), .second, .val (.long q63), .second, .val (.long q64), .second, .val (.long q65), .second, .val (.long q67), .second, .val (.ref b68), .val (.ref b71), .val (.int i86), .val (.ref r93), .unset, .unset] [])) _
        refine XS.aload X93.here hx rfl (hb hby at_179) rfl rfl ?_
        show Steps p.tables e below (T93.setTop (mkF m 181 #[.val (.long p0), .second, .val (.long p1), .second, .val (.long p2), .second, .val (.long p3), .second, .val (.long p4), .second, .val (.int p5), .val (.long j57), .second, .val (.long j58), .second, .val (.long j59), .second, .val (.long j60), .second, .val (.long j62), .second, .val (.long q63), .second, .val (.long q64), .second, .val (.long q65), .second, .val (.long q67), .second, .val (.ref b68), .val (.ref b71), .val (.int i86), .val (.ref r93), .unset, .unset] [(.ref b68)])) _
        refine XS.aload X93.here hx rfl (hb hby at_181) rfl rfl ?_
        exact kt)
      rw [((by rw [f4]) : (f4 b68 r93 j57 j58 j59 j60 wcache) = (0 : Int32))] at hQ105
      obtain ⟨rfl, N105q, e105⟩ := hQ105
      have N105 := Fr.app N93 N105q
      obtain ⟨fs, hr, hrun, hended, hW, hsame⟩ := X105.leave (v := some (.int (1 : Int32))) (fun h => by rw [Bd.returns] at h; cases h)
      refine ⟨_, _, k106 _ ?_, hrun, hended, _, _, rfl, ?_, ⟨_, rfl⟩, hW, hsame.mono (by decide) (by decide)⟩
      · show Steps p.tables e below (T93.setTop (mkF m 183 #[.val (.long p0), .second, .val (.long p1), .second, .val (.long p2), .second, .val (.long p3), .second, .val (.long p4), .second, .val (.int p5), .val (.long j57), .second, .val (.long j58), .second, .val (.long j59), .second, .val (.long j60), .second, .val (.long j62), .second, .val (.long q63), .second, .val (.long q64), .second, .val (.long q65), .second, .val (.long q67), .second, .val (.ref b68), .val (.ref b71), .val (.int i86), .val (.ref r93), .unset, .unset] [(.ref r93), (.ref b68)])) _
        refine st105.trans ?_
        show Steps p.tables e below (T105.setTop (mkF m 186 #[.val (.long p0), .second, .val (.long p1), .second, .val (.long p2), .second, .val (.long p3), .second, .val (.long p4), .second, .val (.int p5), .val (.long j57), .second, .val (.long j58), .second, .val (.long j59), .second, .val (.long j60), .second, .val (.long j62), .second, .val (.long q63), .second, .val (.long q64), .second, .val (.long q65), .second, .val (.long q67), .second, .val (.ref b68), .val (.ref b71), .val (.int i86), .val (.ref r93), .unset, .unset] [(.int (0 : Int32))])) _
        refine XS.ifNo X105.here hx rfl (hb hby at_186) rfl ((if0 _ _).trans (teq (rfl : (0 : Int32) = (0 : Int32))).2) ?_
        show Steps p.tables e below (T105.setTop (mkF m 189 #[.val (.long p0), .second, .val (.long p1), .second, .val (.long p2), .second, .val (.long p3), .second, .val (.long p4), .second, .val (.int p5), .val (.long j57), .second, .val (.long j58), .second, .val (.long j59), .second, .val (.long j60), .second, .val (.long j62), .second, .val (.long q63), .second, .val (.long q64), .second, .val (.long q65), .second, .val (.long q67), .second, .val (.ref b68), .val (.ref b71), .val (.int i86), .val (.ref r93), .unset, .unset] [])) _
        refine XS.iconst X105.here hx rfl (hb hby at_189) ?_
        show Steps p.tables e below (T105.setTop (mkF m 190 #[.val (.long p0), .second, .val (.long p1), .second, .val (.long p2), .second, .val (.long p3), .second, .val (.long p4), .second, .val (.int p5), .val (.long j57), .second, .val (.long j58), .second, .val (.long j59), .second, .val (.long j60), .second, .val (.long j62), .second, .val (.long q63), .second, .val (.long q64), .second, .val (.long q65), .second, .val (.long q67), .second, .val (.ref b68), .val (.ref b71), .val (.int i86), .val (.ref r93), .unset, .unset] [(.int (1 : Int32))])) _
        refine XS.goto X105.here hx rfl (pc0 := 190) (pc' := 194) rfl (hb hby at_190) (by decide) (by decide) ?_
        show Steps p.tables e below (T105.setTop (mkF m 194 #[.val (.long p0), .second, .val (.long p1), .second, .val (.long p2), .second, .val (.long p3), .second, .val (.long p4), .second, .val (.int p5), .val (.long j57), .second, .val (.long j58), .second, .val (.long j59), .second, .val (.long j60), .second, .val (.long j62), .second, .val (.long q63), .second, .val (.long q64), .second, .val (.long q65), .second, .val (.long q67), .second, .val (.ref b68), .val (.ref b71), .val (.int i86), .val (.ref r93), .unset, .unset] [(.int (1 : Int32))])) _
        exact retN X105 hx (t := .boolean) Bd.returns (by simp) (hb hby at_194) hr
      · show Q0 Z p0 p1 p2 p3 p4 p5 wcache h0 n0 _ T105.heap _
        rw [e105]
        exact ⟨rfl, N105⟩
    · have k107 : ∀ t, Steps p.tables e below (T79.setTop (mkF m 198 #[.val (.long p0), .second, .val (.long p1), .second, .val (.long p2), .second, .val (.long p3), .second, .val (.long p4), .second, .val (.int p5), .val (.long j57), .second, .val (.long j58), .second, .val (.long j59), .second, .val (.long j60), .second, .val (.long j62), .second, .val (.long q63), .second, .val (.long q64), .second, .val (.long q65), .second, .val (.long q67), .second, .val (.ref b68), .val (.ref b71), .val (.int i86), .unset, .unset, .unset] [(.int (3 : Int32)), (.int i86)])) t → Steps p.tables e below (s₁.setTop (entryFrame m #[(.long p0), (.long p1), (.long p2), (.long p3), (.long p4), (.int p5)] maxLocals)) t := fun t kt => k91 t (by
        show Steps p.tables e below (T79.setTop (mkF m 169 #[.val (.long p0), .second, .val (.long p1), .second, .val (.long p2), .second, .val (.long p3), .second, .val (.long p4), .second, .val (.int p5), .val (.long j57), .second, .val (.long j58), .second, .val (.long j59), .second, .val (.long j60), .second, .val (.long j62), .second, .val (.long q63), .second, .val (.long q64), .second, .val (.long q65), .second, .val (.long q67), .second, .val (.ref b68), .val (.ref b71), .val (.int i86), .unset, .unset, .unset] [(.int (2 : Int32)), (.int i86)])) _
        refine XS.icmpYes X79.here hx rfl (pc0 := 169) (pc' := 195) rfl (hb hby at_169) rfl (feq (hc92 : ¬ (i86 = (2 : Int32)))).2 (by decide) (by decide) ?_
        show Steps p.tables e below (T79.setTop (mkF m 195 #[.val (.long p0), .second, .val (.long p1), .second, .val (.long p2), .second, .val (.long p3), .second, .val (.long p4), .second, .val (.int p5), .val (.long j57), .second, .val (.long j58), .second, .val (.long j59), .second, .val (.long j60), .second, .val (.long j62), .second, .val (.long q63), .second, .val (.long q64), .second, .val (.long q65), .second, .val (.long q67), .second, .val (.ref b68), .val (.ref b71), .val (.int i86), .unset, .unset, .unset] [])) _
        refine XS.iload X79.here hx rfl (hb hby at_195) rfl ?_
        show Steps p.tables e below (T79.setTop (mkF m 197 #[.val (.long p0), .second, .val (.long p1), .second, .val (.long p2), .second, .val (.long p3), .second, .val (.long p4), .second, .val (.int p5), .val (.long j57), .second, .val (.long j58), .second, .val (.long j59), .second, .val (.long j60), .second, .val (.long j62), .second, .val (.long q63), .second, .val (.long q64), .second, .val (.long q65), .second, .val (.long q67), .second, .val (.ref b68), .val (.ref b71), .val (.int i86), .unset, .unset, .unset] [(.int i86)])) _
        refine XS.iconst X79.here hx rfl (hb hby at_197) ?_
        exact kt)
      by_cases hc108 : i86 = (3 : Int32)
      · obtain ⟨cq109, kq109, q109a, q109b, q109c⟩ := isOf hZ rfl E80
        obtain ⟨_, _, ⟨T109, L109, k109, n109⟩, -, X109, ⟨Lc109, hQ109, l109, y109, z109⟩, st109⟩ := X79.virtualBack hx (y := (⟨"com/example/rialto/rialto/ledger/AccountTotals", "equals", "(Ljava/lang/Object;)Z"⟩ : MethodName)) (z := (⟨"com/example/rialto/rialto/ledger/AccountTotals", "equals", "(Ljava/lang/Object;)Z"⟩ : MethodName)) hown (mvT hZ (hw _ (List.mem_of_getElem? (i := 18) rfl))) (mvT hZ (hw _ (List.mem_of_getElem? (i := 19) rfl))) (notFace_of_selects (args := #[]) (mvT hZ (hw _ (List.mem_of_getElem? (i := 21) rfl)))) (mvT hZ (hw _ (List.mem_of_getElem? (i := 21) rfl))) (mvT hZ (hw _ (List.mem_of_getElem? (i := 20) rfl))) (by decide) (backOf (W := 0) (rm2 l Z a0 hw [] b68 b68 j57 j58 j59 j60 j57 j58 j59 j60 wcache h0 T79.heap n0 (Nat.le_trans Z0 KK79.1) W0 EX79 Zs ⟨E80, g_b68_69, F81, F82, F83, F84, trivial⟩ ⟨E80, g_b68_69, F81, F82, F83, F84, trivial⟩ ) hZ (hw _ (List.mem_of_getElem? (i := 22) rfl)) (hw _ (List.mem_of_getElem? (i := 3) rfl)) (by decide) (by decide)) q109a q109c (g := (mkF m 205 #[.val (.long p0), .second, .val (.long p1), .second, .val (.long p2), .second, .val (.long p3), .second, .val (.long p4), .second, .val (.int p5), .val (.long j57), .second, .val (.long j58), .second, .val (.long j59), .second, .val (.long j60), .second, .val (.long j62), .second, .val (.long q63), .second, .val (.long q64), .second, .val (.long q65), .second, .val (.long q67), .second, .val (.ref b68), .val (.ref b71), .val (.int i86), .unset, .unset, .unset] [(.ref b68), (.ref b68)])) rfl (by rw [hml]; rfl) (Steps.refl _) (argsL := [(.ref b68)]) (rest := []) (lenOf pd_3 rfl) rfl (by show 2 * 0 + _ ≤ _; exact Nat.le_of_eq rfl) (hb hby at_205) (fun _ _ => ⟨rfl, rfl, (by decide : 2 + 0 ≤ _), (by decide : 8 + 0 ≤ _)⟩)
        dsimp only [Pt.U, Pt.locs, Pt.cells, Pt.slots] at X109 l109 y109 z109 st109 hQ109
        subst l109 y109 z109
        unfold Q2 at hQ109
        have k110 : ∀ t, Steps p.tables e below (T79.setTop (mkF m 205 #[.val (.long p0), .second, .val (.long p1), .second, .val (.long p2), .second, .val (.long p3), .second, .val (.long p4), .second, .val (.int p5), .val (.long j57), .second, .val (.long j58), .second, .val (.long j59), .second, .val (.long j60), .second, .val (.long j62), .second, .val (.long q63), .second, .val (.long q64), .second, .val (.long q65), .second, .val (.long q67), .second, .val (.ref b68), .val (.ref b71), .val (.int i86), .unset, .unset, .unset] [(.ref b68), (.ref b68)])) t → Steps p.tables e below (s₁.setTop (entryFrame m #[(.long p0), (.long p1), (.long p2), (.long p3), (.long p4), (.int p5)] maxLocals)) t := fun t kt => k107 t (by
          show Steps p.tables e below (T79.setTop (mkF m 198 #[.val (.long p0), .second, .val (.long p1), .second, .val (.long p2), .second, .val (.long p3), .second, .val (.long p4), .second, .val (.int p5), .val (.long j57), .second, .val (.long j58), .second, .val (.long j59), .second, .val (.long j60), .second, .val (.long j62), .second, .val (.long q63), .second, .val (.long q64), .second, .val (.long q65), .second, .val (.long q67), .second, .val (.ref b68), .val (.ref b71), .val (.int i86), .unset, .unset, .unset] [(.int (3 : Int32)), (.int i86)])) _
          refine XS.icmpNo X79.here hx rfl (hb hby at_198) rfl (teq (hc108 : i86 = (3 : Int32))).2 ?_
          show Steps p.tables e below (T79.setTop (mkF m 201 #[.val (.long p0), .second, .val (.long p1), .second, .val (.long p2), .second, .val (.long p3), .second, .val (.long p4), .second, .val (.int p5), .val (.long j57), .second, .val (.long j58), .second, .val (.long j59), .second, .val (.long j60), .second, .val (.long j62), .second, .val (.long q63), .second, .val (.long q64), .second, .val (.long q65), .second, .val (.long q67), .second, .val (.ref b68), .val (.ref b71), .val (.int i86), .unset, .unset, .unset] [])) _
          refine XS.aload X79.here hx rfl (hb hby at_201) rfl rfl ?_
          show Steps p.tables e below (T79.setTop (mkF m 203 #[.val (.long p0), .second, .val (.long p1), .second, .val (.long p2), .second, .val (.long p3), .second, .val (.long p4), .second, .val (.int p5), .val (.long j57), .second, .val (.long j58), .second, .val (.long j59), .second, .val (.long j60), .second, .val (.long j62), .second, .val (.long q63), .second, .val (.long q64), .second, .val (.long q65), .second, .val (.long q67), .second, .val (.ref b68), .val (.ref b71), .val (.int i86), .unset, .unset, .unset] [(.ref b68)])) _
          refine XS.aload X79.here hx rfl (hb hby at_203) rfl rfl ?_
          exact kt)
        rw [((by rw [f2, if_pos (rfl : j57 = j57), if_pos (rfl : j58 = j58), if_pos (rfl : j59 = j59), if_pos (rfl : j60 = j60)]) : (f2 b68 b68 j57 j58 j59 j60 j57 j58 j59 j60 wcache) = (1 : Int32))] at hQ109
        obtain ⟨rfl, N109q, e109⟩ := hQ109
        have N109 := Fr.app N79 N109q
        obtain ⟨fs, hr, hrun, hended, hW, hsame⟩ := X109.leave (v := some (.int (1 : Int32))) (fun h => by rw [Bd.returns] at h; cases h)
        refine ⟨_, _, k110 _ ?_, hrun, hended, _, _, rfl, ?_, ⟨_, rfl⟩, hW, hsame.mono (by decide) (by decide)⟩
        · show Steps p.tables e below (T79.setTop (mkF m 205 #[.val (.long p0), .second, .val (.long p1), .second, .val (.long p2), .second, .val (.long p3), .second, .val (.long p4), .second, .val (.int p5), .val (.long j57), .second, .val (.long j58), .second, .val (.long j59), .second, .val (.long j60), .second, .val (.long j62), .second, .val (.long q63), .second, .val (.long q64), .second, .val (.long q65), .second, .val (.long q67), .second, .val (.ref b68), .val (.ref b71), .val (.int i86), .unset, .unset, .unset] [(.ref b68), (.ref b68)])) _
          refine st109.trans ?_
          show Steps p.tables e below (T109.setTop (mkF m 208 #[.val (.long p0), .second, .val (.long p1), .second, .val (.long p2), .second, .val (.long p3), .second, .val (.long p4), .second, .val (.int p5), .val (.long j57), .second, .val (.long j58), .second, .val (.long j59), .second, .val (.long j60), .second, .val (.long j62), .second, .val (.long q63), .second, .val (.long q64), .second, .val (.long q65), .second, .val (.long q67), .second, .val (.ref b68), .val (.ref b71), .val (.int i86), .unset, .unset, .unset] [(.int (1 : Int32))])) _
          exact retN X109 hx (t := .boolean) Bd.returns (by simp) (hb hby at_208) hr
        · show Q0 Z p0 p1 p2 p3 p4 p5 wcache h0 n0 _ T109.heap _
          rw [e109]
          exact ⟨rfl, N109⟩
      · have k111 : ∀ t, Steps p.tables e below (T79.setTop (mkF m 214 #[.val (.long p0), .second, .val (.long p1), .second, .val (.long p2), .second, .val (.long p3), .second, .val (.long p4), .second, .val (.int p5), .val (.long j57), .second, .val (.long j58), .second, .val (.long j59), .second, .val (.long j60), .second, .val (.long j62), .second, .val (.long q63), .second, .val (.long q64), .second, .val (.long q65), .second, .val (.long q67), .second, .val (.ref b68), .val (.ref b71), .val (.int i86), .unset, .unset, .unset] [(.int (lcmpW q63 j57))])) t → Steps p.tables e below (s₁.setTop (entryFrame m #[(.long p0), (.long p1), (.long p2), (.long p3), (.long p4), (.int p5)] maxLocals)) t := fun t kt => k107 t (by
          show Steps p.tables e below (T79.setTop (mkF m 198 #[.val (.long p0), .second, .val (.long p1), .second, .val (.long p2), .second, .val (.long p3), .second, .val (.long p4), .second, .val (.int p5), .val (.long j57), .second, .val (.long j58), .second, .val (.long j59), .second, .val (.long j60), .second, .val (.long j62), .second, .val (.long q63), .second, .val (.long q64), .second, .val (.long q65), .second, .val (.long q67), .second, .val (.ref b68), .val (.ref b71), .val (.int i86), .unset, .unset, .unset] [(.int (3 : Int32)), (.int i86)])) _
          refine XS.icmpYes X79.here hx rfl (pc0 := 198) (pc' := 209) rfl (hb hby at_198) rfl (feq (hc108 : ¬ (i86 = (3 : Int32)))).2 (by decide) (by decide) ?_
          show Steps p.tables e below (T79.setTop (mkF m 209 #[.val (.long p0), .second, .val (.long p1), .second, .val (.long p2), .second, .val (.long p3), .second, .val (.long p4), .second, .val (.int p5), .val (.long j57), .second, .val (.long j58), .second, .val (.long j59), .second, .val (.long j60), .second, .val (.long j62), .second, .val (.long q63), .second, .val (.long q64), .second, .val (.long q65), .second, .val (.long q67), .second, .val (.ref b68), .val (.ref b71), .val (.int i86), .unset, .unset, .unset] [])) _
          refine XS.lload X79.here hx rfl (hb hby at_209) rfl ?_
          show Steps p.tables e below (T79.setTop (mkF m 211 #[.val (.long p0), .second, .val (.long p1), .second, .val (.long p2), .second, .val (.long p3), .second, .val (.long p4), .second, .val (.int p5), .val (.long j57), .second, .val (.long j58), .second, .val (.long j59), .second, .val (.long j60), .second, .val (.long j62), .second, .val (.long q63), .second, .val (.long q64), .second, .val (.long q65), .second, .val (.long q67), .second, .val (.ref b68), .val (.ref b71), .val (.int i86), .unset, .unset, .unset] [(.long q63)])) _
          refine XS.lload X79.here hx rfl (hb hby at_211) rfl ?_
          show Steps p.tables e below (T79.setTop (mkF m 213 #[.val (.long p0), .second, .val (.long p1), .second, .val (.long p2), .second, .val (.long p3), .second, .val (.long p4), .second, .val (.int p5), .val (.long j57), .second, .val (.long j58), .second, .val (.long j59), .second, .val (.long j60), .second, .val (.long j62), .second, .val (.long q63), .second, .val (.long q64), .second, .val (.long q65), .second, .val (.long q67), .second, .val (.ref b68), .val (.ref b71), .val (.int i86), .unset, .unset, .unset] [(.long j57), (.long q63)])) _
          refine XS.lcmp X79.here hx rfl (hb hby at_213) rfl ?_
          exact kt)
        by_cases hc112 : q63 = j57
        · have k113 : ∀ t, Steps p.tables e below (T79.setTop (mkF m 222 #[.val (.long p0), .second, .val (.long p1), .second, .val (.long p2), .second, .val (.long p3), .second, .val (.long p4), .second, .val (.int p5), .val (.long j57), .second, .val (.long j58), .second, .val (.long j59), .second, .val (.long j60), .second, .val (.long j62), .second, .val (.long q63), .second, .val (.long q64), .second, .val (.long q65), .second, .val (.long q67), .second, .val (.ref b68), .val (.ref b71), .val (.int i86), .unset, .unset, .unset] [(.int (lcmpW q64 j58))])) t → Steps p.tables e below (s₁.setTop (entryFrame m #[(.long p0), (.long p1), (.long p2), (.long p3), (.long p4), (.int p5)] maxLocals)) t := fun t kt => k111 t (by
            show Steps p.tables e below (T79.setTop (mkF m 214 #[.val (.long p0), .second, .val (.long p1), .second, .val (.long p2), .second, .val (.long p3), .second, .val (.long p4), .second, .val (.int p5), .val (.long j57), .second, .val (.long j58), .second, .val (.long j59), .second, .val (.long j60), .second, .val (.long j62), .second, .val (.long q63), .second, .val (.long q64), .second, .val (.long q65), .second, .val (.long q67), .second, .val (.ref b68), .val (.ref b71), .val (.int i86), .unset, .unset, .unset] [(.int (lcmpW q63 j57))])) _
            refine XS.ifNo X79.here hx rfl (hb hby at_214) rfl ((if0 _ _).trans (teq (own_lcEt (hc112 : q63 = j57) : (lcmpW q63 j57) = (0 : Int32))).2) ?_
            show Steps p.tables e below (T79.setTop (mkF m 217 #[.val (.long p0), .second, .val (.long p1), .second, .val (.long p2), .second, .val (.long p3), .second, .val (.long p4), .second, .val (.int p5), .val (.long j57), .second, .val (.long j58), .second, .val (.long j59), .second, .val (.long j60), .second, .val (.long j62), .second, .val (.long q63), .second, .val (.long q64), .second, .val (.long q65), .second, .val (.long q67), .second, .val (.ref b68), .val (.ref b71), .val (.int i86), .unset, .unset, .unset] [])) _
            refine XS.lload X79.here hx rfl (hb hby at_217) rfl ?_
            show Steps p.tables e below (T79.setTop (mkF m 219 #[.val (.long p0), .second, .val (.long p1), .second, .val (.long p2), .second, .val (.long p3), .second, .val (.long p4), .second, .val (.int p5), .val (.long j57), .second, .val (.long j58), .second, .val (.long j59), .second, .val (.long j60), .second, .val (.long j62), .second, .val (.long q63), .second, .val (.long q64), .second, .val (.long q65), .second, .val (.long q67), .second, .val (.ref b68), .val (.ref b71), .val (.int i86), .unset, .unset, .unset] [(.long q64)])) _
            refine XS.lload X79.here hx rfl (hb hby at_219) rfl ?_
            show Steps p.tables e below (T79.setTop (mkF m 221 #[.val (.long p0), .second, .val (.long p1), .second, .val (.long p2), .second, .val (.long p3), .second, .val (.long p4), .second, .val (.int p5), .val (.long j57), .second, .val (.long j58), .second, .val (.long j59), .second, .val (.long j60), .second, .val (.long j62), .second, .val (.long q63), .second, .val (.long q64), .second, .val (.long q65), .second, .val (.long q67), .second, .val (.ref b68), .val (.ref b71), .val (.int i86), .unset, .unset, .unset] [(.long j58), (.long q64)])) _
            refine XS.lcmp X79.here hx rfl (hb hby at_221) rfl ?_
            exact kt)
          by_cases hc114 : q64 = j58
          · have k115 : ∀ t, Steps p.tables e below (T79.setTop (mkF m 230 #[.val (.long p0), .second, .val (.long p1), .second, .val (.long p2), .second, .val (.long p3), .second, .val (.long p4), .second, .val (.int p5), .val (.long j57), .second, .val (.long j58), .second, .val (.long j59), .second, .val (.long j60), .second, .val (.long j62), .second, .val (.long q63), .second, .val (.long q64), .second, .val (.long q65), .second, .val (.long q67), .second, .val (.ref b68), .val (.ref b71), .val (.int i86), .unset, .unset, .unset] [(.int (lcmpW q65 j59))])) t → Steps p.tables e below (s₁.setTop (entryFrame m #[(.long p0), (.long p1), (.long p2), (.long p3), (.long p4), (.int p5)] maxLocals)) t := fun t kt => k113 t (by
              show Steps p.tables e below (T79.setTop (mkF m 222 #[.val (.long p0), .second, .val (.long p1), .second, .val (.long p2), .second, .val (.long p3), .second, .val (.long p4), .second, .val (.int p5), .val (.long j57), .second, .val (.long j58), .second, .val (.long j59), .second, .val (.long j60), .second, .val (.long j62), .second, .val (.long q63), .second, .val (.long q64), .second, .val (.long q65), .second, .val (.long q67), .second, .val (.ref b68), .val (.ref b71), .val (.int i86), .unset, .unset, .unset] [(.int (lcmpW q64 j58))])) _
              refine XS.ifNo X79.here hx rfl (hb hby at_222) rfl ((if0 _ _).trans (teq (own_lcEt (hc114 : q64 = j58) : (lcmpW q64 j58) = (0 : Int32))).2) ?_
              show Steps p.tables e below (T79.setTop (mkF m 225 #[.val (.long p0), .second, .val (.long p1), .second, .val (.long p2), .second, .val (.long p3), .second, .val (.long p4), .second, .val (.int p5), .val (.long j57), .second, .val (.long j58), .second, .val (.long j59), .second, .val (.long j60), .second, .val (.long j62), .second, .val (.long q63), .second, .val (.long q64), .second, .val (.long q65), .second, .val (.long q67), .second, .val (.ref b68), .val (.ref b71), .val (.int i86), .unset, .unset, .unset] [])) _
              refine XS.lload X79.here hx rfl (hb hby at_225) rfl ?_
              show Steps p.tables e below (T79.setTop (mkF m 227 #[.val (.long p0), .second, .val (.long p1), .second, .val (.long p2), .second, .val (.long p3), .second, .val (.long p4), .second, .val (.int p5), .val (.long j57), .second, .val (.long j58), .second, .val (.long j59), .second, .val (.long j60), .second, .val (.long j62), .second, .val (.long q63), .second, .val (.long q64), .second, .val (.long q65), .second, .val (.long q67), .second, .val (.ref b68), .val (.ref b71), .val (.int i86), .unset, .unset, .unset] [(.long q65)])) _
              refine XS.lload X79.here hx rfl (hb hby at_227) rfl ?_
              show Steps p.tables e below (T79.setTop (mkF m 229 #[.val (.long p0), .second, .val (.long p1), .second, .val (.long p2), .second, .val (.long p3), .second, .val (.long p4), .second, .val (.int p5), .val (.long j57), .second, .val (.long j58), .second, .val (.long j59), .second, .val (.long j60), .second, .val (.long j62), .second, .val (.long q63), .second, .val (.long q64), .second, .val (.long q65), .second, .val (.long q67), .second, .val (.ref b68), .val (.ref b71), .val (.int i86), .unset, .unset, .unset] [(.long j59), (.long q65)])) _
              refine XS.lcmp X79.here hx rfl (hb hby at_229) rfl ?_
              exact kt)
            by_cases hc116 : q65 = j59
            · have k117 : ∀ t, Steps p.tables e below (T79.setTop (mkF m 238 #[.val (.long p0), .second, .val (.long p1), .second, .val (.long p2), .second, .val (.long p3), .second, .val (.long p4), .second, .val (.int p5), .val (.long j57), .second, .val (.long j58), .second, .val (.long j59), .second, .val (.long j60), .second, .val (.long j62), .second, .val (.long q63), .second, .val (.long q64), .second, .val (.long q65), .second, .val (.long q67), .second, .val (.ref b68), .val (.ref b71), .val (.int i86), .unset, .unset, .unset] [(.int (lcmpW q67 j60))])) t → Steps p.tables e below (s₁.setTop (entryFrame m #[(.long p0), (.long p1), (.long p2), (.long p3), (.long p4), (.int p5)] maxLocals)) t := fun t kt => k115 t (by
                show Steps p.tables e below (T79.setTop (mkF m 230 #[.val (.long p0), .second, .val (.long p1), .second, .val (.long p2), .second, .val (.long p3), .second, .val (.long p4), .second, .val (.int p5), .val (.long j57), .second, .val (.long j58), .second, .val (.long j59), .second, .val (.long j60), .second, .val (.long j62), .second, .val (.long q63), .second, .val (.long q64), .second, .val (.long q65), .second, .val (.long q67), .second, .val (.ref b68), .val (.ref b71), .val (.int i86), .unset, .unset, .unset] [(.int (lcmpW q65 j59))])) _
                refine XS.ifNo X79.here hx rfl (hb hby at_230) rfl ((if0 _ _).trans (teq (own_lcEt (hc116 : q65 = j59) : (lcmpW q65 j59) = (0 : Int32))).2) ?_
                show Steps p.tables e below (T79.setTop (mkF m 233 #[.val (.long p0), .second, .val (.long p1), .second, .val (.long p2), .second, .val (.long p3), .second, .val (.long p4), .second, .val (.int p5), .val (.long j57), .second, .val (.long j58), .second, .val (.long j59), .second, .val (.long j60), .second, .val (.long j62), .second, .val (.long q63), .second, .val (.long q64), .second, .val (.long q65), .second, .val (.long q67), .second, .val (.ref b68), .val (.ref b71), .val (.int i86), .unset, .unset, .unset] [])) _
                refine XS.lload X79.here hx rfl (hb hby at_233) rfl ?_
                show Steps p.tables e below (T79.setTop (mkF m 235 #[.val (.long p0), .second, .val (.long p1), .second, .val (.long p2), .second, .val (.long p3), .second, .val (.long p4), .second, .val (.int p5), .val (.long j57), .second, .val (.long j58), .second, .val (.long j59), .second, .val (.long j60), .second, .val (.long j62), .second, .val (.long q63), .second, .val (.long q64), .second, .val (.long q65), .second, .val (.long q67), .second, .val (.ref b68), .val (.ref b71), .val (.int i86), .unset, .unset, .unset] [(.long q67)])) _
                refine XS.lload X79.here hx rfl (hb hby at_235) rfl ?_
                show Steps p.tables e below (T79.setTop (mkF m 237 #[.val (.long p0), .second, .val (.long p1), .second, .val (.long p2), .second, .val (.long p3), .second, .val (.long p4), .second, .val (.int p5), .val (.long j57), .second, .val (.long j58), .second, .val (.long j59), .second, .val (.long j60), .second, .val (.long j62), .second, .val (.long q63), .second, .val (.long q64), .second, .val (.long q65), .second, .val (.long q67), .second, .val (.ref b68), .val (.ref b71), .val (.int i86), .unset, .unset, .unset] [(.long j60), (.long q67)])) _
                refine XS.lcmp X79.here hx rfl (hb hby at_237) rfl ?_
                exact kt)
              by_cases hc118 : q67 = j60
              · obtain ⟨cq119, kq119, q119a, q119b, q119c⟩ := isOf hZ rfl E80
                obtain ⟨_, _, ⟨T119, L119, k119, n119⟩, -, X119, ⟨Lc119, hQ119, l119, y119, z119⟩, st119⟩ := X79.virtualBack hx (y := (⟨"com/example/rialto/rialto/ledger/AccountTotals", "equals", "(Ljava/lang/Object;)Z"⟩ : MethodName)) (z := (⟨"com/example/rialto/rialto/ledger/AccountTotals", "equals", "(Ljava/lang/Object;)Z"⟩ : MethodName)) hown (mvT hZ (hw _ (List.mem_of_getElem? (i := 18) rfl))) (mvT hZ (hw _ (List.mem_of_getElem? (i := 19) rfl))) (notFace_of_selects (args := #[]) (mvT hZ (hw _ (List.mem_of_getElem? (i := 21) rfl)))) (mvT hZ (hw _ (List.mem_of_getElem? (i := 21) rfl))) (mvT hZ (hw _ (List.mem_of_getElem? (i := 20) rfl))) (by decide) (backOf (W := 0) (rm2 l Z a0 hw [] b68 b71 j57 j58 j59 j60 q63 q64 q65 q67 wcache h0 T79.heap n0 (Nat.le_trans Z0 KK79.1) W0 EX79 Zs ⟨E80, g_b68_69, F81, F82, F83, F84, trivial⟩ ⟨E_b71_79, g_b71_79, G_b71_pendingCredits_79, G_b71_pendingDebits_79, G_b71_postedCredits_79, G_b71_postedDebits_79, trivial⟩ ) hZ (hw _ (List.mem_of_getElem? (i := 22) rfl)) (hw _ (List.mem_of_getElem? (i := 3) rfl)) (by decide) (by decide)) q119a q119c (g := (mkF m 252 #[.val (.long p0), .second, .val (.long p1), .second, .val (.long p2), .second, .val (.long p3), .second, .val (.long p4), .second, .val (.int p5), .val (.long j57), .second, .val (.long j58), .second, .val (.long j59), .second, .val (.long j60), .second, .val (.long j62), .second, .val (.long q63), .second, .val (.long q64), .second, .val (.long q65), .second, .val (.long q67), .second, .val (.ref b68), .val (.ref b71), .val (.int i86), .val (.int (1 : Int32)), .unset, .unset] [(.ref b71), (.ref b68)])) rfl (by rw [hml]; rfl) (Steps.refl _) (argsL := [(.ref b71)]) (rest := []) (lenOf pd_3 rfl) rfl (by show 2 * 0 + _ ≤ _; exact Nat.le_of_eq rfl) (hb hby at_252) (fun _ _ => ⟨rfl, rfl, (by decide : 2 + 0 ≤ _), (by decide : 8 + 0 ≤ _)⟩)
                dsimp only [Pt.U, Pt.locs, Pt.cells, Pt.slots] at X119 l119 y119 z119 st119 hQ119
                subst l119 y119 z119
                unfold Q2 at hQ119
                have k120 : ∀ t, Steps p.tables e below (T79.setTop (mkF m 252 #[.val (.long p0), .second, .val (.long p1), .second, .val (.long p2), .second, .val (.long p3), .second, .val (.long p4), .second, .val (.int p5), .val (.long j57), .second, .val (.long j58), .second, .val (.long j59), .second, .val (.long j60), .second, .val (.long j62), .second, .val (.long q63), .second, .val (.long q64), .second, .val (.long q65), .second, .val (.long q67), .second, .val (.ref b68), .val (.ref b71), .val (.int i86), .val (.int (1 : Int32)), .unset, .unset] [(.ref b71), (.ref b68)])) t → Steps p.tables e below (s₁.setTop (entryFrame m #[(.long p0), (.long p1), (.long p2), (.long p3), (.long p4), (.int p5)] maxLocals)) t := fun t kt => k117 t (by
                  show Steps p.tables e below (T79.setTop (mkF m 238 #[.val (.long p0), .second, .val (.long p1), .second, .val (.long p2), .second, .val (.long p3), .second, .val (.long p4), .second, .val (.int p5), .val (.long j57), .second, .val (.long j58), .second, .val (.long j59), .second, .val (.long j60), .second, .val (.long j62), .second, .val (.long q63), .second, .val (.long q64), .second, .val (.long q65), .second, .val (.long q67), .second, .val (.ref b68), .val (.ref b71), .val (.int i86), .unset, .unset, .unset] [(.int (lcmpW q67 j60))])) _
                  refine XS.ifNo X79.here hx rfl (hb hby at_238) rfl ((if0 _ _).trans (teq (own_lcEt (hc118 : q67 = j60) : (lcmpW q67 j60) = (0 : Int32))).2) ?_
                  show Steps p.tables e below (T79.setTop (mkF m 241 #[.val (.long p0), .second, .val (.long p1), .second, .val (.long p2), .second, .val (.long p3), .second, .val (.long p4), .second, .val (.int p5), .val (.long j57), .second, .val (.long j58), .second, .val (.long j59), .second, .val (.long j60), .second, .val (.long j62), .second, .val (.long q63), .second, .val (.long q64), .second, .val (.long q65), .second, .val (.long q67), .second, .val (.ref b68), .val (.ref b71), .val (.int i86), .unset, .unset, .unset] [])) _
                  refine XS.iconst X79.here hx rfl (hb hby at_241) ?_
                  show Steps p.tables e below (T79.setTop (mkF m 242 #[.val (.long p0), .second, .val (.long p1), .second, .val (.long p2), .second, .val (.long p3), .second, .val (.long p4), .second, .val (.int p5), .val (.long j57), .second, .val (.long j58), .second, .val (.long j59), .second, .val (.long j60), .second, .val (.long j62), .second, .val (.long q63), .second, .val (.long q64), .second, .val (.long q65), .second, .val (.long q67), .second, .val (.ref b68), .val (.ref b71), .val (.int i86), .unset, .unset, .unset] [(.int (1 : Int32))])) _
                  refine XS.goto X79.here hx rfl (pc0 := 242) (pc' := 246) rfl (hb hby at_242) (by decide) (by decide) ?_
                  show Steps p.tables e below (T79.setTop (mkF m 246 #[.val (.long p0), .second, .val (.long p1), .second, .val (.long p2), .second, .val (.long p3), .second, .val (.long p4), .second, .val (.int p5), .val (.long j57), .second, .val (.long j58), .second, .val (.long j59), .second, .val (.long j60), .second, .val (.long j62), .second, .val (.long q63), .second, .val (.long q64), .second, .val (.long q65), .second, .val (.long q67), .second, .val (.ref b68), .val (.ref b71), .val (.int i86), .unset, .unset, .unset] [(.int (1 : Int32))])) _
                  refine XS.istore X79.here hx rfl (hb hby at_246) rfl (l' := #[.val (.long p0), .second, .val (.long p1), .second, .val (.long p2), .second, .val (.long p3), .second, .val (.long p4), .second, .val (.int p5), .val (.long j57), .second, .val (.long j58), .second, .val (.long j59), .second, .val (.long j60), .second, .val (.long j62), .second, .val (.long q63), .second, .val (.long q64), .second, .val (.long q65), .second, .val (.long q67), .second, .val (.ref b68), .val (.ref b71), .val (.int i86), .val (.int (1 : Int32)), .unset, .unset]) rfl ?_
                  show Steps p.tables e below (T79.setTop (mkF m 248 #[.val (.long p0), .second, .val (.long p1), .second, .val (.long p2), .second, .val (.long p3), .second, .val (.long p4), .second, .val (.int p5), .val (.long j57), .second, .val (.long j58), .second, .val (.long j59), .second, .val (.long j60), .second, .val (.long j62), .second, .val (.long q63), .second, .val (.long q64), .second, .val (.long q65), .second, .val (.long q67), .second, .val (.ref b68), .val (.ref b71), .val (.int i86), .val (.int (1 : Int32)), .unset, .unset] [])) _
                  refine XS.aload X79.here hx rfl (hb hby at_248) rfl rfl ?_
                  show Steps p.tables e below (T79.setTop (mkF m 250 #[.val (.long p0), .second, .val (.long p1), .second, .val (.long p2), .second, .val (.long p3), .second, .val (.long p4), .second, .val (.int p5), .val (.long j57), .second, .val (.long j58), .second, .val (.long j59), .second, .val (.long j60), .second, .val (.long j62), .second, .val (.long q63), .second, .val (.long q64), .second, .val (.long q65), .second, .val (.long q67), .second, .val (.ref b68), .val (.ref b71), .val (.int i86), .val (.int (1 : Int32)), .unset, .unset] [(.ref b68)])) _
                  refine XS.aload X79.here hx rfl (hb hby at_250) rfl rfl ?_
                  exact kt)
                rw [((by rw [f2, if_pos ((Eq.symm hc112) : j57 = q63), if_pos ((Eq.symm hc114) : j58 = q64), if_pos ((Eq.symm hc116) : j59 = q65), if_pos ((Eq.symm hc118) : j60 = q67)]) : (f2 b68 b71 j57 j58 j59 j60 q63 q64 q65 q67 wcache) = (1 : Int32))] at hQ119
                obtain ⟨rfl, N119q, e119⟩ := hQ119
                have N119 := Fr.app N79 N119q
                obtain ⟨cq121, kq121, q121a, q121b, q121c⟩ := isOf hZ e119 E_b71_79
                obtain ⟨_, _, ⟨T121, L121, k121, n121⟩, -, X121, ⟨Lc121, hQ121, l121, y121, z121⟩, st121⟩ := X119.virtualBack hx (y := (⟨"com/example/rialto/rialto/ledger/AccountTotals", "equals", "(Ljava/lang/Object;)Z"⟩ : MethodName)) (z := (⟨"com/example/rialto/rialto/ledger/AccountTotals", "equals", "(Ljava/lang/Object;)Z"⟩ : MethodName)) hown (mvT hZ (hw _ (List.mem_of_getElem? (i := 18) rfl))) (mvT hZ (hw _ (List.mem_of_getElem? (i := 19) rfl))) (notFace_of_selects (args := #[]) (mvT hZ (hw _ (List.mem_of_getElem? (i := 21) rfl)))) (mvT hZ (hw _ (List.mem_of_getElem? (i := 21) rfl))) (mvT hZ (hw _ (List.mem_of_getElem? (i := 20) rfl))) (by decide) (backOf (W := 0) (rm2 l Z a0 hw [] b71 b68 q63 q64 q65 q67 j57 j58 j59 j60 wcache h0 T79.heap n0 (Nat.le_trans Z0 KK79.1) W0 EX79 Zs ⟨E_b71_79, g_b71_79, G_b71_pendingCredits_79, G_b71_pendingDebits_79, G_b71_postedCredits_79, G_b71_postedDebits_79, trivial⟩ ⟨E80, g_b68_69, F81, F82, F83, F84, trivial⟩ ) hZ (hw _ (List.mem_of_getElem? (i := 22) rfl)) (hw _ (List.mem_of_getElem? (i := 3) rfl)) (by decide) (by decide)) q121a q121c (g := (mkF m 261 #[.val (.long p0), .second, .val (.long p1), .second, .val (.long p2), .second, .val (.long p3), .second, .val (.long p4), .second, .val (.int p5), .val (.long j57), .second, .val (.long j58), .second, .val (.long j59), .second, .val (.long j60), .second, .val (.long j62), .second, .val (.long q63), .second, .val (.long q64), .second, .val (.long q65), .second, .val (.long q67), .second, .val (.ref b68), .val (.ref b71), .val (.int i86), .val (.int (1 : Int32)), .val (.int (1 : Int32)), .unset] [(.ref b68), (.ref b71)])) rfl (by rw [hml]; rfl) (Steps.refl _) (argsL := [(.ref b68)]) (rest := []) (lenOf pd_3 rfl) rfl (by show 2 * 0 + _ ≤ _; exact Nat.le_of_eq rfl) (hb hby at_261) (fun _ _ => ⟨rfl, e119, (by decide : 2 + 0 ≤ _), (by decide : 8 + 0 ≤ _)⟩)
                dsimp only [Pt.U, Pt.locs, Pt.cells, Pt.slots] at X121 l121 y121 z121 st121 hQ121
                subst l121 y121 z121
                unfold Q2 at hQ121
                have k122 : ∀ t, Steps p.tables e below (T119.setTop (mkF m 261 #[.val (.long p0), .second, .val (.long p1), .second, .val (.long p2), .second, .val (.long p3), .second, .val (.long p4), .second, .val (.int p5), .val (.long j57), .second, .val (.long j58), .second, .val (.long j59), .second, .val (.long j60), .second, .val (.long j62), .second, .val (.long q63), .second, .val (.long q64), .second, .val (.long q65), .second, .val (.long q67), .second, .val (.ref b68), .val (.ref b71), .val (.int i86), .val (.int (1 : Int32)), .val (.int (1 : Int32)), .unset] [(.ref b68), (.ref b71)])) t → Steps p.tables e below (s₁.setTop (entryFrame m #[(.long p0), (.long p1), (.long p2), (.long p3), (.long p4), (.int p5)] maxLocals)) t := fun t kt => k120 t (by
                  show Steps p.tables e below (T79.setTop (mkF m 252 #[.val (.long p0), .second, .val (.long p1), .second, .val (.long p2), .second, .val (.long p3), .second, .val (.long p4), .second, .val (.int p5), .val (.long j57), .second, .val (.long j58), .second, .val (.long j59), .second, .val (.long j60), .second, .val (.long j62), .second, .val (.long q63), .second, .val (.long q64), .second, .val (.long q65), .second, .val (.long q67), .second, .val (.ref b68), .val (.ref b71), .val (.int i86), .val (.int (1 : Int32)), .unset, .unset] [(.ref b71), (.ref b68)])) _
                  refine st119.trans ?_
                  show Steps p.tables e below (T119.setTop (mkF m 255 #[.val (.long p0), .second, .val (.long p1), .second, .val (.long p2), .second, .val (.long p3), .second, .val (.long p4), .second, .val (.int p5), .val (.long j57), .second, .val (.long j58), .second, .val (.long j59), .second, .val (.long j60), .second, .val (.long j62), .second, .val (.long q63), .second, .val (.long q64), .second, .val (.long q65), .second, .val (.long q67), .second, .val (.ref b68), .val (.ref b71), .val (.int i86), .val (.int (1 : Int32)), .unset, .unset] [(.int (1 : Int32))])) _
                  refine XS.istore X119.here hx rfl (hb hby at_255) rfl (l' := #[.val (.long p0), .second, .val (.long p1), .second, .val (.long p2), .second, .val (.long p3), .second, .val (.long p4), .second, .val (.int p5), .val (.long j57), .second, .val (.long j58), .second, .val (.long j59), .second, .val (.long j60), .second, .val (.long j62), .second, .val (.long q63), .second, .val (.long q64), .second, .val (.long q65), .second, .val (.long q67), .second, .val (.ref b68), .val (.ref b71), .val (.int i86), .val (.int (1 : Int32)), .val (.int (1 : Int32)), .unset]) rfl ?_
                  show Steps p.tables e below (T119.setTop (mkF m 257 #[.val (.long p0), .second, .val (.long p1), .second, .val (.long p2), .second, .val (.long p3), .second, .val (.long p4), .second, .val (.int p5), .val (.long j57), .second, .val (.long j58), .second, .val (.long j59), .second, .val (.long j60), .second, .val (.long j62), .second, .val (.long q63), .second, .val (.long q64), .second, .val (.long q65), .second, .val (.long q67), .second, .val (.ref b68), .val (.ref b71), .val (.int i86), .val (.int (1 : Int32)), .val (.int (1 : Int32)), .unset] [])) _
                  refine XS.aload X119.here hx rfl (hb hby at_257) rfl rfl ?_
                  show Steps p.tables e below (T119.setTop (mkF m 259 #[.val (.long p0), .second, .val (.long p1), .second, .val (.long p2), .second, .val (.long p3), .second, .val (.long p4), .second, .val (.int p5), .val (.long j57), .second, .val (.long j58), .second, .val (.long j59), .second, .val (.long j60), .second, .val (.long j62), .second, .val (.long q63), .second, .val (.long q64), .second, .val (.long q65), .second, .val (.long q67), .second, .val (.ref b68), .val (.ref b71), .val (.int i86), .val (.int (1 : Int32)), .val (.int (1 : Int32)), .unset] [(.ref b71)])) _
                  refine XS.aload X119.here hx rfl (hb hby at_259) rfl rfl ?_
                  exact kt)
                rw [((by rw [f2, if_pos (hc112 : q63 = j57), if_pos (hc114 : q64 = j58), if_pos (hc116 : q65 = j59), if_pos (hc118 : q67 = j60)]) : (f2 b71 b68 q63 q64 q65 q67 j57 j58 j59 j60 wcache) = (1 : Int32))] at hQ121
                obtain ⟨rfl, N121q, e121⟩ := hQ121
                have N121 := Fr.app N119 N121q
                obtain ⟨fs, hr, hrun, hended, hW, hsame⟩ := X121.leave (v := some (.int (1 : Int32))) (fun h => by rw [Bd.returns] at h; cases h)
                refine ⟨_, _, k122 _ ?_, hrun, hended, _, _, rfl, ?_, ⟨_, rfl⟩, hW, hsame.mono (by decide) (by decide)⟩
                · show Steps p.tables e below (T119.setTop (mkF m 261 #[.val (.long p0), .second, .val (.long p1), .second, .val (.long p2), .second, .val (.long p3), .second, .val (.long p4), .second, .val (.int p5), .val (.long j57), .second, .val (.long j58), .second, .val (.long j59), .second, .val (.long j60), .second, .val (.long j62), .second, .val (.long q63), .second, .val (.long q64), .second, .val (.long q65), .second, .val (.long q67), .second, .val (.ref b68), .val (.ref b71), .val (.int i86), .val (.int (1 : Int32)), .val (.int (1 : Int32)), .unset] [(.ref b68), (.ref b71)])) _
                  refine st121.trans ?_
                  show Steps p.tables e below (T121.setTop (mkF m 264 #[.val (.long p0), .second, .val (.long p1), .second, .val (.long p2), .second, .val (.long p3), .second, .val (.long p4), .second, .val (.int p5), .val (.long j57), .second, .val (.long j58), .second, .val (.long j59), .second, .val (.long j60), .second, .val (.long j62), .second, .val (.long q63), .second, .val (.long q64), .second, .val (.long q65), .second, .val (.long q67), .second, .val (.ref b68), .val (.ref b71), .val (.int i86), .val (.int (1 : Int32)), .val (.int (1 : Int32)), .unset] [(.int (1 : Int32))])) _
                  refine XS.istore X121.here hx rfl (hb hby at_264) rfl (l' := #[.val (.long p0), .second, .val (.long p1), .second, .val (.long p2), .second, .val (.long p3), .second, .val (.long p4), .second, .val (.int p5), .val (.long j57), .second, .val (.long j58), .second, .val (.long j59), .second, .val (.long j60), .second, .val (.long j62), .second, .val (.long q63), .second, .val (.long q64), .second, .val (.long q65), .second, .val (.long q67), .second, .val (.ref b68), .val (.ref b71), .val (.int i86), .val (.int (1 : Int32)), .val (.int (1 : Int32)), .val (.int (1 : Int32))]) rfl ?_
                  show Steps p.tables e below (T121.setTop (mkF m 266 #[.val (.long p0), .second, .val (.long p1), .second, .val (.long p2), .second, .val (.long p3), .second, .val (.long p4), .second, .val (.int p5), .val (.long j57), .second, .val (.long j58), .second, .val (.long j59), .second, .val (.long j60), .second, .val (.long j62), .second, .val (.long q63), .second, .val (.long q64), .second, .val (.long q65), .second, .val (.long q67), .second, .val (.ref b68), .val (.ref b71), .val (.int i86), .val (.int (1 : Int32)), .val (.int (1 : Int32)), .val (.int (1 : Int32))] [])) _
                  refine XS.iload X121.here hx rfl (hb hby at_266) rfl ?_
                  show Steps p.tables e below (T121.setTop (mkF m 268 #[.val (.long p0), .second, .val (.long p1), .second, .val (.long p2), .second, .val (.long p3), .second, .val (.long p4), .second, .val (.int p5), .val (.long j57), .second, .val (.long j58), .second, .val (.long j59), .second, .val (.long j60), .second, .val (.long j62), .second, .val (.long q63), .second, .val (.long q64), .second, .val (.long q65), .second, .val (.long q67), .second, .val (.ref b68), .val (.ref b71), .val (.int i86), .val (.int (1 : Int32)), .val (.int (1 : Int32)), .val (.int (1 : Int32))] [(.int (1 : Int32))])) _
                  refine XS.iload X121.here hx rfl (hb hby at_268) rfl ?_
                  show Steps p.tables e below (T121.setTop (mkF m 270 #[.val (.long p0), .second, .val (.long p1), .second, .val (.long p2), .second, .val (.long p3), .second, .val (.long p4), .second, .val (.int p5), .val (.long j57), .second, .val (.long j58), .second, .val (.long j59), .second, .val (.long j60), .second, .val (.long j62), .second, .val (.long q63), .second, .val (.long q64), .second, .val (.long q65), .second, .val (.long q67), .second, .val (.ref b68), .val (.ref b71), .val (.int i86), .val (.int (1 : Int32)), .val (.int (1 : Int32)), .val (.int (1 : Int32))] [(.int (1 : Int32)), (.int (1 : Int32))])) _
                  refine XS.icmpNo X121.here hx rfl (hb hby at_270) rfl (teq (rfl : (1 : Int32) = (1 : Int32))).2 ?_
                  show Steps p.tables e below (T121.setTop (mkF m 273 #[.val (.long p0), .second, .val (.long p1), .second, .val (.long p2), .second, .val (.long p3), .second, .val (.long p4), .second, .val (.int p5), .val (.long j57), .second, .val (.long j58), .second, .val (.long j59), .second, .val (.long j60), .second, .val (.long j62), .second, .val (.long q63), .second, .val (.long q64), .second, .val (.long q65), .second, .val (.long q67), .second, .val (.ref b68), .val (.ref b71), .val (.int i86), .val (.int (1 : Int32)), .val (.int (1 : Int32)), .val (.int (1 : Int32))] [])) _
                  refine XS.iload X121.here hx rfl (hb hby at_273) rfl ?_
                  show Steps p.tables e below (T121.setTop (mkF m 275 #[.val (.long p0), .second, .val (.long p1), .second, .val (.long p2), .second, .val (.long p3), .second, .val (.long p4), .second, .val (.int p5), .val (.long j57), .second, .val (.long j58), .second, .val (.long j59), .second, .val (.long j60), .second, .val (.long j62), .second, .val (.long q63), .second, .val (.long q64), .second, .val (.long q65), .second, .val (.long q67), .second, .val (.ref b68), .val (.ref b71), .val (.int i86), .val (.int (1 : Int32)), .val (.int (1 : Int32)), .val (.int (1 : Int32))] [(.int (1 : Int32))])) _
                  refine XS.iload X121.here hx rfl (hb hby at_275) rfl ?_
                  show Steps p.tables e below (T121.setTop (mkF m 277 #[.val (.long p0), .second, .val (.long p1), .second, .val (.long p2), .second, .val (.long p3), .second, .val (.long p4), .second, .val (.int p5), .val (.long j57), .second, .val (.long j58), .second, .val (.long j59), .second, .val (.long j60), .second, .val (.long j62), .second, .val (.long q63), .second, .val (.long q64), .second, .val (.long q65), .second, .val (.long q67), .second, .val (.ref b68), .val (.ref b71), .val (.int i86), .val (.int (1 : Int32)), .val (.int (1 : Int32)), .val (.int (1 : Int32))] [(.int (1 : Int32)), (.int (1 : Int32))])) _
                  refine XS.icmpNo X121.here hx rfl (hb hby at_277) rfl (teq (rfl : (1 : Int32) = (1 : Int32))).2 ?_
                  show Steps p.tables e below (T121.setTop (mkF m 280 #[.val (.long p0), .second, .val (.long p1), .second, .val (.long p2), .second, .val (.long p3), .second, .val (.long p4), .second, .val (.int p5), .val (.long j57), .second, .val (.long j58), .second, .val (.long j59), .second, .val (.long j60), .second, .val (.long j62), .second, .val (.long q63), .second, .val (.long q64), .second, .val (.long q65), .second, .val (.long q67), .second, .val (.ref b68), .val (.ref b71), .val (.int i86), .val (.int (1 : Int32)), .val (.int (1 : Int32)), .val (.int (1 : Int32))] [])) _
                  refine XS.iconst X121.here hx rfl (hb hby at_280) ?_
                  show Steps p.tables e below (T121.setTop (mkF m 281 #[.val (.long p0), .second, .val (.long p1), .second, .val (.long p2), .second, .val (.long p3), .second, .val (.long p4), .second, .val (.int p5), .val (.long j57), .second, .val (.long j58), .second, .val (.long j59), .second, .val (.long j60), .second, .val (.long j62), .second, .val (.long q63), .second, .val (.long q64), .second, .val (.long q65), .second, .val (.long q67), .second, .val (.ref b68), .val (.ref b71), .val (.int i86), .val (.int (1 : Int32)), .val (.int (1 : Int32)), .val (.int (1 : Int32))] [(.int (1 : Int32))])) _
                  refine XS.goto X121.here hx rfl (pc0 := 281) (pc' := 285) rfl (hb hby at_281) (by decide) (by decide) ?_
                  show Steps p.tables e below (T121.setTop (mkF m 285 #[.val (.long p0), .second, .val (.long p1), .second, .val (.long p2), .second, .val (.long p3), .second, .val (.long p4), .second, .val (.int p5), .val (.long j57), .second, .val (.long j58), .second, .val (.long j59), .second, .val (.long j60), .second, .val (.long j62), .second, .val (.long q63), .second, .val (.long q64), .second, .val (.long q65), .second, .val (.long q67), .second, .val (.ref b68), .val (.ref b71), .val (.int i86), .val (.int (1 : Int32)), .val (.int (1 : Int32)), .val (.int (1 : Int32))] [(.int (1 : Int32))])) _
                  exact retN X121 hx (t := .boolean) Bd.returns (by simp) (hb hby at_285) hr
                · show Q0 Z p0 p1 p2 p3 p4 p5 wcache h0 n0 _ T121.heap _
                  rw [e121]
                  exact ⟨rfl, N121⟩
              · obtain ⟨cq123, kq123, q123a, q123b, q123c⟩ := isOf hZ rfl E80
                obtain ⟨_, _, ⟨T123, L123, k123, n123⟩, -, X123, ⟨Lc123, hQ123, l123, y123, z123⟩, st123⟩ := X79.virtualBack hx (y := (⟨"com/example/rialto/rialto/ledger/AccountTotals", "equals", "(Ljava/lang/Object;)Z"⟩ : MethodName)) (z := (⟨"com/example/rialto/rialto/ledger/AccountTotals", "equals", "(Ljava/lang/Object;)Z"⟩ : MethodName)) hown (mvT hZ (hw _ (List.mem_of_getElem? (i := 18) rfl))) (mvT hZ (hw _ (List.mem_of_getElem? (i := 19) rfl))) (notFace_of_selects (args := #[]) (mvT hZ (hw _ (List.mem_of_getElem? (i := 21) rfl)))) (mvT hZ (hw _ (List.mem_of_getElem? (i := 21) rfl))) (mvT hZ (hw _ (List.mem_of_getElem? (i := 20) rfl))) (by decide) (backOf (W := 0) (rm2 l Z a0 hw [] b68 b71 j57 j58 j59 j60 q63 q64 q65 q67 wcache h0 T79.heap n0 (Nat.le_trans Z0 KK79.1) W0 EX79 Zs ⟨E80, g_b68_69, F81, F82, F83, F84, trivial⟩ ⟨E_b71_79, g_b71_79, G_b71_pendingCredits_79, G_b71_pendingDebits_79, G_b71_postedCredits_79, G_b71_postedDebits_79, trivial⟩ ) hZ (hw _ (List.mem_of_getElem? (i := 22) rfl)) (hw _ (List.mem_of_getElem? (i := 3) rfl)) (by decide) (by decide)) q123a q123c (g := (mkF m 252 #[.val (.long p0), .second, .val (.long p1), .second, .val (.long p2), .second, .val (.long p3), .second, .val (.long p4), .second, .val (.int p5), .val (.long j57), .second, .val (.long j58), .second, .val (.long j59), .second, .val (.long j60), .second, .val (.long j62), .second, .val (.long q63), .second, .val (.long q64), .second, .val (.long q65), .second, .val (.long q67), .second, .val (.ref b68), .val (.ref b71), .val (.int i86), .val (.int (0 : Int32)), .unset, .unset] [(.ref b71), (.ref b68)])) rfl (by rw [hml]; rfl) (Steps.refl _) (argsL := [(.ref b71)]) (rest := []) (lenOf pd_3 rfl) rfl (by show 2 * 0 + _ ≤ _; exact Nat.le_of_eq rfl) (hb hby at_252) (fun _ _ => ⟨rfl, rfl, (by decide : 2 + 0 ≤ _), (by decide : 8 + 0 ≤ _)⟩)
                dsimp only [Pt.U, Pt.locs, Pt.cells, Pt.slots] at X123 l123 y123 z123 st123 hQ123
                subst l123 y123 z123
                unfold Q2 at hQ123
                have k124 : ∀ t, Steps p.tables e below (T79.setTop (mkF m 252 #[.val (.long p0), .second, .val (.long p1), .second, .val (.long p2), .second, .val (.long p3), .second, .val (.long p4), .second, .val (.int p5), .val (.long j57), .second, .val (.long j58), .second, .val (.long j59), .second, .val (.long j60), .second, .val (.long j62), .second, .val (.long q63), .second, .val (.long q64), .second, .val (.long q65), .second, .val (.long q67), .second, .val (.ref b68), .val (.ref b71), .val (.int i86), .val (.int (0 : Int32)), .unset, .unset] [(.ref b71), (.ref b68)])) t → Steps p.tables e below (s₁.setTop (entryFrame m #[(.long p0), (.long p1), (.long p2), (.long p3), (.long p4), (.int p5)] maxLocals)) t := fun t kt => k117 t (by
                  show Steps p.tables e below (T79.setTop (mkF m 238 #[.val (.long p0), .second, .val (.long p1), .second, .val (.long p2), .second, .val (.long p3), .second, .val (.long p4), .second, .val (.int p5), .val (.long j57), .second, .val (.long j58), .second, .val (.long j59), .second, .val (.long j60), .second, .val (.long j62), .second, .val (.long q63), .second, .val (.long q64), .second, .val (.long q65), .second, .val (.long q67), .second, .val (.ref b68), .val (.ref b71), .val (.int i86), .unset, .unset, .unset] [(.int (lcmpW q67 j60))])) _
                  refine XS.ifYes X79.here hx rfl (pc0 := 238) (pc' := 245) rfl (hb hby at_238) rfl ((if0 _ _).trans (feq (own_lcEf (hc118 : ¬ (q67 = j60)) : ¬ ((lcmpW q67 j60) = (0 : Int32)))).2) (by decide) (by decide) ?_
                  show Steps p.tables e below (T79.setTop (mkF m 245 #[.val (.long p0), .second, .val (.long p1), .second, .val (.long p2), .second, .val (.long p3), .second, .val (.long p4), .second, .val (.int p5), .val (.long j57), .second, .val (.long j58), .second, .val (.long j59), .second, .val (.long j60), .second, .val (.long j62), .second, .val (.long q63), .second, .val (.long q64), .second, .val (.long q65), .second, .val (.long q67), .second, .val (.ref b68), .val (.ref b71), .val (.int i86), .unset, .unset, .unset] [])) _
                  refine XS.iconst X79.here hx rfl (hb hby at_245) ?_
                  show Steps p.tables e below (T79.setTop (mkF m 246 #[.val (.long p0), .second, .val (.long p1), .second, .val (.long p2), .second, .val (.long p3), .second, .val (.long p4), .second, .val (.int p5), .val (.long j57), .second, .val (.long j58), .second, .val (.long j59), .second, .val (.long j60), .second, .val (.long j62), .second, .val (.long q63), .second, .val (.long q64), .second, .val (.long q65), .second, .val (.long q67), .second, .val (.ref b68), .val (.ref b71), .val (.int i86), .unset, .unset, .unset] [(.int (0 : Int32))])) _
                  refine XS.istore X79.here hx rfl (hb hby at_246) rfl (l' := #[.val (.long p0), .second, .val (.long p1), .second, .val (.long p2), .second, .val (.long p3), .second, .val (.long p4), .second, .val (.int p5), .val (.long j57), .second, .val (.long j58), .second, .val (.long j59), .second, .val (.long j60), .second, .val (.long j62), .second, .val (.long q63), .second, .val (.long q64), .second, .val (.long q65), .second, .val (.long q67), .second, .val (.ref b68), .val (.ref b71), .val (.int i86), .val (.int (0 : Int32)), .unset, .unset]) rfl ?_
                  show Steps p.tables e below (T79.setTop (mkF m 248 #[.val (.long p0), .second, .val (.long p1), .second, .val (.long p2), .second, .val (.long p3), .second, .val (.long p4), .second, .val (.int p5), .val (.long j57), .second, .val (.long j58), .second, .val (.long j59), .second, .val (.long j60), .second, .val (.long j62), .second, .val (.long q63), .second, .val (.long q64), .second, .val (.long q65), .second, .val (.long q67), .second, .val (.ref b68), .val (.ref b71), .val (.int i86), .val (.int (0 : Int32)), .unset, .unset] [])) _
                  refine XS.aload X79.here hx rfl (hb hby at_248) rfl rfl ?_
                  show Steps p.tables e below (T79.setTop (mkF m 250 #[.val (.long p0), .second, .val (.long p1), .second, .val (.long p2), .second, .val (.long p3), .second, .val (.long p4), .second, .val (.int p5), .val (.long j57), .second, .val (.long j58), .second, .val (.long j59), .second, .val (.long j60), .second, .val (.long j62), .second, .val (.long q63), .second, .val (.long q64), .second, .val (.long q65), .second, .val (.long q67), .second, .val (.ref b68), .val (.ref b71), .val (.int i86), .val (.int (0 : Int32)), .unset, .unset] [(.ref b68)])) _
                  refine XS.aload X79.here hx rfl (hb hby at_250) rfl rfl ?_
                  exact kt)
                rw [((by rw [f2, if_pos ((Eq.symm hc112) : j57 = q63), if_pos ((Eq.symm hc114) : j58 = q64), if_pos ((Eq.symm hc116) : j59 = q65), if_neg ((Ne.symm hc118) : ¬ (j60 = q67))]) : (f2 b68 b71 j57 j58 j59 j60 q63 q64 q65 q67 wcache) = (0 : Int32))] at hQ123
                obtain ⟨rfl, N123q, e123⟩ := hQ123
                have N123 := Fr.app N79 N123q
                obtain ⟨cq125, kq125, q125a, q125b, q125c⟩ := isOf hZ e123 E_b71_79
                obtain ⟨_, _, ⟨T125, L125, k125, n125⟩, -, X125, ⟨Lc125, hQ125, l125, y125, z125⟩, st125⟩ := X123.virtualBack hx (y := (⟨"com/example/rialto/rialto/ledger/AccountTotals", "equals", "(Ljava/lang/Object;)Z"⟩ : MethodName)) (z := (⟨"com/example/rialto/rialto/ledger/AccountTotals", "equals", "(Ljava/lang/Object;)Z"⟩ : MethodName)) hown (mvT hZ (hw _ (List.mem_of_getElem? (i := 18) rfl))) (mvT hZ (hw _ (List.mem_of_getElem? (i := 19) rfl))) (notFace_of_selects (args := #[]) (mvT hZ (hw _ (List.mem_of_getElem? (i := 21) rfl)))) (mvT hZ (hw _ (List.mem_of_getElem? (i := 21) rfl))) (mvT hZ (hw _ (List.mem_of_getElem? (i := 20) rfl))) (by decide) (backOf (W := 0) (rm2 l Z a0 hw [] b71 b68 q63 q64 q65 q67 j57 j58 j59 j60 wcache h0 T79.heap n0 (Nat.le_trans Z0 KK79.1) W0 EX79 Zs ⟨E_b71_79, g_b71_79, G_b71_pendingCredits_79, G_b71_pendingDebits_79, G_b71_postedCredits_79, G_b71_postedDebits_79, trivial⟩ ⟨E80, g_b68_69, F81, F82, F83, F84, trivial⟩ ) hZ (hw _ (List.mem_of_getElem? (i := 22) rfl)) (hw _ (List.mem_of_getElem? (i := 3) rfl)) (by decide) (by decide)) q125a q125c (g := (mkF m 261 #[.val (.long p0), .second, .val (.long p1), .second, .val (.long p2), .second, .val (.long p3), .second, .val (.long p4), .second, .val (.int p5), .val (.long j57), .second, .val (.long j58), .second, .val (.long j59), .second, .val (.long j60), .second, .val (.long j62), .second, .val (.long q63), .second, .val (.long q64), .second, .val (.long q65), .second, .val (.long q67), .second, .val (.ref b68), .val (.ref b71), .val (.int i86), .val (.int (0 : Int32)), .val (.int (0 : Int32)), .unset] [(.ref b68), (.ref b71)])) rfl (by rw [hml]; rfl) (Steps.refl _) (argsL := [(.ref b68)]) (rest := []) (lenOf pd_3 rfl) rfl (by show 2 * 0 + _ ≤ _; exact Nat.le_of_eq rfl) (hb hby at_261) (fun _ _ => ⟨rfl, e123, (by decide : 2 + 0 ≤ _), (by decide : 8 + 0 ≤ _)⟩)
                dsimp only [Pt.U, Pt.locs, Pt.cells, Pt.slots] at X125 l125 y125 z125 st125 hQ125
                subst l125 y125 z125
                unfold Q2 at hQ125
                have k126 : ∀ t, Steps p.tables e below (T123.setTop (mkF m 261 #[.val (.long p0), .second, .val (.long p1), .second, .val (.long p2), .second, .val (.long p3), .second, .val (.long p4), .second, .val (.int p5), .val (.long j57), .second, .val (.long j58), .second, .val (.long j59), .second, .val (.long j60), .second, .val (.long j62), .second, .val (.long q63), .second, .val (.long q64), .second, .val (.long q65), .second, .val (.long q67), .second, .val (.ref b68), .val (.ref b71), .val (.int i86), .val (.int (0 : Int32)), .val (.int (0 : Int32)), .unset] [(.ref b68), (.ref b71)])) t → Steps p.tables e below (s₁.setTop (entryFrame m #[(.long p0), (.long p1), (.long p2), (.long p3), (.long p4), (.int p5)] maxLocals)) t := fun t kt => k124 t (by
                  show Steps p.tables e below (T79.setTop (mkF m 252 #[.val (.long p0), .second, .val (.long p1), .second, .val (.long p2), .second, .val (.long p3), .second, .val (.long p4), .second, .val (.int p5), .val (.long j57), .second, .val (.long j58), .second, .val (.long j59), .second, .val (.long j60), .second, .val (.long j62), .second, .val (.long q63), .second, .val (.long q64), .second, .val (.long q65), .second, .val (.long q67), .second, .val (.ref b68), .val (.ref b71), .val (.int i86), .val (.int (0 : Int32)), .unset, .unset] [(.ref b71), (.ref b68)])) _
                  refine st123.trans ?_
                  show Steps p.tables e below (T123.setTop (mkF m 255 #[.val (.long p0), .second, .val (.long p1), .second, .val (.long p2), .second, .val (.long p3), .second, .val (.long p4), .second, .val (.int p5), .val (.long j57), .second, .val (.long j58), .second, .val (.long j59), .second, .val (.long j60), .second, .val (.long j62), .second, .val (.long q63), .second, .val (.long q64), .second, .val (.long q65), .second, .val (.long q67), .second, .val (.ref b68), .val (.ref b71), .val (.int i86), .val (.int (0 : Int32)), .unset, .unset] [(.int (0 : Int32))])) _
                  refine XS.istore X123.here hx rfl (hb hby at_255) rfl (l' := #[.val (.long p0), .second, .val (.long p1), .second, .val (.long p2), .second, .val (.long p3), .second, .val (.long p4), .second, .val (.int p5), .val (.long j57), .second, .val (.long j58), .second, .val (.long j59), .second, .val (.long j60), .second, .val (.long j62), .second, .val (.long q63), .second, .val (.long q64), .second, .val (.long q65), .second, .val (.long q67), .second, .val (.ref b68), .val (.ref b71), .val (.int i86), .val (.int (0 : Int32)), .val (.int (0 : Int32)), .unset]) rfl ?_
                  show Steps p.tables e below (T123.setTop (mkF m 257 #[.val (.long p0), .second, .val (.long p1), .second, .val (.long p2), .second, .val (.long p3), .second, .val (.long p4), .second, .val (.int p5), .val (.long j57), .second, .val (.long j58), .second, .val (.long j59), .second, .val (.long j60), .second, .val (.long j62), .second, .val (.long q63), .second, .val (.long q64), .second, .val (.long q65), .second, .val (.long q67), .second, .val (.ref b68), .val (.ref b71), .val (.int i86), .val (.int (0 : Int32)), .val (.int (0 : Int32)), .unset] [])) _
                  refine XS.aload X123.here hx rfl (hb hby at_257) rfl rfl ?_
                  show Steps p.tables e below (T123.setTop (mkF m 259 #[.val (.long p0), .second, .val (.long p1), .second, .val (.long p2), .second, .val (.long p3), .second, .val (.long p4), .second, .val (.int p5), .val (.long j57), .second, .val (.long j58), .second, .val (.long j59), .second, .val (.long j60), .second, .val (.long j62), .second, .val (.long q63), .second, .val (.long q64), .second, .val (.long q65), .second, .val (.long q67), .second, .val (.ref b68), .val (.ref b71), .val (.int i86), .val (.int (0 : Int32)), .val (.int (0 : Int32)), .unset] [(.ref b71)])) _
                  refine XS.aload X123.here hx rfl (hb hby at_259) rfl rfl ?_
                  exact kt)
                rw [((by rw [f2, if_pos (hc112 : q63 = j57), if_pos (hc114 : q64 = j58), if_pos (hc116 : q65 = j59), if_neg (hc118 : ¬ (q67 = j60))]) : (f2 b71 b68 q63 q64 q65 q67 j57 j58 j59 j60 wcache) = (0 : Int32))] at hQ125
                obtain ⟨rfl, N125q, e125⟩ := hQ125
                have N125 := Fr.app N123 N125q
                obtain ⟨fs, hr, hrun, hended, hW, hsame⟩ := X125.leave (v := some (.int (1 : Int32))) (fun h => by rw [Bd.returns] at h; cases h)
                refine ⟨_, _, k126 _ ?_, hrun, hended, _, _, rfl, ?_, ⟨_, rfl⟩, hW, hsame.mono (by decide) (by decide)⟩
                · show Steps p.tables e below (T123.setTop (mkF m 261 #[.val (.long p0), .second, .val (.long p1), .second, .val (.long p2), .second, .val (.long p3), .second, .val (.long p4), .second, .val (.int p5), .val (.long j57), .second, .val (.long j58), .second, .val (.long j59), .second, .val (.long j60), .second, .val (.long j62), .second, .val (.long q63), .second, .val (.long q64), .second, .val (.long q65), .second, .val (.long q67), .second, .val (.ref b68), .val (.ref b71), .val (.int i86), .val (.int (0 : Int32)), .val (.int (0 : Int32)), .unset] [(.ref b68), (.ref b71)])) _
                  refine st125.trans ?_
                  show Steps p.tables e below (T125.setTop (mkF m 264 #[.val (.long p0), .second, .val (.long p1), .second, .val (.long p2), .second, .val (.long p3), .second, .val (.long p4), .second, .val (.int p5), .val (.long j57), .second, .val (.long j58), .second, .val (.long j59), .second, .val (.long j60), .second, .val (.long j62), .second, .val (.long q63), .second, .val (.long q64), .second, .val (.long q65), .second, .val (.long q67), .second, .val (.ref b68), .val (.ref b71), .val (.int i86), .val (.int (0 : Int32)), .val (.int (0 : Int32)), .unset] [(.int (0 : Int32))])) _
                  refine XS.istore X125.here hx rfl (hb hby at_264) rfl (l' := #[.val (.long p0), .second, .val (.long p1), .second, .val (.long p2), .second, .val (.long p3), .second, .val (.long p4), .second, .val (.int p5), .val (.long j57), .second, .val (.long j58), .second, .val (.long j59), .second, .val (.long j60), .second, .val (.long j62), .second, .val (.long q63), .second, .val (.long q64), .second, .val (.long q65), .second, .val (.long q67), .second, .val (.ref b68), .val (.ref b71), .val (.int i86), .val (.int (0 : Int32)), .val (.int (0 : Int32)), .val (.int (0 : Int32))]) rfl ?_
                  show Steps p.tables e below (T125.setTop (mkF m 266 #[.val (.long p0), .second, .val (.long p1), .second, .val (.long p2), .second, .val (.long p3), .second, .val (.long p4), .second, .val (.int p5), .val (.long j57), .second, .val (.long j58), .second, .val (.long j59), .second, .val (.long j60), .second, .val (.long j62), .second, .val (.long q63), .second, .val (.long q64), .second, .val (.long q65), .second, .val (.long q67), .second, .val (.ref b68), .val (.ref b71), .val (.int i86), .val (.int (0 : Int32)), .val (.int (0 : Int32)), .val (.int (0 : Int32))] [])) _
                  refine XS.iload X125.here hx rfl (hb hby at_266) rfl ?_
                  show Steps p.tables e below (T125.setTop (mkF m 268 #[.val (.long p0), .second, .val (.long p1), .second, .val (.long p2), .second, .val (.long p3), .second, .val (.long p4), .second, .val (.int p5), .val (.long j57), .second, .val (.long j58), .second, .val (.long j59), .second, .val (.long j60), .second, .val (.long j62), .second, .val (.long q63), .second, .val (.long q64), .second, .val (.long q65), .second, .val (.long q67), .second, .val (.ref b68), .val (.ref b71), .val (.int i86), .val (.int (0 : Int32)), .val (.int (0 : Int32)), .val (.int (0 : Int32))] [(.int (0 : Int32))])) _
                  refine XS.iload X125.here hx rfl (hb hby at_268) rfl ?_
                  show Steps p.tables e below (T125.setTop (mkF m 270 #[.val (.long p0), .second, .val (.long p1), .second, .val (.long p2), .second, .val (.long p3), .second, .val (.long p4), .second, .val (.int p5), .val (.long j57), .second, .val (.long j58), .second, .val (.long j59), .second, .val (.long j60), .second, .val (.long j62), .second, .val (.long q63), .second, .val (.long q64), .second, .val (.long q65), .second, .val (.long q67), .second, .val (.ref b68), .val (.ref b71), .val (.int i86), .val (.int (0 : Int32)), .val (.int (0 : Int32)), .val (.int (0 : Int32))] [(.int (0 : Int32)), (.int (0 : Int32))])) _
                  refine XS.icmpNo X125.here hx rfl (hb hby at_270) rfl (teq (rfl : (0 : Int32) = (0 : Int32))).2 ?_
                  show Steps p.tables e below (T125.setTop (mkF m 273 #[.val (.long p0), .second, .val (.long p1), .second, .val (.long p2), .second, .val (.long p3), .second, .val (.long p4), .second, .val (.int p5), .val (.long j57), .second, .val (.long j58), .second, .val (.long j59), .second, .val (.long j60), .second, .val (.long j62), .second, .val (.long q63), .second, .val (.long q64), .second, .val (.long q65), .second, .val (.long q67), .second, .val (.ref b68), .val (.ref b71), .val (.int i86), .val (.int (0 : Int32)), .val (.int (0 : Int32)), .val (.int (0 : Int32))] [])) _
                  refine XS.iload X125.here hx rfl (hb hby at_273) rfl ?_
                  show Steps p.tables e below (T125.setTop (mkF m 275 #[.val (.long p0), .second, .val (.long p1), .second, .val (.long p2), .second, .val (.long p3), .second, .val (.long p4), .second, .val (.int p5), .val (.long j57), .second, .val (.long j58), .second, .val (.long j59), .second, .val (.long j60), .second, .val (.long j62), .second, .val (.long q63), .second, .val (.long q64), .second, .val (.long q65), .second, .val (.long q67), .second, .val (.ref b68), .val (.ref b71), .val (.int i86), .val (.int (0 : Int32)), .val (.int (0 : Int32)), .val (.int (0 : Int32))] [(.int (0 : Int32))])) _
                  refine XS.iload X125.here hx rfl (hb hby at_275) rfl ?_
                  show Steps p.tables e below (T125.setTop (mkF m 277 #[.val (.long p0), .second, .val (.long p1), .second, .val (.long p2), .second, .val (.long p3), .second, .val (.long p4), .second, .val (.int p5), .val (.long j57), .second, .val (.long j58), .second, .val (.long j59), .second, .val (.long j60), .second, .val (.long j62), .second, .val (.long q63), .second, .val (.long q64), .second, .val (.long q65), .second, .val (.long q67), .second, .val (.ref b68), .val (.ref b71), .val (.int i86), .val (.int (0 : Int32)), .val (.int (0 : Int32)), .val (.int (0 : Int32))] [(.int (0 : Int32)), (.int (0 : Int32))])) _
                  refine XS.icmpNo X125.here hx rfl (hb hby at_277) rfl (teq (rfl : (0 : Int32) = (0 : Int32))).2 ?_
                  show Steps p.tables e below (T125.setTop (mkF m 280 #[.val (.long p0), .second, .val (.long p1), .second, .val (.long p2), .second, .val (.long p3), .second, .val (.long p4), .second, .val (.int p5), .val (.long j57), .second, .val (.long j58), .second, .val (.long j59), .second, .val (.long j60), .second, .val (.long j62), .second, .val (.long q63), .second, .val (.long q64), .second, .val (.long q65), .second, .val (.long q67), .second, .val (.ref b68), .val (.ref b71), .val (.int i86), .val (.int (0 : Int32)), .val (.int (0 : Int32)), .val (.int (0 : Int32))] [])) _
                  refine XS.iconst X125.here hx rfl (hb hby at_280) ?_
                  show Steps p.tables e below (T125.setTop (mkF m 281 #[.val (.long p0), .second, .val (.long p1), .second, .val (.long p2), .second, .val (.long p3), .second, .val (.long p4), .second, .val (.int p5), .val (.long j57), .second, .val (.long j58), .second, .val (.long j59), .second, .val (.long j60), .second, .val (.long j62), .second, .val (.long q63), .second, .val (.long q64), .second, .val (.long q65), .second, .val (.long q67), .second, .val (.ref b68), .val (.ref b71), .val (.int i86), .val (.int (0 : Int32)), .val (.int (0 : Int32)), .val (.int (0 : Int32))] [(.int (1 : Int32))])) _
                  refine XS.goto X125.here hx rfl (pc0 := 281) (pc' := 285) rfl (hb hby at_281) (by decide) (by decide) ?_
                  show Steps p.tables e below (T125.setTop (mkF m 285 #[.val (.long p0), .second, .val (.long p1), .second, .val (.long p2), .second, .val (.long p3), .second, .val (.long p4), .second, .val (.int p5), .val (.long j57), .second, .val (.long j58), .second, .val (.long j59), .second, .val (.long j60), .second, .val (.long j62), .second, .val (.long q63), .second, .val (.long q64), .second, .val (.long q65), .second, .val (.long q67), .second, .val (.ref b68), .val (.ref b71), .val (.int i86), .val (.int (0 : Int32)), .val (.int (0 : Int32)), .val (.int (0 : Int32))] [(.int (1 : Int32))])) _
                  exact retN X125 hx (t := .boolean) Bd.returns (by simp) (hb hby at_285) hr
                · show Q0 Z p0 p1 p2 p3 p4 p5 wcache h0 n0 _ T125.heap _
                  rw [e125]
                  exact ⟨rfl, N125⟩
            · obtain ⟨cq127, kq127, q127a, q127b, q127c⟩ := isOf hZ rfl E80
              obtain ⟨_, _, ⟨T127, L127, k127, n127⟩, -, X127, ⟨Lc127, hQ127, l127, y127, z127⟩, st127⟩ := X79.virtualBack hx (y := (⟨"com/example/rialto/rialto/ledger/AccountTotals", "equals", "(Ljava/lang/Object;)Z"⟩ : MethodName)) (z := (⟨"com/example/rialto/rialto/ledger/AccountTotals", "equals", "(Ljava/lang/Object;)Z"⟩ : MethodName)) hown (mvT hZ (hw _ (List.mem_of_getElem? (i := 18) rfl))) (mvT hZ (hw _ (List.mem_of_getElem? (i := 19) rfl))) (notFace_of_selects (args := #[]) (mvT hZ (hw _ (List.mem_of_getElem? (i := 21) rfl)))) (mvT hZ (hw _ (List.mem_of_getElem? (i := 21) rfl))) (mvT hZ (hw _ (List.mem_of_getElem? (i := 20) rfl))) (by decide) (backOf (W := 0) (rm2 l Z a0 hw [] b68 b71 j57 j58 j59 j60 q63 q64 q65 q67 wcache h0 T79.heap n0 (Nat.le_trans Z0 KK79.1) W0 EX79 Zs ⟨E80, g_b68_69, F81, F82, F83, F84, trivial⟩ ⟨E_b71_79, g_b71_79, G_b71_pendingCredits_79, G_b71_pendingDebits_79, G_b71_postedCredits_79, G_b71_postedDebits_79, trivial⟩ ) hZ (hw _ (List.mem_of_getElem? (i := 22) rfl)) (hw _ (List.mem_of_getElem? (i := 3) rfl)) (by decide) (by decide)) q127a q127c (g := (mkF m 252 #[.val (.long p0), .second, .val (.long p1), .second, .val (.long p2), .second, .val (.long p3), .second, .val (.long p4), .second, .val (.int p5), .val (.long j57), .second, .val (.long j58), .second, .val (.long j59), .second, .val (.long j60), .second, .val (.long j62), .second, .val (.long q63), .second, .val (.long q64), .second, .val (.long q65), .second, .val (.long q67), .second, .val (.ref b68), .val (.ref b71), .val (.int i86), .val (.int (0 : Int32)), .unset, .unset] [(.ref b71), (.ref b68)])) rfl (by rw [hml]; rfl) (Steps.refl _) (argsL := [(.ref b71)]) (rest := []) (lenOf pd_3 rfl) rfl (by show 2 * 0 + _ ≤ _; exact Nat.le_of_eq rfl) (hb hby at_252) (fun _ _ => ⟨rfl, rfl, (by decide : 2 + 0 ≤ _), (by decide : 8 + 0 ≤ _)⟩)
              dsimp only [Pt.U, Pt.locs, Pt.cells, Pt.slots] at X127 l127 y127 z127 st127 hQ127
              subst l127 y127 z127
              unfold Q2 at hQ127
              have k128 : ∀ t, Steps p.tables e below (T79.setTop (mkF m 252 #[.val (.long p0), .second, .val (.long p1), .second, .val (.long p2), .second, .val (.long p3), .second, .val (.long p4), .second, .val (.int p5), .val (.long j57), .second, .val (.long j58), .second, .val (.long j59), .second, .val (.long j60), .second, .val (.long j62), .second, .val (.long q63), .second, .val (.long q64), .second, .val (.long q65), .second, .val (.long q67), .second, .val (.ref b68), .val (.ref b71), .val (.int i86), .val (.int (0 : Int32)), .unset, .unset] [(.ref b71), (.ref b68)])) t → Steps p.tables e below (s₁.setTop (entryFrame m #[(.long p0), (.long p1), (.long p2), (.long p3), (.long p4), (.int p5)] maxLocals)) t := fun t kt => k115 t (by
                show Steps p.tables e below (T79.setTop (mkF m 230 #[.val (.long p0), .second, .val (.long p1), .second, .val (.long p2), .second, .val (.long p3), .second, .val (.long p4), .second, .val (.int p5), .val (.long j57), .second, .val (.long j58), .second, .val (.long j59), .second, .val (.long j60), .second, .val (.long j62), .second, .val (.long q63), .second, .val (.long q64), .second, .val (.long q65), .second, .val (.long q67), .second, .val (.ref b68), .val (.ref b71), .val (.int i86), .unset, .unset, .unset] [(.int (lcmpW q65 j59))])) _
                refine XS.ifYes X79.here hx rfl (pc0 := 230) (pc' := 245) rfl (hb hby at_230) rfl ((if0 _ _).trans (feq (own_lcEf (hc116 : ¬ (q65 = j59)) : ¬ ((lcmpW q65 j59) = (0 : Int32)))).2) (by decide) (by decide) ?_
                show Steps p.tables e below (T79.setTop (mkF m 245 #[.val (.long p0), .second, .val (.long p1), .second, .val (.long p2), .second, .val (.long p3), .second, .val (.long p4), .second, .val (.int p5), .val (.long j57), .second, .val (.long j58), .second, .val (.long j59), .second, .val (.long j60), .second, .val (.long j62), .second, .val (.long q63), .second, .val (.long q64), .second, .val (.long q65), .second, .val (.long q67), .second, .val (.ref b68), .val (.ref b71), .val (.int i86), .unset, .unset, .unset] [])) _
                refine XS.iconst X79.here hx rfl (hb hby at_245) ?_
                show Steps p.tables e below (T79.setTop (mkF m 246 #[.val (.long p0), .second, .val (.long p1), .second, .val (.long p2), .second, .val (.long p3), .second, .val (.long p4), .second, .val (.int p5), .val (.long j57), .second, .val (.long j58), .second, .val (.long j59), .second, .val (.long j60), .second, .val (.long j62), .second, .val (.long q63), .second, .val (.long q64), .second, .val (.long q65), .second, .val (.long q67), .second, .val (.ref b68), .val (.ref b71), .val (.int i86), .unset, .unset, .unset] [(.int (0 : Int32))])) _
                refine XS.istore X79.here hx rfl (hb hby at_246) rfl (l' := #[.val (.long p0), .second, .val (.long p1), .second, .val (.long p2), .second, .val (.long p3), .second, .val (.long p4), .second, .val (.int p5), .val (.long j57), .second, .val (.long j58), .second, .val (.long j59), .second, .val (.long j60), .second, .val (.long j62), .second, .val (.long q63), .second, .val (.long q64), .second, .val (.long q65), .second, .val (.long q67), .second, .val (.ref b68), .val (.ref b71), .val (.int i86), .val (.int (0 : Int32)), .unset, .unset]) rfl ?_
                show Steps p.tables e below (T79.setTop (mkF m 248 #[.val (.long p0), .second, .val (.long p1), .second, .val (.long p2), .second, .val (.long p3), .second, .val (.long p4), .second, .val (.int p5), .val (.long j57), .second, .val (.long j58), .second, .val (.long j59), .second, .val (.long j60), .second, .val (.long j62), .second, .val (.long q63), .second, .val (.long q64), .second, .val (.long q65), .second, .val (.long q67), .second, .val (.ref b68), .val (.ref b71), .val (.int i86), .val (.int (0 : Int32)), .unset, .unset] [])) _
                refine XS.aload X79.here hx rfl (hb hby at_248) rfl rfl ?_
                show Steps p.tables e below (T79.setTop (mkF m 250 #[.val (.long p0), .second, .val (.long p1), .second, .val (.long p2), .second, .val (.long p3), .second, .val (.long p4), .second, .val (.int p5), .val (.long j57), .second, .val (.long j58), .second, .val (.long j59), .second, .val (.long j60), .second, .val (.long j62), .second, .val (.long q63), .second, .val (.long q64), .second, .val (.long q65), .second, .val (.long q67), .second, .val (.ref b68), .val (.ref b71), .val (.int i86), .val (.int (0 : Int32)), .unset, .unset] [(.ref b68)])) _
                refine XS.aload X79.here hx rfl (hb hby at_250) rfl rfl ?_
                exact kt)
              rw [((by rw [f2, if_pos ((Eq.symm hc112) : j57 = q63), if_pos ((Eq.symm hc114) : j58 = q64), if_neg ((Ne.symm hc116) : ¬ (j59 = q65))]) : (f2 b68 b71 j57 j58 j59 j60 q63 q64 q65 q67 wcache) = (0 : Int32))] at hQ127
              obtain ⟨rfl, N127q, e127⟩ := hQ127
              have N127 := Fr.app N79 N127q
              obtain ⟨cq129, kq129, q129a, q129b, q129c⟩ := isOf hZ e127 E_b71_79
              obtain ⟨_, _, ⟨T129, L129, k129, n129⟩, -, X129, ⟨Lc129, hQ129, l129, y129, z129⟩, st129⟩ := X127.virtualBack hx (y := (⟨"com/example/rialto/rialto/ledger/AccountTotals", "equals", "(Ljava/lang/Object;)Z"⟩ : MethodName)) (z := (⟨"com/example/rialto/rialto/ledger/AccountTotals", "equals", "(Ljava/lang/Object;)Z"⟩ : MethodName)) hown (mvT hZ (hw _ (List.mem_of_getElem? (i := 18) rfl))) (mvT hZ (hw _ (List.mem_of_getElem? (i := 19) rfl))) (notFace_of_selects (args := #[]) (mvT hZ (hw _ (List.mem_of_getElem? (i := 21) rfl)))) (mvT hZ (hw _ (List.mem_of_getElem? (i := 21) rfl))) (mvT hZ (hw _ (List.mem_of_getElem? (i := 20) rfl))) (by decide) (backOf (W := 0) (rm2 l Z a0 hw [] b71 b68 q63 q64 q65 q67 j57 j58 j59 j60 wcache h0 T79.heap n0 (Nat.le_trans Z0 KK79.1) W0 EX79 Zs ⟨E_b71_79, g_b71_79, G_b71_pendingCredits_79, G_b71_pendingDebits_79, G_b71_postedCredits_79, G_b71_postedDebits_79, trivial⟩ ⟨E80, g_b68_69, F81, F82, F83, F84, trivial⟩ ) hZ (hw _ (List.mem_of_getElem? (i := 22) rfl)) (hw _ (List.mem_of_getElem? (i := 3) rfl)) (by decide) (by decide)) q129a q129c (g := (mkF m 261 #[.val (.long p0), .second, .val (.long p1), .second, .val (.long p2), .second, .val (.long p3), .second, .val (.long p4), .second, .val (.int p5), .val (.long j57), .second, .val (.long j58), .second, .val (.long j59), .second, .val (.long j60), .second, .val (.long j62), .second, .val (.long q63), .second, .val (.long q64), .second, .val (.long q65), .second, .val (.long q67), .second, .val (.ref b68), .val (.ref b71), .val (.int i86), .val (.int (0 : Int32)), .val (.int (0 : Int32)), .unset] [(.ref b68), (.ref b71)])) rfl (by rw [hml]; rfl) (Steps.refl _) (argsL := [(.ref b68)]) (rest := []) (lenOf pd_3 rfl) rfl (by show 2 * 0 + _ ≤ _; exact Nat.le_of_eq rfl) (hb hby at_261) (fun _ _ => ⟨rfl, e127, (by decide : 2 + 0 ≤ _), (by decide : 8 + 0 ≤ _)⟩)
              dsimp only [Pt.U, Pt.locs, Pt.cells, Pt.slots] at X129 l129 y129 z129 st129 hQ129
              subst l129 y129 z129
              unfold Q2 at hQ129
              have k130 : ∀ t, Steps p.tables e below (T127.setTop (mkF m 261 #[.val (.long p0), .second, .val (.long p1), .second, .val (.long p2), .second, .val (.long p3), .second, .val (.long p4), .second, .val (.int p5), .val (.long j57), .second, .val (.long j58), .second, .val (.long j59), .second, .val (.long j60), .second, .val (.long j62), .second, .val (.long q63), .second, .val (.long q64), .second, .val (.long q65), .second, .val (.long q67), .second, .val (.ref b68), .val (.ref b71), .val (.int i86), .val (.int (0 : Int32)), .val (.int (0 : Int32)), .unset] [(.ref b68), (.ref b71)])) t → Steps p.tables e below (s₁.setTop (entryFrame m #[(.long p0), (.long p1), (.long p2), (.long p3), (.long p4), (.int p5)] maxLocals)) t := fun t kt => k128 t (by
                show Steps p.tables e below (T79.setTop (mkF m 252 #[.val (.long p0), .second, .val (.long p1), .second, .val (.long p2), .second, .val (.long p3), .second, .val (.long p4), .second, .val (.int p5), .val (.long j57), .second, .val (.long j58), .second, .val (.long j59), .second, .val (.long j60), .second, .val (.long j62), .second, .val (.long q63), .second, .val (.long q64), .second, .val (.long q65), .second, .val (.long q67), .second, .val (.ref b68), .val (.ref b71), .val (.int i86), .val (.int (0 : Int32)), .unset, .unset] [(.ref b71), (.ref b68)])) _
                refine st127.trans ?_
                show Steps p.tables e below (T127.setTop (mkF m 255 #[.val (.long p0), .second, .val (.long p1), .second, .val (.long p2), .second, .val (.long p3), .second, .val (.long p4), .second, .val (.int p5), .val (.long j57), .second, .val (.long j58), .second, .val (.long j59), .second, .val (.long j60), .second, .val (.long j62), .second, .val (.long q63), .second, .val (.long q64), .second, .val (.long q65), .second, .val (.long q67), .second, .val (.ref b68), .val (.ref b71), .val (.int i86), .val (.int (0 : Int32)), .unset, .unset] [(.int (0 : Int32))])) _
                refine XS.istore X127.here hx rfl (hb hby at_255) rfl (l' := #[.val (.long p0), .second, .val (.long p1), .second, .val (.long p2), .second, .val (.long p3), .second, .val (.long p4), .second, .val (.int p5), .val (.long j57), .second, .val (.long j58), .second, .val (.long j59), .second, .val (.long j60), .second, .val (.long j62), .second, .val (.long q63), .second, .val (.long q64), .second, .val (.long q65), .second, .val (.long q67), .second, .val (.ref b68), .val (.ref b71), .val (.int i86), .val (.int (0 : Int32)), .val (.int (0 : Int32)), .unset]) rfl ?_
                show Steps p.tables e below (T127.setTop (mkF m 257 #[.val (.long p0), .second, .val (.long p1), .second, .val (.long p2), .second, .val (.long p3), .second, .val (.long p4), .second, .val (.int p5), .val (.long j57), .second, .val (.long j58), .second, .val (.long j59), .second, .val (.long j60), .second, .val (.long j62), .second, .val (.long q63), .second, .val (.long q64), .second, .val (.long q65), .second, .val (.long q67), .second, .val (.ref b68), .val (.ref b71), .val (.int i86), .val (.int (0 : Int32)), .val (.int (0 : Int32)), .unset] [])) _
                refine XS.aload X127.here hx rfl (hb hby at_257) rfl rfl ?_
                show Steps p.tables e below (T127.setTop (mkF m 259 #[.val (.long p0), .second, .val (.long p1), .second, .val (.long p2), .second, .val (.long p3), .second, .val (.long p4), .second, .val (.int p5), .val (.long j57), .second, .val (.long j58), .second, .val (.long j59), .second, .val (.long j60), .second, .val (.long j62), .second, .val (.long q63), .second, .val (.long q64), .second, .val (.long q65), .second, .val (.long q67), .second, .val (.ref b68), .val (.ref b71), .val (.int i86), .val (.int (0 : Int32)), .val (.int (0 : Int32)), .unset] [(.ref b71)])) _
                refine XS.aload X127.here hx rfl (hb hby at_259) rfl rfl ?_
                exact kt)
              rw [((by rw [f2, if_pos (hc112 : q63 = j57), if_pos (hc114 : q64 = j58), if_neg (hc116 : ¬ (q65 = j59))]) : (f2 b71 b68 q63 q64 q65 q67 j57 j58 j59 j60 wcache) = (0 : Int32))] at hQ129
              obtain ⟨rfl, N129q, e129⟩ := hQ129
              have N129 := Fr.app N127 N129q
              obtain ⟨fs, hr, hrun, hended, hW, hsame⟩ := X129.leave (v := some (.int (1 : Int32))) (fun h => by rw [Bd.returns] at h; cases h)
              refine ⟨_, _, k130 _ ?_, hrun, hended, _, _, rfl, ?_, ⟨_, rfl⟩, hW, hsame.mono (by decide) (by decide)⟩
              · show Steps p.tables e below (T127.setTop (mkF m 261 #[.val (.long p0), .second, .val (.long p1), .second, .val (.long p2), .second, .val (.long p3), .second, .val (.long p4), .second, .val (.int p5), .val (.long j57), .second, .val (.long j58), .second, .val (.long j59), .second, .val (.long j60), .second, .val (.long j62), .second, .val (.long q63), .second, .val (.long q64), .second, .val (.long q65), .second, .val (.long q67), .second, .val (.ref b68), .val (.ref b71), .val (.int i86), .val (.int (0 : Int32)), .val (.int (0 : Int32)), .unset] [(.ref b68), (.ref b71)])) _
                refine st129.trans ?_
                show Steps p.tables e below (T129.setTop (mkF m 264 #[.val (.long p0), .second, .val (.long p1), .second, .val (.long p2), .second, .val (.long p3), .second, .val (.long p4), .second, .val (.int p5), .val (.long j57), .second, .val (.long j58), .second, .val (.long j59), .second, .val (.long j60), .second, .val (.long j62), .second, .val (.long q63), .second, .val (.long q64), .second, .val (.long q65), .second, .val (.long q67), .second, .val (.ref b68), .val (.ref b71), .val (.int i86), .val (.int (0 : Int32)), .val (.int (0 : Int32)), .unset] [(.int (0 : Int32))])) _
                refine XS.istore X129.here hx rfl (hb hby at_264) rfl (l' := #[.val (.long p0), .second, .val (.long p1), .second, .val (.long p2), .second, .val (.long p3), .second, .val (.long p4), .second, .val (.int p5), .val (.long j57), .second, .val (.long j58), .second, .val (.long j59), .second, .val (.long j60), .second, .val (.long j62), .second, .val (.long q63), .second, .val (.long q64), .second, .val (.long q65), .second, .val (.long q67), .second, .val (.ref b68), .val (.ref b71), .val (.int i86), .val (.int (0 : Int32)), .val (.int (0 : Int32)), .val (.int (0 : Int32))]) rfl ?_
                show Steps p.tables e below (T129.setTop (mkF m 266 #[.val (.long p0), .second, .val (.long p1), .second, .val (.long p2), .second, .val (.long p3), .second, .val (.long p4), .second, .val (.int p5), .val (.long j57), .second, .val (.long j58), .second, .val (.long j59), .second, .val (.long j60), .second, .val (.long j62), .second, .val (.long q63), .second, .val (.long q64), .second, .val (.long q65), .second, .val (.long q67), .second, .val (.ref b68), .val (.ref b71), .val (.int i86), .val (.int (0 : Int32)), .val (.int (0 : Int32)), .val (.int (0 : Int32))] [])) _
                refine XS.iload X129.here hx rfl (hb hby at_266) rfl ?_
                show Steps p.tables e below (T129.setTop (mkF m 268 #[.val (.long p0), .second, .val (.long p1), .second, .val (.long p2), .second, .val (.long p3), .second, .val (.long p4), .second, .val (.int p5), .val (.long j57), .second, .val (.long j58), .second, .val (.long j59), .second, .val (.long j60), .second, .val (.long j62), .second, .val (.long q63), .second, .val (.long q64), .second, .val (.long q65), .second, .val (.long q67), .second, .val (.ref b68), .val (.ref b71), .val (.int i86), .val (.int (0 : Int32)), .val (.int (0 : Int32)), .val (.int (0 : Int32))] [(.int (0 : Int32))])) _
                refine XS.iload X129.here hx rfl (hb hby at_268) rfl ?_
                show Steps p.tables e below (T129.setTop (mkF m 270 #[.val (.long p0), .second, .val (.long p1), .second, .val (.long p2), .second, .val (.long p3), .second, .val (.long p4), .second, .val (.int p5), .val (.long j57), .second, .val (.long j58), .second, .val (.long j59), .second, .val (.long j60), .second, .val (.long j62), .second, .val (.long q63), .second, .val (.long q64), .second, .val (.long q65), .second, .val (.long q67), .second, .val (.ref b68), .val (.ref b71), .val (.int i86), .val (.int (0 : Int32)), .val (.int (0 : Int32)), .val (.int (0 : Int32))] [(.int (0 : Int32)), (.int (0 : Int32))])) _
                refine XS.icmpNo X129.here hx rfl (hb hby at_270) rfl (teq (rfl : (0 : Int32) = (0 : Int32))).2 ?_
                show Steps p.tables e below (T129.setTop (mkF m 273 #[.val (.long p0), .second, .val (.long p1), .second, .val (.long p2), .second, .val (.long p3), .second, .val (.long p4), .second, .val (.int p5), .val (.long j57), .second, .val (.long j58), .second, .val (.long j59), .second, .val (.long j60), .second, .val (.long j62), .second, .val (.long q63), .second, .val (.long q64), .second, .val (.long q65), .second, .val (.long q67), .second, .val (.ref b68), .val (.ref b71), .val (.int i86), .val (.int (0 : Int32)), .val (.int (0 : Int32)), .val (.int (0 : Int32))] [])) _
                refine XS.iload X129.here hx rfl (hb hby at_273) rfl ?_
                show Steps p.tables e below (T129.setTop (mkF m 275 #[.val (.long p0), .second, .val (.long p1), .second, .val (.long p2), .second, .val (.long p3), .second, .val (.long p4), .second, .val (.int p5), .val (.long j57), .second, .val (.long j58), .second, .val (.long j59), .second, .val (.long j60), .second, .val (.long j62), .second, .val (.long q63), .second, .val (.long q64), .second, .val (.long q65), .second, .val (.long q67), .second, .val (.ref b68), .val (.ref b71), .val (.int i86), .val (.int (0 : Int32)), .val (.int (0 : Int32)), .val (.int (0 : Int32))] [(.int (0 : Int32))])) _
                refine XS.iload X129.here hx rfl (hb hby at_275) rfl ?_
                show Steps p.tables e below (T129.setTop (mkF m 277 #[.val (.long p0), .second, .val (.long p1), .second, .val (.long p2), .second, .val (.long p3), .second, .val (.long p4), .second, .val (.int p5), .val (.long j57), .second, .val (.long j58), .second, .val (.long j59), .second, .val (.long j60), .second, .val (.long j62), .second, .val (.long q63), .second, .val (.long q64), .second, .val (.long q65), .second, .val (.long q67), .second, .val (.ref b68), .val (.ref b71), .val (.int i86), .val (.int (0 : Int32)), .val (.int (0 : Int32)), .val (.int (0 : Int32))] [(.int (0 : Int32)), (.int (0 : Int32))])) _
                refine XS.icmpNo X129.here hx rfl (hb hby at_277) rfl (teq (rfl : (0 : Int32) = (0 : Int32))).2 ?_
                show Steps p.tables e below (T129.setTop (mkF m 280 #[.val (.long p0), .second, .val (.long p1), .second, .val (.long p2), .second, .val (.long p3), .second, .val (.long p4), .second, .val (.int p5), .val (.long j57), .second, .val (.long j58), .second, .val (.long j59), .second, .val (.long j60), .second, .val (.long j62), .second, .val (.long q63), .second, .val (.long q64), .second, .val (.long q65), .second, .val (.long q67), .second, .val (.ref b68), .val (.ref b71), .val (.int i86), .val (.int (0 : Int32)), .val (.int (0 : Int32)), .val (.int (0 : Int32))] [])) _
                refine XS.iconst X129.here hx rfl (hb hby at_280) ?_
                show Steps p.tables e below (T129.setTop (mkF m 281 #[.val (.long p0), .second, .val (.long p1), .second, .val (.long p2), .second, .val (.long p3), .second, .val (.long p4), .second, .val (.int p5), .val (.long j57), .second, .val (.long j58), .second, .val (.long j59), .second, .val (.long j60), .second, .val (.long j62), .second, .val (.long q63), .second, .val (.long q64), .second, .val (.long q65), .second, .val (.long q67), .second, .val (.ref b68), .val (.ref b71), .val (.int i86), .val (.int (0 : Int32)), .val (.int (0 : Int32)), .val (.int (0 : Int32))] [(.int (1 : Int32))])) _
                refine XS.goto X129.here hx rfl (pc0 := 281) (pc' := 285) rfl (hb hby at_281) (by decide) (by decide) ?_
                show Steps p.tables e below (T129.setTop (mkF m 285 #[.val (.long p0), .second, .val (.long p1), .second, .val (.long p2), .second, .val (.long p3), .second, .val (.long p4), .second, .val (.int p5), .val (.long j57), .second, .val (.long j58), .second, .val (.long j59), .second, .val (.long j60), .second, .val (.long j62), .second, .val (.long q63), .second, .val (.long q64), .second, .val (.long q65), .second, .val (.long q67), .second, .val (.ref b68), .val (.ref b71), .val (.int i86), .val (.int (0 : Int32)), .val (.int (0 : Int32)), .val (.int (0 : Int32))] [(.int (1 : Int32))])) _
                exact retN X129 hx (t := .boolean) Bd.returns (by simp) (hb hby at_285) hr
              · show Q0 Z p0 p1 p2 p3 p4 p5 wcache h0 n0 _ T129.heap _
                rw [e129]
                exact ⟨rfl, N129⟩
          · obtain ⟨cq131, kq131, q131a, q131b, q131c⟩ := isOf hZ rfl E80
            obtain ⟨_, _, ⟨T131, L131, k131, n131⟩, -, X131, ⟨Lc131, hQ131, l131, y131, z131⟩, st131⟩ := X79.virtualBack hx (y := (⟨"com/example/rialto/rialto/ledger/AccountTotals", "equals", "(Ljava/lang/Object;)Z"⟩ : MethodName)) (z := (⟨"com/example/rialto/rialto/ledger/AccountTotals", "equals", "(Ljava/lang/Object;)Z"⟩ : MethodName)) hown (mvT hZ (hw _ (List.mem_of_getElem? (i := 18) rfl))) (mvT hZ (hw _ (List.mem_of_getElem? (i := 19) rfl))) (notFace_of_selects (args := #[]) (mvT hZ (hw _ (List.mem_of_getElem? (i := 21) rfl)))) (mvT hZ (hw _ (List.mem_of_getElem? (i := 21) rfl))) (mvT hZ (hw _ (List.mem_of_getElem? (i := 20) rfl))) (by decide) (backOf (W := 0) (rm2 l Z a0 hw [] b68 b71 j57 j58 j59 j60 q63 q64 q65 q67 wcache h0 T79.heap n0 (Nat.le_trans Z0 KK79.1) W0 EX79 Zs ⟨E80, g_b68_69, F81, F82, F83, F84, trivial⟩ ⟨E_b71_79, g_b71_79, G_b71_pendingCredits_79, G_b71_pendingDebits_79, G_b71_postedCredits_79, G_b71_postedDebits_79, trivial⟩ ) hZ (hw _ (List.mem_of_getElem? (i := 22) rfl)) (hw _ (List.mem_of_getElem? (i := 3) rfl)) (by decide) (by decide)) q131a q131c (g := (mkF m 252 #[.val (.long p0), .second, .val (.long p1), .second, .val (.long p2), .second, .val (.long p3), .second, .val (.long p4), .second, .val (.int p5), .val (.long j57), .second, .val (.long j58), .second, .val (.long j59), .second, .val (.long j60), .second, .val (.long j62), .second, .val (.long q63), .second, .val (.long q64), .second, .val (.long q65), .second, .val (.long q67), .second, .val (.ref b68), .val (.ref b71), .val (.int i86), .val (.int (0 : Int32)), .unset, .unset] [(.ref b71), (.ref b68)])) rfl (by rw [hml]; rfl) (Steps.refl _) (argsL := [(.ref b71)]) (rest := []) (lenOf pd_3 rfl) rfl (by show 2 * 0 + _ ≤ _; exact Nat.le_of_eq rfl) (hb hby at_252) (fun _ _ => ⟨rfl, rfl, (by decide : 2 + 0 ≤ _), (by decide : 8 + 0 ≤ _)⟩)
            dsimp only [Pt.U, Pt.locs, Pt.cells, Pt.slots] at X131 l131 y131 z131 st131 hQ131
            subst l131 y131 z131
            unfold Q2 at hQ131
            have k132 : ∀ t, Steps p.tables e below (T79.setTop (mkF m 252 #[.val (.long p0), .second, .val (.long p1), .second, .val (.long p2), .second, .val (.long p3), .second, .val (.long p4), .second, .val (.int p5), .val (.long j57), .second, .val (.long j58), .second, .val (.long j59), .second, .val (.long j60), .second, .val (.long j62), .second, .val (.long q63), .second, .val (.long q64), .second, .val (.long q65), .second, .val (.long q67), .second, .val (.ref b68), .val (.ref b71), .val (.int i86), .val (.int (0 : Int32)), .unset, .unset] [(.ref b71), (.ref b68)])) t → Steps p.tables e below (s₁.setTop (entryFrame m #[(.long p0), (.long p1), (.long p2), (.long p3), (.long p4), (.int p5)] maxLocals)) t := fun t kt => k113 t (by
              show Steps p.tables e below (T79.setTop (mkF m 222 #[.val (.long p0), .second, .val (.long p1), .second, .val (.long p2), .second, .val (.long p3), .second, .val (.long p4), .second, .val (.int p5), .val (.long j57), .second, .val (.long j58), .second, .val (.long j59), .second, .val (.long j60), .second, .val (.long j62), .second, .val (.long q63), .second, .val (.long q64), .second, .val (.long q65), .second, .val (.long q67), .second, .val (.ref b68), .val (.ref b71), .val (.int i86), .unset, .unset, .unset] [(.int (lcmpW q64 j58))])) _
              refine XS.ifYes X79.here hx rfl (pc0 := 222) (pc' := 245) rfl (hb hby at_222) rfl ((if0 _ _).trans (feq (own_lcEf (hc114 : ¬ (q64 = j58)) : ¬ ((lcmpW q64 j58) = (0 : Int32)))).2) (by decide) (by decide) ?_
              show Steps p.tables e below (T79.setTop (mkF m 245 #[.val (.long p0), .second, .val (.long p1), .second, .val (.long p2), .second, .val (.long p3), .second, .val (.long p4), .second, .val (.int p5), .val (.long j57), .second, .val (.long j58), .second, .val (.long j59), .second, .val (.long j60), .second, .val (.long j62), .second, .val (.long q63), .second, .val (.long q64), .second, .val (.long q65), .second, .val (.long q67), .second, .val (.ref b68), .val (.ref b71), .val (.int i86), .unset, .unset, .unset] [])) _
              refine XS.iconst X79.here hx rfl (hb hby at_245) ?_
              show Steps p.tables e below (T79.setTop (mkF m 246 #[.val (.long p0), .second, .val (.long p1), .second, .val (.long p2), .second, .val (.long p3), .second, .val (.long p4), .second, .val (.int p5), .val (.long j57), .second, .val (.long j58), .second, .val (.long j59), .second, .val (.long j60), .second, .val (.long j62), .second, .val (.long q63), .second, .val (.long q64), .second, .val (.long q65), .second, .val (.long q67), .second, .val (.ref b68), .val (.ref b71), .val (.int i86), .unset, .unset, .unset] [(.int (0 : Int32))])) _
              refine XS.istore X79.here hx rfl (hb hby at_246) rfl (l' := #[.val (.long p0), .second, .val (.long p1), .second, .val (.long p2), .second, .val (.long p3), .second, .val (.long p4), .second, .val (.int p5), .val (.long j57), .second, .val (.long j58), .second, .val (.long j59), .second, .val (.long j60), .second, .val (.long j62), .second, .val (.long q63), .second, .val (.long q64), .second, .val (.long q65), .second, .val (.long q67), .second, .val (.ref b68), .val (.ref b71), .val (.int i86), .val (.int (0 : Int32)), .unset, .unset]) rfl ?_
              show Steps p.tables e below (T79.setTop (mkF m 248 #[.val (.long p0), .second, .val (.long p1), .second, .val (.long p2), .second, .val (.long p3), .second, .val (.long p4), .second, .val (.int p5), .val (.long j57), .second, .val (.long j58), .second, .val (.long j59), .second, .val (.long j60), .second, .val (.long j62), .second, .val (.long q63), .second, .val (.long q64), .second, .val (.long q65), .second, .val (.long q67), .second, .val (.ref b68), .val (.ref b71), .val (.int i86), .val (.int (0 : Int32)), .unset, .unset] [])) _
              refine XS.aload X79.here hx rfl (hb hby at_248) rfl rfl ?_
              show Steps p.tables e below (T79.setTop (mkF m 250 #[.val (.long p0), .second, .val (.long p1), .second, .val (.long p2), .second, .val (.long p3), .second, .val (.long p4), .second, .val (.int p5), .val (.long j57), .second, .val (.long j58), .second, .val (.long j59), .second, .val (.long j60), .second, .val (.long j62), .second, .val (.long q63), .second, .val (.long q64), .second, .val (.long q65), .second, .val (.long q67), .second, .val (.ref b68), .val (.ref b71), .val (.int i86), .val (.int (0 : Int32)), .unset, .unset] [(.ref b68)])) _
              refine XS.aload X79.here hx rfl (hb hby at_250) rfl rfl ?_
              exact kt)
            rw [((by rw [f2, if_pos ((Eq.symm hc112) : j57 = q63), if_neg ((Ne.symm hc114) : ¬ (j58 = q64))]) : (f2 b68 b71 j57 j58 j59 j60 q63 q64 q65 q67 wcache) = (0 : Int32))] at hQ131
            obtain ⟨rfl, N131q, e131⟩ := hQ131
            have N131 := Fr.app N79 N131q
            obtain ⟨cq133, kq133, q133a, q133b, q133c⟩ := isOf hZ e131 E_b71_79
            obtain ⟨_, _, ⟨T133, L133, k133, n133⟩, -, X133, ⟨Lc133, hQ133, l133, y133, z133⟩, st133⟩ := X131.virtualBack hx (y := (⟨"com/example/rialto/rialto/ledger/AccountTotals", "equals", "(Ljava/lang/Object;)Z"⟩ : MethodName)) (z := (⟨"com/example/rialto/rialto/ledger/AccountTotals", "equals", "(Ljava/lang/Object;)Z"⟩ : MethodName)) hown (mvT hZ (hw _ (List.mem_of_getElem? (i := 18) rfl))) (mvT hZ (hw _ (List.mem_of_getElem? (i := 19) rfl))) (notFace_of_selects (args := #[]) (mvT hZ (hw _ (List.mem_of_getElem? (i := 21) rfl)))) (mvT hZ (hw _ (List.mem_of_getElem? (i := 21) rfl))) (mvT hZ (hw _ (List.mem_of_getElem? (i := 20) rfl))) (by decide) (backOf (W := 0) (rm2 l Z a0 hw [] b71 b68 q63 q64 q65 q67 j57 j58 j59 j60 wcache h0 T79.heap n0 (Nat.le_trans Z0 KK79.1) W0 EX79 Zs ⟨E_b71_79, g_b71_79, G_b71_pendingCredits_79, G_b71_pendingDebits_79, G_b71_postedCredits_79, G_b71_postedDebits_79, trivial⟩ ⟨E80, g_b68_69, F81, F82, F83, F84, trivial⟩ ) hZ (hw _ (List.mem_of_getElem? (i := 22) rfl)) (hw _ (List.mem_of_getElem? (i := 3) rfl)) (by decide) (by decide)) q133a q133c (g := (mkF m 261 #[.val (.long p0), .second, .val (.long p1), .second, .val (.long p2), .second, .val (.long p3), .second, .val (.long p4), .second, .val (.int p5), .val (.long j57), .second, .val (.long j58), .second, .val (.long j59), .second, .val (.long j60), .second, .val (.long j62), .second, .val (.long q63), .second, .val (.long q64), .second, .val (.long q65), .second, .val (.long q67), .second, .val (.ref b68), .val (.ref b71), .val (.int i86), .val (.int (0 : Int32)), .val (.int (0 : Int32)), .unset] [(.ref b68), (.ref b71)])) rfl (by rw [hml]; rfl) (Steps.refl _) (argsL := [(.ref b68)]) (rest := []) (lenOf pd_3 rfl) rfl (by show 2 * 0 + _ ≤ _; exact Nat.le_of_eq rfl) (hb hby at_261) (fun _ _ => ⟨rfl, e131, (by decide : 2 + 0 ≤ _), (by decide : 8 + 0 ≤ _)⟩)
            dsimp only [Pt.U, Pt.locs, Pt.cells, Pt.slots] at X133 l133 y133 z133 st133 hQ133
            subst l133 y133 z133
            unfold Q2 at hQ133
            have k134 : ∀ t, Steps p.tables e below (T131.setTop (mkF m 261 #[.val (.long p0), .second, .val (.long p1), .second, .val (.long p2), .second, .val (.long p3), .second, .val (.long p4), .second, .val (.int p5), .val (.long j57), .second, .val (.long j58), .second, .val (.long j59), .second, .val (.long j60), .second, .val (.long j62), .second, .val (.long q63), .second, .val (.long q64), .second, .val (.long q65), .second, .val (.long q67), .second, .val (.ref b68), .val (.ref b71), .val (.int i86), .val (.int (0 : Int32)), .val (.int (0 : Int32)), .unset] [(.ref b68), (.ref b71)])) t → Steps p.tables e below (s₁.setTop (entryFrame m #[(.long p0), (.long p1), (.long p2), (.long p3), (.long p4), (.int p5)] maxLocals)) t := fun t kt => k132 t (by
              show Steps p.tables e below (T79.setTop (mkF m 252 #[.val (.long p0), .second, .val (.long p1), .second, .val (.long p2), .second, .val (.long p3), .second, .val (.long p4), .second, .val (.int p5), .val (.long j57), .second, .val (.long j58), .second, .val (.long j59), .second, .val (.long j60), .second, .val (.long j62), .second, .val (.long q63), .second, .val (.long q64), .second, .val (.long q65), .second, .val (.long q67), .second, .val (.ref b68), .val (.ref b71), .val (.int i86), .val (.int (0 : Int32)), .unset, .unset] [(.ref b71), (.ref b68)])) _
              refine st131.trans ?_
              show Steps p.tables e below (T131.setTop (mkF m 255 #[.val (.long p0), .second, .val (.long p1), .second, .val (.long p2), .second, .val (.long p3), .second, .val (.long p4), .second, .val (.int p5), .val (.long j57), .second, .val (.long j58), .second, .val (.long j59), .second, .val (.long j60), .second, .val (.long j62), .second, .val (.long q63), .second, .val (.long q64), .second, .val (.long q65), .second, .val (.long q67), .second, .val (.ref b68), .val (.ref b71), .val (.int i86), .val (.int (0 : Int32)), .unset, .unset] [(.int (0 : Int32))])) _
              refine XS.istore X131.here hx rfl (hb hby at_255) rfl (l' := #[.val (.long p0), .second, .val (.long p1), .second, .val (.long p2), .second, .val (.long p3), .second, .val (.long p4), .second, .val (.int p5), .val (.long j57), .second, .val (.long j58), .second, .val (.long j59), .second, .val (.long j60), .second, .val (.long j62), .second, .val (.long q63), .second, .val (.long q64), .second, .val (.long q65), .second, .val (.long q67), .second, .val (.ref b68), .val (.ref b71), .val (.int i86), .val (.int (0 : Int32)), .val (.int (0 : Int32)), .unset]) rfl ?_
              show Steps p.tables e below (T131.setTop (mkF m 257 #[.val (.long p0), .second, .val (.long p1), .second, .val (.long p2), .second, .val (.long p3), .second, .val (.long p4), .second, .val (.int p5), .val (.long j57), .second, .val (.long j58), .second, .val (.long j59), .second, .val (.long j60), .second, .val (.long j62), .second, .val (.long q63), .second, .val (.long q64), .second, .val (.long q65), .second, .val (.long q67), .second, .val (.ref b68), .val (.ref b71), .val (.int i86), .val (.int (0 : Int32)), .val (.int (0 : Int32)), .unset] [])) _
              refine XS.aload X131.here hx rfl (hb hby at_257) rfl rfl ?_
              show Steps p.tables e below (T131.setTop (mkF m 259 #[.val (.long p0), .second, .val (.long p1), .second, .val (.long p2), .second, .val (.long p3), .second, .val (.long p4), .second, .val (.int p5), .val (.long j57), .second, .val (.long j58), .second, .val (.long j59), .second, .val (.long j60), .second, .val (.long j62), .second, .val (.long q63), .second, .val (.long q64), .second, .val (.long q65), .second, .val (.long q67), .second, .val (.ref b68), .val (.ref b71), .val (.int i86), .val (.int (0 : Int32)), .val (.int (0 : Int32)), .unset] [(.ref b71)])) _
              refine XS.aload X131.here hx rfl (hb hby at_259) rfl rfl ?_
              exact kt)
            rw [((by rw [f2, if_pos (hc112 : q63 = j57), if_neg (hc114 : ¬ (q64 = j58))]) : (f2 b71 b68 q63 q64 q65 q67 j57 j58 j59 j60 wcache) = (0 : Int32))] at hQ133
            obtain ⟨rfl, N133q, e133⟩ := hQ133
            have N133 := Fr.app N131 N133q
            obtain ⟨fs, hr, hrun, hended, hW, hsame⟩ := X133.leave (v := some (.int (1 : Int32))) (fun h => by rw [Bd.returns] at h; cases h)
            refine ⟨_, _, k134 _ ?_, hrun, hended, _, _, rfl, ?_, ⟨_, rfl⟩, hW, hsame.mono (by decide) (by decide)⟩
            · show Steps p.tables e below (T131.setTop (mkF m 261 #[.val (.long p0), .second, .val (.long p1), .second, .val (.long p2), .second, .val (.long p3), .second, .val (.long p4), .second, .val (.int p5), .val (.long j57), .second, .val (.long j58), .second, .val (.long j59), .second, .val (.long j60), .second, .val (.long j62), .second, .val (.long q63), .second, .val (.long q64), .second, .val (.long q65), .second, .val (.long q67), .second, .val (.ref b68), .val (.ref b71), .val (.int i86), .val (.int (0 : Int32)), .val (.int (0 : Int32)), .unset] [(.ref b68), (.ref b71)])) _
              refine st133.trans ?_
              show Steps p.tables e below (T133.setTop (mkF m 264 #[.val (.long p0), .second, .val (.long p1), .second, .val (.long p2), .second, .val (.long p3), .second, .val (.long p4), .second, .val (.int p5), .val (.long j57), .second, .val (.long j58), .second, .val (.long j59), .second, .val (.long j60), .second, .val (.long j62), .second, .val (.long q63), .second, .val (.long q64), .second, .val (.long q65), .second, .val (.long q67), .second, .val (.ref b68), .val (.ref b71), .val (.int i86), .val (.int (0 : Int32)), .val (.int (0 : Int32)), .unset] [(.int (0 : Int32))])) _
              refine XS.istore X133.here hx rfl (hb hby at_264) rfl (l' := #[.val (.long p0), .second, .val (.long p1), .second, .val (.long p2), .second, .val (.long p3), .second, .val (.long p4), .second, .val (.int p5), .val (.long j57), .second, .val (.long j58), .second, .val (.long j59), .second, .val (.long j60), .second, .val (.long j62), .second, .val (.long q63), .second, .val (.long q64), .second, .val (.long q65), .second, .val (.long q67), .second, .val (.ref b68), .val (.ref b71), .val (.int i86), .val (.int (0 : Int32)), .val (.int (0 : Int32)), .val (.int (0 : Int32))]) rfl ?_
              show Steps p.tables e below (T133.setTop (mkF m 266 #[.val (.long p0), .second, .val (.long p1), .second, .val (.long p2), .second, .val (.long p3), .second, .val (.long p4), .second, .val (.int p5), .val (.long j57), .second, .val (.long j58), .second, .val (.long j59), .second, .val (.long j60), .second, .val (.long j62), .second, .val (.long q63), .second, .val (.long q64), .second, .val (.long q65), .second, .val (.long q67), .second, .val (.ref b68), .val (.ref b71), .val (.int i86), .val (.int (0 : Int32)), .val (.int (0 : Int32)), .val (.int (0 : Int32))] [])) _
              refine XS.iload X133.here hx rfl (hb hby at_266) rfl ?_
              show Steps p.tables e below (T133.setTop (mkF m 268 #[.val (.long p0), .second, .val (.long p1), .second, .val (.long p2), .second, .val (.long p3), .second, .val (.long p4), .second, .val (.int p5), .val (.long j57), .second, .val (.long j58), .second, .val (.long j59), .second, .val (.long j60), .second, .val (.long j62), .second, .val (.long q63), .second, .val (.long q64), .second, .val (.long q65), .second, .val (.long q67), .second, .val (.ref b68), .val (.ref b71), .val (.int i86), .val (.int (0 : Int32)), .val (.int (0 : Int32)), .val (.int (0 : Int32))] [(.int (0 : Int32))])) _
              refine XS.iload X133.here hx rfl (hb hby at_268) rfl ?_
              show Steps p.tables e below (T133.setTop (mkF m 270 #[.val (.long p0), .second, .val (.long p1), .second, .val (.long p2), .second, .val (.long p3), .second, .val (.long p4), .second, .val (.int p5), .val (.long j57), .second, .val (.long j58), .second, .val (.long j59), .second, .val (.long j60), .second, .val (.long j62), .second, .val (.long q63), .second, .val (.long q64), .second, .val (.long q65), .second, .val (.long q67), .second, .val (.ref b68), .val (.ref b71), .val (.int i86), .val (.int (0 : Int32)), .val (.int (0 : Int32)), .val (.int (0 : Int32))] [(.int (0 : Int32)), (.int (0 : Int32))])) _
              refine XS.icmpNo X133.here hx rfl (hb hby at_270) rfl (teq (rfl : (0 : Int32) = (0 : Int32))).2 ?_
              show Steps p.tables e below (T133.setTop (mkF m 273 #[.val (.long p0), .second, .val (.long p1), .second, .val (.long p2), .second, .val (.long p3), .second, .val (.long p4), .second, .val (.int p5), .val (.long j57), .second, .val (.long j58), .second, .val (.long j59), .second, .val (.long j60), .second, .val (.long j62), .second, .val (.long q63), .second, .val (.long q64), .second, .val (.long q65), .second, .val (.long q67), .second, .val (.ref b68), .val (.ref b71), .val (.int i86), .val (.int (0 : Int32)), .val (.int (0 : Int32)), .val (.int (0 : Int32))] [])) _
              refine XS.iload X133.here hx rfl (hb hby at_273) rfl ?_
              show Steps p.tables e below (T133.setTop (mkF m 275 #[.val (.long p0), .second, .val (.long p1), .second, .val (.long p2), .second, .val (.long p3), .second, .val (.long p4), .second, .val (.int p5), .val (.long j57), .second, .val (.long j58), .second, .val (.long j59), .second, .val (.long j60), .second, .val (.long j62), .second, .val (.long q63), .second, .val (.long q64), .second, .val (.long q65), .second, .val (.long q67), .second, .val (.ref b68), .val (.ref b71), .val (.int i86), .val (.int (0 : Int32)), .val (.int (0 : Int32)), .val (.int (0 : Int32))] [(.int (0 : Int32))])) _
              refine XS.iload X133.here hx rfl (hb hby at_275) rfl ?_
              show Steps p.tables e below (T133.setTop (mkF m 277 #[.val (.long p0), .second, .val (.long p1), .second, .val (.long p2), .second, .val (.long p3), .second, .val (.long p4), .second, .val (.int p5), .val (.long j57), .second, .val (.long j58), .second, .val (.long j59), .second, .val (.long j60), .second, .val (.long j62), .second, .val (.long q63), .second, .val (.long q64), .second, .val (.long q65), .second, .val (.long q67), .second, .val (.ref b68), .val (.ref b71), .val (.int i86), .val (.int (0 : Int32)), .val (.int (0 : Int32)), .val (.int (0 : Int32))] [(.int (0 : Int32)), (.int (0 : Int32))])) _
              refine XS.icmpNo X133.here hx rfl (hb hby at_277) rfl (teq (rfl : (0 : Int32) = (0 : Int32))).2 ?_
              show Steps p.tables e below (T133.setTop (mkF m 280 #[.val (.long p0), .second, .val (.long p1), .second, .val (.long p2), .second, .val (.long p3), .second, .val (.long p4), .second, .val (.int p5), .val (.long j57), .second, .val (.long j58), .second, .val (.long j59), .second, .val (.long j60), .second, .val (.long j62), .second, .val (.long q63), .second, .val (.long q64), .second, .val (.long q65), .second, .val (.long q67), .second, .val (.ref b68), .val (.ref b71), .val (.int i86), .val (.int (0 : Int32)), .val (.int (0 : Int32)), .val (.int (0 : Int32))] [])) _
              refine XS.iconst X133.here hx rfl (hb hby at_280) ?_
              show Steps p.tables e below (T133.setTop (mkF m 281 #[.val (.long p0), .second, .val (.long p1), .second, .val (.long p2), .second, .val (.long p3), .second, .val (.long p4), .second, .val (.int p5), .val (.long j57), .second, .val (.long j58), .second, .val (.long j59), .second, .val (.long j60), .second, .val (.long j62), .second, .val (.long q63), .second, .val (.long q64), .second, .val (.long q65), .second, .val (.long q67), .second, .val (.ref b68), .val (.ref b71), .val (.int i86), .val (.int (0 : Int32)), .val (.int (0 : Int32)), .val (.int (0 : Int32))] [(.int (1 : Int32))])) _
              refine XS.goto X133.here hx rfl (pc0 := 281) (pc' := 285) rfl (hb hby at_281) (by decide) (by decide) ?_
              show Steps p.tables e below (T133.setTop (mkF m 285 #[.val (.long p0), .second, .val (.long p1), .second, .val (.long p2), .second, .val (.long p3), .second, .val (.long p4), .second, .val (.int p5), .val (.long j57), .second, .val (.long j58), .second, .val (.long j59), .second, .val (.long j60), .second, .val (.long j62), .second, .val (.long q63), .second, .val (.long q64), .second, .val (.long q65), .second, .val (.long q67), .second, .val (.ref b68), .val (.ref b71), .val (.int i86), .val (.int (0 : Int32)), .val (.int (0 : Int32)), .val (.int (0 : Int32))] [(.int (1 : Int32))])) _
              exact retN X133 hx (t := .boolean) Bd.returns (by simp) (hb hby at_285) hr
            · show Q0 Z p0 p1 p2 p3 p4 p5 wcache h0 n0 _ T133.heap _
              rw [e133]
              exact ⟨rfl, N133⟩
        · obtain ⟨cq135, kq135, q135a, q135b, q135c⟩ := isOf hZ rfl E80
          obtain ⟨_, _, ⟨T135, L135, k135, n135⟩, -, X135, ⟨Lc135, hQ135, l135, y135, z135⟩, st135⟩ := X79.virtualBack hx (y := (⟨"com/example/rialto/rialto/ledger/AccountTotals", "equals", "(Ljava/lang/Object;)Z"⟩ : MethodName)) (z := (⟨"com/example/rialto/rialto/ledger/AccountTotals", "equals", "(Ljava/lang/Object;)Z"⟩ : MethodName)) hown (mvT hZ (hw _ (List.mem_of_getElem? (i := 18) rfl))) (mvT hZ (hw _ (List.mem_of_getElem? (i := 19) rfl))) (notFace_of_selects (args := #[]) (mvT hZ (hw _ (List.mem_of_getElem? (i := 21) rfl)))) (mvT hZ (hw _ (List.mem_of_getElem? (i := 21) rfl))) (mvT hZ (hw _ (List.mem_of_getElem? (i := 20) rfl))) (by decide) (backOf (W := 0) (rm2 l Z a0 hw [] b68 b71 j57 j58 j59 j60 q63 q64 q65 q67 wcache h0 T79.heap n0 (Nat.le_trans Z0 KK79.1) W0 EX79 Zs ⟨E80, g_b68_69, F81, F82, F83, F84, trivial⟩ ⟨E_b71_79, g_b71_79, G_b71_pendingCredits_79, G_b71_pendingDebits_79, G_b71_postedCredits_79, G_b71_postedDebits_79, trivial⟩ ) hZ (hw _ (List.mem_of_getElem? (i := 22) rfl)) (hw _ (List.mem_of_getElem? (i := 3) rfl)) (by decide) (by decide)) q135a q135c (g := (mkF m 252 #[.val (.long p0), .second, .val (.long p1), .second, .val (.long p2), .second, .val (.long p3), .second, .val (.long p4), .second, .val (.int p5), .val (.long j57), .second, .val (.long j58), .second, .val (.long j59), .second, .val (.long j60), .second, .val (.long j62), .second, .val (.long q63), .second, .val (.long q64), .second, .val (.long q65), .second, .val (.long q67), .second, .val (.ref b68), .val (.ref b71), .val (.int i86), .val (.int (0 : Int32)), .unset, .unset] [(.ref b71), (.ref b68)])) rfl (by rw [hml]; rfl) (Steps.refl _) (argsL := [(.ref b71)]) (rest := []) (lenOf pd_3 rfl) rfl (by show 2 * 0 + _ ≤ _; exact Nat.le_of_eq rfl) (hb hby at_252) (fun _ _ => ⟨rfl, rfl, (by decide : 2 + 0 ≤ _), (by decide : 8 + 0 ≤ _)⟩)
          dsimp only [Pt.U, Pt.locs, Pt.cells, Pt.slots] at X135 l135 y135 z135 st135 hQ135
          subst l135 y135 z135
          unfold Q2 at hQ135
          have k136 : ∀ t, Steps p.tables e below (T79.setTop (mkF m 252 #[.val (.long p0), .second, .val (.long p1), .second, .val (.long p2), .second, .val (.long p3), .second, .val (.long p4), .second, .val (.int p5), .val (.long j57), .second, .val (.long j58), .second, .val (.long j59), .second, .val (.long j60), .second, .val (.long j62), .second, .val (.long q63), .second, .val (.long q64), .second, .val (.long q65), .second, .val (.long q67), .second, .val (.ref b68), .val (.ref b71), .val (.int i86), .val (.int (0 : Int32)), .unset, .unset] [(.ref b71), (.ref b68)])) t → Steps p.tables e below (s₁.setTop (entryFrame m #[(.long p0), (.long p1), (.long p2), (.long p3), (.long p4), (.int p5)] maxLocals)) t := fun t kt => k111 t (by
            show Steps p.tables e below (T79.setTop (mkF m 214 #[.val (.long p0), .second, .val (.long p1), .second, .val (.long p2), .second, .val (.long p3), .second, .val (.long p4), .second, .val (.int p5), .val (.long j57), .second, .val (.long j58), .second, .val (.long j59), .second, .val (.long j60), .second, .val (.long j62), .second, .val (.long q63), .second, .val (.long q64), .second, .val (.long q65), .second, .val (.long q67), .second, .val (.ref b68), .val (.ref b71), .val (.int i86), .unset, .unset, .unset] [(.int (lcmpW q63 j57))])) _
            refine XS.ifYes X79.here hx rfl (pc0 := 214) (pc' := 245) rfl (hb hby at_214) rfl ((if0 _ _).trans (feq (own_lcEf (hc112 : ¬ (q63 = j57)) : ¬ ((lcmpW q63 j57) = (0 : Int32)))).2) (by decide) (by decide) ?_
            show Steps p.tables e below (T79.setTop (mkF m 245 #[.val (.long p0), .second, .val (.long p1), .second, .val (.long p2), .second, .val (.long p3), .second, .val (.long p4), .second, .val (.int p5), .val (.long j57), .second, .val (.long j58), .second, .val (.long j59), .second, .val (.long j60), .second, .val (.long j62), .second, .val (.long q63), .second, .val (.long q64), .second, .val (.long q65), .second, .val (.long q67), .second, .val (.ref b68), .val (.ref b71), .val (.int i86), .unset, .unset, .unset] [])) _
            refine XS.iconst X79.here hx rfl (hb hby at_245) ?_
            show Steps p.tables e below (T79.setTop (mkF m 246 #[.val (.long p0), .second, .val (.long p1), .second, .val (.long p2), .second, .val (.long p3), .second, .val (.long p4), .second, .val (.int p5), .val (.long j57), .second, .val (.long j58), .second, .val (.long j59), .second, .val (.long j60), .second, .val (.long j62), .second, .val (.long q63), .second, .val (.long q64), .second, .val (.long q65), .second, .val (.long q67), .second, .val (.ref b68), .val (.ref b71), .val (.int i86), .unset, .unset, .unset] [(.int (0 : Int32))])) _
            refine XS.istore X79.here hx rfl (hb hby at_246) rfl (l' := #[.val (.long p0), .second, .val (.long p1), .second, .val (.long p2), .second, .val (.long p3), .second, .val (.long p4), .second, .val (.int p5), .val (.long j57), .second, .val (.long j58), .second, .val (.long j59), .second, .val (.long j60), .second, .val (.long j62), .second, .val (.long q63), .second, .val (.long q64), .second, .val (.long q65), .second, .val (.long q67), .second, .val (.ref b68), .val (.ref b71), .val (.int i86), .val (.int (0 : Int32)), .unset, .unset]) rfl ?_
            show Steps p.tables e below (T79.setTop (mkF m 248 #[.val (.long p0), .second, .val (.long p1), .second, .val (.long p2), .second, .val (.long p3), .second, .val (.long p4), .second, .val (.int p5), .val (.long j57), .second, .val (.long j58), .second, .val (.long j59), .second, .val (.long j60), .second, .val (.long j62), .second, .val (.long q63), .second, .val (.long q64), .second, .val (.long q65), .second, .val (.long q67), .second, .val (.ref b68), .val (.ref b71), .val (.int i86), .val (.int (0 : Int32)), .unset, .unset] [])) _
            refine XS.aload X79.here hx rfl (hb hby at_248) rfl rfl ?_
            show Steps p.tables e below (T79.setTop (mkF m 250 #[.val (.long p0), .second, .val (.long p1), .second, .val (.long p2), .second, .val (.long p3), .second, .val (.long p4), .second, .val (.int p5), .val (.long j57), .second, .val (.long j58), .second, .val (.long j59), .second, .val (.long j60), .second, .val (.long j62), .second, .val (.long q63), .second, .val (.long q64), .second, .val (.long q65), .second, .val (.long q67), .second, .val (.ref b68), .val (.ref b71), .val (.int i86), .val (.int (0 : Int32)), .unset, .unset] [(.ref b68)])) _
            refine XS.aload X79.here hx rfl (hb hby at_250) rfl rfl ?_
            exact kt)
          rw [((by rw [f2, if_neg ((Ne.symm hc112) : ¬ (j57 = q63))]) : (f2 b68 b71 j57 j58 j59 j60 q63 q64 q65 q67 wcache) = (0 : Int32))] at hQ135
          obtain ⟨rfl, N135q, e135⟩ := hQ135
          have N135 := Fr.app N79 N135q
          obtain ⟨cq137, kq137, q137a, q137b, q137c⟩ := isOf hZ e135 E_b71_79
          obtain ⟨_, _, ⟨T137, L137, k137, n137⟩, -, X137, ⟨Lc137, hQ137, l137, y137, z137⟩, st137⟩ := X135.virtualBack hx (y := (⟨"com/example/rialto/rialto/ledger/AccountTotals", "equals", "(Ljava/lang/Object;)Z"⟩ : MethodName)) (z := (⟨"com/example/rialto/rialto/ledger/AccountTotals", "equals", "(Ljava/lang/Object;)Z"⟩ : MethodName)) hown (mvT hZ (hw _ (List.mem_of_getElem? (i := 18) rfl))) (mvT hZ (hw _ (List.mem_of_getElem? (i := 19) rfl))) (notFace_of_selects (args := #[]) (mvT hZ (hw _ (List.mem_of_getElem? (i := 21) rfl)))) (mvT hZ (hw _ (List.mem_of_getElem? (i := 21) rfl))) (mvT hZ (hw _ (List.mem_of_getElem? (i := 20) rfl))) (by decide) (backOf (W := 0) (rm2 l Z a0 hw [] b71 b68 q63 q64 q65 q67 j57 j58 j59 j60 wcache h0 T79.heap n0 (Nat.le_trans Z0 KK79.1) W0 EX79 Zs ⟨E_b71_79, g_b71_79, G_b71_pendingCredits_79, G_b71_pendingDebits_79, G_b71_postedCredits_79, G_b71_postedDebits_79, trivial⟩ ⟨E80, g_b68_69, F81, F82, F83, F84, trivial⟩ ) hZ (hw _ (List.mem_of_getElem? (i := 22) rfl)) (hw _ (List.mem_of_getElem? (i := 3) rfl)) (by decide) (by decide)) q137a q137c (g := (mkF m 261 #[.val (.long p0), .second, .val (.long p1), .second, .val (.long p2), .second, .val (.long p3), .second, .val (.long p4), .second, .val (.int p5), .val (.long j57), .second, .val (.long j58), .second, .val (.long j59), .second, .val (.long j60), .second, .val (.long j62), .second, .val (.long q63), .second, .val (.long q64), .second, .val (.long q65), .second, .val (.long q67), .second, .val (.ref b68), .val (.ref b71), .val (.int i86), .val (.int (0 : Int32)), .val (.int (0 : Int32)), .unset] [(.ref b68), (.ref b71)])) rfl (by rw [hml]; rfl) (Steps.refl _) (argsL := [(.ref b68)]) (rest := []) (lenOf pd_3 rfl) rfl (by show 2 * 0 + _ ≤ _; exact Nat.le_of_eq rfl) (hb hby at_261) (fun _ _ => ⟨rfl, e135, (by decide : 2 + 0 ≤ _), (by decide : 8 + 0 ≤ _)⟩)
          dsimp only [Pt.U, Pt.locs, Pt.cells, Pt.slots] at X137 l137 y137 z137 st137 hQ137
          subst l137 y137 z137
          unfold Q2 at hQ137
          have k138 : ∀ t, Steps p.tables e below (T135.setTop (mkF m 261 #[.val (.long p0), .second, .val (.long p1), .second, .val (.long p2), .second, .val (.long p3), .second, .val (.long p4), .second, .val (.int p5), .val (.long j57), .second, .val (.long j58), .second, .val (.long j59), .second, .val (.long j60), .second, .val (.long j62), .second, .val (.long q63), .second, .val (.long q64), .second, .val (.long q65), .second, .val (.long q67), .second, .val (.ref b68), .val (.ref b71), .val (.int i86), .val (.int (0 : Int32)), .val (.int (0 : Int32)), .unset] [(.ref b68), (.ref b71)])) t → Steps p.tables e below (s₁.setTop (entryFrame m #[(.long p0), (.long p1), (.long p2), (.long p3), (.long p4), (.int p5)] maxLocals)) t := fun t kt => k136 t (by
            show Steps p.tables e below (T79.setTop (mkF m 252 #[.val (.long p0), .second, .val (.long p1), .second, .val (.long p2), .second, .val (.long p3), .second, .val (.long p4), .second, .val (.int p5), .val (.long j57), .second, .val (.long j58), .second, .val (.long j59), .second, .val (.long j60), .second, .val (.long j62), .second, .val (.long q63), .second, .val (.long q64), .second, .val (.long q65), .second, .val (.long q67), .second, .val (.ref b68), .val (.ref b71), .val (.int i86), .val (.int (0 : Int32)), .unset, .unset] [(.ref b71), (.ref b68)])) _
            refine st135.trans ?_
            show Steps p.tables e below (T135.setTop (mkF m 255 #[.val (.long p0), .second, .val (.long p1), .second, .val (.long p2), .second, .val (.long p3), .second, .val (.long p4), .second, .val (.int p5), .val (.long j57), .second, .val (.long j58), .second, .val (.long j59), .second, .val (.long j60), .second, .val (.long j62), .second, .val (.long q63), .second, .val (.long q64), .second, .val (.long q65), .second, .val (.long q67), .second, .val (.ref b68), .val (.ref b71), .val (.int i86), .val (.int (0 : Int32)), .unset, .unset] [(.int (0 : Int32))])) _
            refine XS.istore X135.here hx rfl (hb hby at_255) rfl (l' := #[.val (.long p0), .second, .val (.long p1), .second, .val (.long p2), .second, .val (.long p3), .second, .val (.long p4), .second, .val (.int p5), .val (.long j57), .second, .val (.long j58), .second, .val (.long j59), .second, .val (.long j60), .second, .val (.long j62), .second, .val (.long q63), .second, .val (.long q64), .second, .val (.long q65), .second, .val (.long q67), .second, .val (.ref b68), .val (.ref b71), .val (.int i86), .val (.int (0 : Int32)), .val (.int (0 : Int32)), .unset]) rfl ?_
            show Steps p.tables e below (T135.setTop (mkF m 257 #[.val (.long p0), .second, .val (.long p1), .second, .val (.long p2), .second, .val (.long p3), .second, .val (.long p4), .second, .val (.int p5), .val (.long j57), .second, .val (.long j58), .second, .val (.long j59), .second, .val (.long j60), .second, .val (.long j62), .second, .val (.long q63), .second, .val (.long q64), .second, .val (.long q65), .second, .val (.long q67), .second, .val (.ref b68), .val (.ref b71), .val (.int i86), .val (.int (0 : Int32)), .val (.int (0 : Int32)), .unset] [])) _
            refine XS.aload X135.here hx rfl (hb hby at_257) rfl rfl ?_
            show Steps p.tables e below (T135.setTop (mkF m 259 #[.val (.long p0), .second, .val (.long p1), .second, .val (.long p2), .second, .val (.long p3), .second, .val (.long p4), .second, .val (.int p5), .val (.long j57), .second, .val (.long j58), .second, .val (.long j59), .second, .val (.long j60), .second, .val (.long j62), .second, .val (.long q63), .second, .val (.long q64), .second, .val (.long q65), .second, .val (.long q67), .second, .val (.ref b68), .val (.ref b71), .val (.int i86), .val (.int (0 : Int32)), .val (.int (0 : Int32)), .unset] [(.ref b71)])) _
            refine XS.aload X135.here hx rfl (hb hby at_259) rfl rfl ?_
            exact kt)
          rw [((by rw [f2, if_neg (hc112 : ¬ (q63 = j57))]) : (f2 b71 b68 q63 q64 q65 q67 j57 j58 j59 j60 wcache) = (0 : Int32))] at hQ137
          obtain ⟨rfl, N137q, e137⟩ := hQ137
          have N137 := Fr.app N135 N137q
          obtain ⟨fs, hr, hrun, hended, hW, hsame⟩ := X137.leave (v := some (.int (1 : Int32))) (fun h => by rw [Bd.returns] at h; cases h)
          refine ⟨_, _, k138 _ ?_, hrun, hended, _, _, rfl, ?_, ⟨_, rfl⟩, hW, hsame.mono (by decide) (by decide)⟩
          · show Steps p.tables e below (T135.setTop (mkF m 261 #[.val (.long p0), .second, .val (.long p1), .second, .val (.long p2), .second, .val (.long p3), .second, .val (.long p4), .second, .val (.int p5), .val (.long j57), .second, .val (.long j58), .second, .val (.long j59), .second, .val (.long j60), .second, .val (.long j62), .second, .val (.long q63), .second, .val (.long q64), .second, .val (.long q65), .second, .val (.long q67), .second, .val (.ref b68), .val (.ref b71), .val (.int i86), .val (.int (0 : Int32)), .val (.int (0 : Int32)), .unset] [(.ref b68), (.ref b71)])) _
            refine st137.trans ?_
            show Steps p.tables e below (T137.setTop (mkF m 264 #[.val (.long p0), .second, .val (.long p1), .second, .val (.long p2), .second, .val (.long p3), .second, .val (.long p4), .second, .val (.int p5), .val (.long j57), .second, .val (.long j58), .second, .val (.long j59), .second, .val (.long j60), .second, .val (.long j62), .second, .val (.long q63), .second, .val (.long q64), .second, .val (.long q65), .second, .val (.long q67), .second, .val (.ref b68), .val (.ref b71), .val (.int i86), .val (.int (0 : Int32)), .val (.int (0 : Int32)), .unset] [(.int (0 : Int32))])) _
            refine XS.istore X137.here hx rfl (hb hby at_264) rfl (l' := #[.val (.long p0), .second, .val (.long p1), .second, .val (.long p2), .second, .val (.long p3), .second, .val (.long p4), .second, .val (.int p5), .val (.long j57), .second, .val (.long j58), .second, .val (.long j59), .second, .val (.long j60), .second, .val (.long j62), .second, .val (.long q63), .second, .val (.long q64), .second, .val (.long q65), .second, .val (.long q67), .second, .val (.ref b68), .val (.ref b71), .val (.int i86), .val (.int (0 : Int32)), .val (.int (0 : Int32)), .val (.int (0 : Int32))]) rfl ?_
            show Steps p.tables e below (T137.setTop (mkF m 266 #[.val (.long p0), .second, .val (.long p1), .second, .val (.long p2), .second, .val (.long p3), .second, .val (.long p4), .second, .val (.int p5), .val (.long j57), .second, .val (.long j58), .second, .val (.long j59), .second, .val (.long j60), .second, .val (.long j62), .second, .val (.long q63), .second, .val (.long q64), .second, .val (.long q65), .second, .val (.long q67), .second, .val (.ref b68), .val (.ref b71), .val (.int i86), .val (.int (0 : Int32)), .val (.int (0 : Int32)), .val (.int (0 : Int32))] [])) _
            refine XS.iload X137.here hx rfl (hb hby at_266) rfl ?_
            show Steps p.tables e below (T137.setTop (mkF m 268 #[.val (.long p0), .second, .val (.long p1), .second, .val (.long p2), .second, .val (.long p3), .second, .val (.long p4), .second, .val (.int p5), .val (.long j57), .second, .val (.long j58), .second, .val (.long j59), .second, .val (.long j60), .second, .val (.long j62), .second, .val (.long q63), .second, .val (.long q64), .second, .val (.long q65), .second, .val (.long q67), .second, .val (.ref b68), .val (.ref b71), .val (.int i86), .val (.int (0 : Int32)), .val (.int (0 : Int32)), .val (.int (0 : Int32))] [(.int (0 : Int32))])) _
            refine XS.iload X137.here hx rfl (hb hby at_268) rfl ?_
            show Steps p.tables e below (T137.setTop (mkF m 270 #[.val (.long p0), .second, .val (.long p1), .second, .val (.long p2), .second, .val (.long p3), .second, .val (.long p4), .second, .val (.int p5), .val (.long j57), .second, .val (.long j58), .second, .val (.long j59), .second, .val (.long j60), .second, .val (.long j62), .second, .val (.long q63), .second, .val (.long q64), .second, .val (.long q65), .second, .val (.long q67), .second, .val (.ref b68), .val (.ref b71), .val (.int i86), .val (.int (0 : Int32)), .val (.int (0 : Int32)), .val (.int (0 : Int32))] [(.int (0 : Int32)), (.int (0 : Int32))])) _
            refine XS.icmpNo X137.here hx rfl (hb hby at_270) rfl (teq (rfl : (0 : Int32) = (0 : Int32))).2 ?_
            show Steps p.tables e below (T137.setTop (mkF m 273 #[.val (.long p0), .second, .val (.long p1), .second, .val (.long p2), .second, .val (.long p3), .second, .val (.long p4), .second, .val (.int p5), .val (.long j57), .second, .val (.long j58), .second, .val (.long j59), .second, .val (.long j60), .second, .val (.long j62), .second, .val (.long q63), .second, .val (.long q64), .second, .val (.long q65), .second, .val (.long q67), .second, .val (.ref b68), .val (.ref b71), .val (.int i86), .val (.int (0 : Int32)), .val (.int (0 : Int32)), .val (.int (0 : Int32))] [])) _
            refine XS.iload X137.here hx rfl (hb hby at_273) rfl ?_
            show Steps p.tables e below (T137.setTop (mkF m 275 #[.val (.long p0), .second, .val (.long p1), .second, .val (.long p2), .second, .val (.long p3), .second, .val (.long p4), .second, .val (.int p5), .val (.long j57), .second, .val (.long j58), .second, .val (.long j59), .second, .val (.long j60), .second, .val (.long j62), .second, .val (.long q63), .second, .val (.long q64), .second, .val (.long q65), .second, .val (.long q67), .second, .val (.ref b68), .val (.ref b71), .val (.int i86), .val (.int (0 : Int32)), .val (.int (0 : Int32)), .val (.int (0 : Int32))] [(.int (0 : Int32))])) _
            refine XS.iload X137.here hx rfl (hb hby at_275) rfl ?_
            show Steps p.tables e below (T137.setTop (mkF m 277 #[.val (.long p0), .second, .val (.long p1), .second, .val (.long p2), .second, .val (.long p3), .second, .val (.long p4), .second, .val (.int p5), .val (.long j57), .second, .val (.long j58), .second, .val (.long j59), .second, .val (.long j60), .second, .val (.long j62), .second, .val (.long q63), .second, .val (.long q64), .second, .val (.long q65), .second, .val (.long q67), .second, .val (.ref b68), .val (.ref b71), .val (.int i86), .val (.int (0 : Int32)), .val (.int (0 : Int32)), .val (.int (0 : Int32))] [(.int (0 : Int32)), (.int (0 : Int32))])) _
            refine XS.icmpNo X137.here hx rfl (hb hby at_277) rfl (teq (rfl : (0 : Int32) = (0 : Int32))).2 ?_
            show Steps p.tables e below (T137.setTop (mkF m 280 #[.val (.long p0), .second, .val (.long p1), .second, .val (.long p2), .second, .val (.long p3), .second, .val (.long p4), .second, .val (.int p5), .val (.long j57), .second, .val (.long j58), .second, .val (.long j59), .second, .val (.long j60), .second, .val (.long j62), .second, .val (.long q63), .second, .val (.long q64), .second, .val (.long q65), .second, .val (.long q67), .second, .val (.ref b68), .val (.ref b71), .val (.int i86), .val (.int (0 : Int32)), .val (.int (0 : Int32)), .val (.int (0 : Int32))] [])) _
            refine XS.iconst X137.here hx rfl (hb hby at_280) ?_
            show Steps p.tables e below (T137.setTop (mkF m 281 #[.val (.long p0), .second, .val (.long p1), .second, .val (.long p2), .second, .val (.long p3), .second, .val (.long p4), .second, .val (.int p5), .val (.long j57), .second, .val (.long j58), .second, .val (.long j59), .second, .val (.long j60), .second, .val (.long j62), .second, .val (.long q63), .second, .val (.long q64), .second, .val (.long q65), .second, .val (.long q67), .second, .val (.ref b68), .val (.ref b71), .val (.int i86), .val (.int (0 : Int32)), .val (.int (0 : Int32)), .val (.int (0 : Int32))] [(.int (1 : Int32))])) _
            refine XS.goto X137.here hx rfl (pc0 := 281) (pc' := 285) rfl (hb hby at_281) (by decide) (by decide) ?_
            show Steps p.tables e below (T137.setTop (mkF m 285 #[.val (.long p0), .second, .val (.long p1), .second, .val (.long p2), .second, .val (.long p3), .second, .val (.long p4), .second, .val (.int p5), .val (.long j57), .second, .val (.long j58), .second, .val (.long j59), .second, .val (.long j60), .second, .val (.long j62), .second, .val (.long q63), .second, .val (.long q64), .second, .val (.long q65), .second, .val (.long q67), .second, .val (.ref b68), .val (.ref b71), .val (.int i86), .val (.int (0 : Int32)), .val (.int (0 : Int32)), .val (.int (0 : Int32))] [(.int (1 : Int32))])) _
            exact retN X137 hx (t := .boolean) Bd.returns (by simp) (hb hby at_285) hr
          · show Q0 Z p0 p1 p2 p3 p4 p5 wcache h0 n0 _ T137.heap _
            rw [e137]
            exact ⟨rfl, N137⟩
set_option maxRecDepth 65536 in
set_option maxHeartbeats 40000000 in
theorem comes_1 {Post : Tables → Env → Array Value → State → Outcome → State → Prop} (hpost : ∀ tb e args s v u, (limb_1_1.after args s (.returned v) u = true ∧ limb_1_2.after args s (.returned v) u = true ∧ True) → FrameEnd s (.returned v) u (Jvm.fieldLocs frame_1_writes args s ++ Jvm.arrayLocs frame_1_arrays args s ++ Jvm.staticLocs frame_1_statics s) 16 128 → Post tb e args s (.returned v) u) :
    ArmFor flags0 classFile x code maxLocals ret World_1 tables_1 room_1 Calls_1 rest_1 Pre_1 Post := by
  intro l hfl _ _ p e ha hc hk s m args below hf hA hF happ hP
  obtain ⟨hcalls, hrest, hpre⟩ := hP
  obtain ⟨-, -, -, hnamed, -, -, -, hat⟩ := (Spec.applies_iff hf).mp happ
  obtain ⟨hg, hn⟩ := and_e (Cond.before_iff.mp (show (Jvm.Cond.and given_1 narrow_1).before args s = true from hpre))
  obtain ⟨gc, gr0⟩ := and_e hg
  obtain ⟨ga0, gr1⟩ := and_e gr0
  obtain ⟨ga1, gr2⟩ := and_e gr1
  obtain ⟨ga2, gr3⟩ := and_e gr2
  obtain ⟨ga3, gr4⟩ := and_e gr3
  obtain ⟨ga4, ga5⟩ := and_e gr4
  obtain ⟨w0, w1, w2, w3, w4, w5, rfl⟩ : ∃ w0 w1 w2 w3 w4 w5 : Value, args = #[w0, w1, w2, w3, w4, w5] := by
    have hs : args.size = 6 := by simpa [Cond.value, given_1] using gc
    obtain ⟨L⟩ := args
    match L, hs with
    | [w0, w1, w2, w3, w4, w5], _ => exact ⟨w0, w1, w2, w3, w4, w5, rfl⟩
  have hw := fun d (hd : d ∈ tables_1) => atoms_spec (ws := Jvm.Cond.code x code maxLocals ret :: tables_1) hat d (List.mem_cons_of_mem _ hd)
  have hfit : Fit s := fun {y c} hc i hi => by
    obtain ⟨ha, rfl⟩ := Array.getElem?_eq_some_iff.mp hc
    have q := List.all_eq_true.mp ((Array.all_eq_true_iff_forall_mem.mp hF) _ (Array.getElem_mem ha)) i (List.mem_range.mpr hi)
    simpa [Array.getElem?_eq_getElem hi] using q
  obtain ⟨i0, ei0⟩ := isL_v ga0
  obtain rfl : w0 = (.long i0) := Option.some.inj ei0
  obtain ⟨i1, ei1⟩ := isL_v ga1
  obtain rfl : w1 = (.long i1) := Option.some.inj ei1
  obtain ⟨i2, ei2⟩ := isL_v ga2
  obtain rfl : w2 = (.long i2) := Option.some.inj ei2
  obtain ⟨i3, ei3⟩ := isL_v ga3
  obtain rfl : w3 = (.long i3) := Option.some.inj ei3
  obtain ⟨i4, ei4⟩ := isL_v ga4
  obtain rfl : w4 = (.long i4) := Option.some.inj ei4
  obtain ⟨i5, ei5⟩ := is_v ga5
  obtain rfl : w5 = (.int i5) := Option.some.inj ei5
  obtain ⟨hsets, hown0⟩ := atoms_of _ (rest_1_c_eq ▸ (show rest_1_c.before _ s = true from hrest))
  obtain ⟨wcache, evc⟩ := arr_v (Cond.before_iff.mp (hsets _ (List.mem_of_getElem? (i := 2) rfl)))
  have Scache : Sta s s.heap "java/lang/Long$LongCache" "cache" "[Ljava/lang/Long;" (.ref wcache) := Sta.start evc (Or.inl (hsets _ (List.mem_of_getElem? (i := 1) rfl)))
  have Ccache : Cache s s.heap wcache := own_cache (fun idx => evc) (Cond.before_iff.mp (hsets _ (List.mem_of_getElem? (i := 2) rfl))) (Cond.before_iff.mp (hsets _ (List.mem_of_getElem? (i := 4) rfl))) (Cond.before_iff.mp (hsets _ (List.mem_of_getElem? (i := 5) rfl)))
  obtain ⟨n, o, h1, h2, h3, _, L, rfl, ⟨rfl, N⟩, hq⟩ := rm0 l s _ hw tables_1 i0 i1 i2 i3 i4 i5 wcache s.heap s.heap.size (Nat.le_refl _) ⟨Scache, Ccache, trivial⟩ (Nat.le_refl _) p e ha hc hk s m _ below hf ((Spec.applies_iff_loose hf).mp happ).1 ⟨rfl, State.Warmed39.refl s, rfl⟩ trivial
  refine ⟨n, _, h1, h2, h3, hpost _ _ _ _ _ _ ⟨Cond.after_iff.mpr rfl, Cond.after_iff.mpr (eq_i res_at (Term.int_eval (1)) rfl), trivial⟩ ⟨hq.1, hq.2.1, (hq.2.2.sift fun y hy => Or.inr (N y hy)).mono (by decide) (by decide)⟩⟩
theorem main_1_1 : Claimed_1_1 := comes_1 fun _ _ _ _ _ _ h hF => ⟨h.1, hF⟩
theorem main_1_2 : Claimed_1_2 := comes_1 fun _ _ _ _ _ _ h hF => ⟨h.2.1, hF⟩
end Jvm.Pilot.@@N@@
namespace Jvm.Pilot.@@N@@
open Jvm Jvm.ClassFile Sem Op Lib Jvm.Free Jvm.Stand Jvm.Pilot.@@N@@.Jvm.D
/-! MADE BY PROGRAM (witnessworld.py) out of the Statement's table words and the real class files: 16 classes; the members and pool entries that the words name. The judged class is class 1, her method 1. -/
namespace start1
open Jvm.ClassFile
def u (s : String) : CpInfo := .utf8 (stringToUtf16 s)
/-- a pool by its gaps: so many unusable entries, then the entry; so many at the end -/
def gap : Nat → List CpInfo → List CpInfo
  | 0, r => r
  | n + 1, r => .unusable :: gap n r
def poolList (es : List (Nat × CpInfo)) (last : Nat) : List CpInfo := es.foldr (fun e r => gap e.1 (e.2 :: r)) (gap last [])
def pool (es : List (Nat × CpInfo)) (last : Nat) : Array CpInfo := ⟨poolList es last⟩
def fileOf (pool : Array CpInfo) (this : Nat) (attrs : Array Attribute := #[]) (ms : Array MethodInfo := #[]) (fl : Nat := 33) (sup : Nat := 0) (ifs : Array Nat := #[]) (fds : Array FieldInfo := #[]) : ClassFile where
  minorVersion := 0
  majorVersion := 65
  constantPool := pool
  accessFlags := fl
  thisClass := this
  superClass := sup
  interfaces := ifs
  fields := fds
  methods := ms
  attributes := attrs
def plain (name : String) (sup : Option ClassId) : Class where
  name := name
  kind := .ordinary
  loader := none
  accessFlags := 33
  super := sup
  interfaces := #[]
  cf := none
  fields := #[]
  methods := #[]
  instanceTypes := #[]
  staticTypes := #[]
  resolved := #[]
  callSites := []
  init := .initialized
  statics := none
  mirror := none

def pool0 : Array CpInfo := pool [(5, u "<init>"), (0, u "()V"), (1, .class_ 10), (1, u "java/lang/Object")] 113

def k0c0 : Code := { maxStack := 0, maxLocals := 1, code := object_method_1_code, exceptionTable := #[], attributes := #[] }
def k0m0 : Method := { name := "<init>", desc := "()V", sig := { parameters := [], returnType := none }, accessFlags := 1, code := some k0c0 }
/-- java/lang/Object -/
def k0 : Class := { plain "java/lang/Object" none with
  accessFlags := 33
  interfaces := #[]
  cf := some (fileOf pool0 8 #[] #[{ accessFlags := 1, nameIndex := 5, descriptorIndex := 6, attributes := #[] }] 33 0 #[] #[])
  fields := #[]
  methods := #[k0m0]
  instanceTypes := #[]
  staticTypes := #[]
  resolved := Array.replicate 124 none
  statics := none }

def pool1 : Array CpInfo := pool [(2, .class_ 4), (1, u "java/lang/Object"), (0, u "<init>"), (0, u "()V"), (0, .class_ 8), (0, u "java/lang/Long"), (0, .long 9223372036854775807), (1, .class_ 12), (0, u "com/example/rialto/rialto/ledger/AccountTotals"), (0, .methodref 11 14), (0, .nameAndType 5 15), (0, u "(JJJJ)V"), (0, .methodref 11 17), (0, .nameAndType 18 19), (0, u "equals"), (0, u "(Ljava/lang/Object;)Z"), (0, .methodref 7 21), (0, .nameAndType 22 23), (0, u "valueOf"), (0, u "(J)Ljava/lang/Long;"), (0, .class_ 25), (0, u "com/example/rialto/rialto/ledger/AccountTotalsEqualsPinLaw"), (2, u "law"), (0, u "(JJJJJI)Z")] 3

def k1m0 : Method := { name := "<init>", desc := "()V", sig := { parameters := [], returnType := none }, accessFlags := 1, code := none }
def k1c1 : Code := { maxStack := 10, maxLocals := 35, code := code, exceptionTable := #[], attributes := #[] }
def k1m1 : Method := { name := "law", desc := "(JJJJJI)Z", sig := { parameters := [.long, .long, .long, .long, .long, .int], returnType := some .boolean }, accessFlags := 9, code := some k1c1 }
/-- com/example/rialto/rialto/ledger/AccountTotalsEqualsPinLaw -/
def k1 : Class := { plain "com/example/rialto/rialto/ledger/AccountTotalsEqualsPinLaw" (some 0) with
  accessFlags := 49
  interfaces := #[]
  cf := some (fileOf pool1 24 #[] #[{ accessFlags := 1, nameIndex := 5, descriptorIndex := 6, attributes := #[] }, { accessFlags := 9, nameIndex := 28, descriptorIndex := 29, attributes := #[] }] 49 2 #[] #[])
  fields := #[]
  methods := #[k1m0, k1m1]
  instanceTypes := #[]
  staticTypes := #[]
  resolved := Array.replicate 33 none
  statics := none }

def pool2 : Array CpInfo := pool [(1, .methodref 2 3), (0, .class_ 4), (0, .nameAndType 5 6), (0, u "java/lang/Object"), (0, u "<init>"), (0, u "()V"), (7, .fieldref 15 16), (0, .class_ 17), (0, .nameAndType 18 19), (0, u "com/example/rialto/rialto/ledger/AccountTotals"), (0, u "pendingCredits"), (0, u "J"), (0, .fieldref 15 21), (0, .nameAndType 22 19), (0, u "pendingDebits"), (0, .fieldref 15 24), (0, .nameAndType 25 19), (0, u "postedCredits"), (0, .fieldref 15 27), (0, .nameAndType 28 19), (0, u "postedDebits"), (31, u "(JJJJ)V"), (14, u "ZERO"), (0, u "Lcom/example/rialto/rialto/ledger/AccountTotals;"), (6, u "equals"), (0, u "(Ljava/lang/Object;)Z")] 5

def k2c0 : Code := { maxStack := 4, maxLocals := 9, code := prog_10_method_1_code, exceptionTable := #[], attributes := #[] }
def k2m0 : Method := { name := "<init>", desc := "(JJJJ)V", sig := { parameters := [.long, .long, .long, .long], returnType := none }, accessFlags := 1, code := some k2c0 }
def k2c1 : Code := { maxStack := 4, maxLocals := 3, code := prog_10_method_9_code, exceptionTable := #[], attributes := #[] }
def k2m1 : Method := { name := "equals", desc := "(Ljava/lang/Object;)Z", sig := { parameters := [(.object "java/lang/Object")], returnType := some .boolean }, accessFlags := 1, code := some k2c1 }
/-- com/example/rialto/rialto/ledger/AccountTotals -/
def k2 : Class := { plain "com/example/rialto/rialto/ledger/AccountTotals" (some 0) with
  accessFlags := 33
  interfaces := #[]
  cf := some (fileOf pool2 15 #[] #[{ accessFlags := 1, nameIndex := 5, descriptorIndex := 60, attributes := #[] }, { accessFlags := 1, nameIndex := 83, descriptorIndex := 84, attributes := #[] }] 33 2 #[] #[{ accessFlags := 25, nameIndex := 75, descriptorIndex := 76, attributes := #[] }, { accessFlags := 18, nameIndex := 18, descriptorIndex := 19, attributes := #[] }, { accessFlags := 18, nameIndex := 22, descriptorIndex := 19, attributes := #[] }, { accessFlags := 18, nameIndex := 25, descriptorIndex := 19, attributes := #[] }, { accessFlags := 18, nameIndex := 28, descriptorIndex := 19, attributes := #[] }])
  fields := #[{ name := "ZERO", type := (.object "com/example/rialto/rialto/ledger/AccountTotals"), accessFlags := 25, slot := 0, constantValue := 0 }, { name := "pendingCredits", type := .long, accessFlags := 18, slot := 0, constantValue := 0 }, { name := "pendingDebits", type := .long, accessFlags := 18, slot := 1, constantValue := 0 }, { name := "postedCredits", type := .long, accessFlags := 18, slot := 2, constantValue := 0 }, { name := "postedDebits", type := .long, accessFlags := 18, slot := 3, constantValue := 0 }]
  methods := #[k2m0, k2m1]
  instanceTypes := #[.long, .long, .long, .long]
  staticTypes := #[(.object "com/example/rialto/rialto/ledger/AccountTotals")]
  resolved := Array.replicate 90 none
  statics := none }

def pool3 : Array CpInfo := pool [(1, .class_ 2), (0, u "java/io/Serializable"), (0, .class_ 4), (0, u "java/lang/Object")] 2

/-- java/io/Serializable -/
def k3 : Class := { plain "java/io/Serializable" (some 0) with
  accessFlags := 1537
  interfaces := #[]
  cf := some (fileOf pool3 1 #[] #[] 1537 3 #[] #[])
  fields := #[]
  methods := #[]
  instanceTypes := #[]
  staticTypes := #[]
  resolved := Array.replicate 7 none
  statics := none }

def pool4 : Array CpInfo := pool [(1, .methodref 2 3), (0, .class_ 4), (0, .nameAndType 5 6), (0, u "java/lang/Object"), (0, u "<init>"), (0, u "()V"), (1, .class_ 10), (1, u "java/lang/Number"), (2, .class_ 14), (0, u "java/io/Serializable"), (0, u "serialVersionUID"), (0, u "J")] 20

def k4c0 : Code := { maxStack := 1, maxLocals := 1, code := jdk_18_method_1_code, exceptionTable := #[], attributes := #[] }
def k4m0 : Method := { name := "<init>", desc := "()V", sig := { parameters := [], returnType := none }, accessFlags := 1, code := some k4c0 }
/-- java/lang/Number -/
def k4 : Class := { plain "java/lang/Number" (some 0) with
  accessFlags := 1057
  interfaces := #[3]
  cf := some (fileOf pool4 8 #[] #[{ accessFlags := 1, nameIndex := 5, descriptorIndex := 6, attributes := #[] }] 1057 2 #[13] #[{ accessFlags := 26, nameIndex := 15, descriptorIndex := 16, attributes := #[] }])
  fields := #[{ name := "serialVersionUID", type := .long, accessFlags := 26, slot := 0, constantValue := 0 }]
  methods := #[k4m0]
  instanceTypes := #[]
  staticTypes := #[.long]
  resolved := Array.replicate 37 none
  statics := none }

def pool5 : Array CpInfo := pool [(1, .class_ 2), (0, u "java/lang/Comparable"), (0, .class_ 4), (0, u "java/lang/Object")] 7

/-- java/lang/Comparable -/
def k5 : Class := { plain "java/lang/Comparable" (some 0) with
  accessFlags := 1537
  interfaces := #[]
  cf := some (fileOf pool5 1 #[] #[] 1537 3 #[] #[])
  fields := #[]
  methods := #[]
  instanceTypes := #[]
  staticTypes := #[]
  resolved := Array.replicate 12 none
  statics := none }

def pool6 : Array CpInfo := pool [(1, .class_ 2), (0, u "java/lang/constant/Constable"), (0, .class_ 4), (0, u "java/lang/Object")] 6

/-- java/lang/constant/Constable -/
def k6 : Class := { plain "java/lang/constant/Constable" (some 0) with
  accessFlags := 1537
  interfaces := #[]
  cf := some (fileOf pool6 1 #[] #[] 1537 3 #[] #[])
  fields := #[]
  methods := #[]
  instanceTypes := #[]
  staticTypes := #[]
  resolved := Array.replicate 11 none
  statics := none }

def pool7 : Array CpInfo := pool [(1, .class_ 2), (0, u "java/lang/constant/ConstantDesc"), (0, .class_ 4), (0, u "java/lang/Object")] 32

/-- java/lang/constant/ConstantDesc -/
def k7 : Class := { plain "java/lang/constant/ConstantDesc" (some 0) with
  accessFlags := 1537
  interfaces := #[]
  cf := some (fileOf pool7 1 #[] #[] 1537 3 #[] #[])
  fields := #[]
  methods := #[]
  instanceTypes := #[]
  staticTypes := #[]
  resolved := Array.replicate 37 none
  statics := none }

def pool8 : Array CpInfo := pool [(1, .class_ 2), (0, u "java/lang/Long"), (55, .nameAndType 59 60), (0, u "<init>"), (0, u "()V"), (24, u "valueOf"), (143, u "(J)Ljava/lang/Long;"), (0, .long 18446744073709551488), (1, .long 127), (1, .fieldref 235 236), (0, .class_ 237), (0, .nameAndType 238 239), (0, u "java/lang/Long$LongCache"), (0, u "cache"), (0, u "[Ljava/lang/Long;"), (0, .methodref 1 241), (0, .nameAndType 59 242), (0, u "(J)V"), (27, .methodref 271 58), (0, .class_ 272), (0, u "java/lang/Number"), (0, .fieldref 1 274), (0, .nameAndType 275 276), (0, u "value"), (0, u "J"), (84, u "TYPE"), (0, u "Ljava/lang/Class;"), (0, .class_ 364), (0, u "java/lang/Comparable"), (0, .class_ 366), (0, u "java/lang/constant/Constable"), (0, .class_ 368), (0, u "java/lang/constant/ConstantDesc"), (0, u "MIN_VALUE"), (1, u "MAX_VALUE"), (4, u "SIZE"), (0, u "I"), (1, u "BYTES"), (1, u "serialVersionUID")] 142

def k8c0 : Code := { maxStack := 4, maxLocals := 3, code := jdk_35_method_24_code, exceptionTable := #[], attributes := #[] }
def k8m0 : Method := { name := "valueOf", desc := "(J)Ljava/lang/Long;", sig := { parameters := [.long], returnType := some (.object "java/lang/Long") }, accessFlags := 9, code := some k8c0 }
def k8c1 : Code := { maxStack := 3, maxLocals := 3, code := jdk_35_method_26_code, exceptionTable := #[], attributes := #[] }
def k8m1 : Method := { name := "<init>", desc := "(J)V", sig := { parameters := [.long], returnType := none }, accessFlags := 1, code := some k8c1 }
/-- java/lang/Long -/
def k8 : Class := { plain "java/lang/Long" (some 4) with
  accessFlags := 49
  interfaces := #[5, 6, 7]
  cf := some (fileOf pool8 1 #[.nestMembers #[235]] #[{ accessFlags := 9, nameIndex := 85, descriptorIndex := 229, attributes := #[] }, { accessFlags := 1, nameIndex := 59, descriptorIndex := 242, attributes := #[] }] 49 271 #[363, 365, 367] #[{ accessFlags := 25, nameIndex := 369, descriptorIndex := 276, attributes := #[] }, { accessFlags := 25, nameIndex := 371, descriptorIndex := 276, attributes := #[] }, { accessFlags := 25, nameIndex := 361, descriptorIndex := 362, attributes := #[] }, { accessFlags := 18, nameIndex := 275, descriptorIndex := 276, attributes := #[] }, { accessFlags := 25, nameIndex := 376, descriptorIndex := 377, attributes := #[] }, { accessFlags := 25, nameIndex := 379, descriptorIndex := 377, attributes := #[] }, { accessFlags := 26, nameIndex := 381, descriptorIndex := 276, attributes := #[] }])
  fields := #[{ name := "MIN_VALUE", type := .long, accessFlags := 25, slot := 0, constantValue := 0 }, { name := "MAX_VALUE", type := .long, accessFlags := 25, slot := 1, constantValue := 0 }, { name := "TYPE", type := (.object "java/lang/Class"), accessFlags := 25, slot := 2, constantValue := 0 }, { name := "value", type := .long, accessFlags := 18, slot := 0, constantValue := 0 }, { name := "SIZE", type := .int, accessFlags := 25, slot := 3, constantValue := 0 }, { name := "BYTES", type := .int, accessFlags := 25, slot := 4, constantValue := 0 }, { name := "serialVersionUID", type := .long, accessFlags := 26, slot := 5, constantValue := 0 }]
  methods := #[k8m0, k8m1]
  instanceTypes := #[.long]
  staticTypes := #[.long, .long, (.object "java/lang/Class"), .int, .int, .long]
  resolved := Array.replicate 524 none
  statics := none }

def pool9 : Array CpInfo := pool [(2, .class_ 4), (1, u "java/lang/Object"), (0, u "<init>"), (0, u "()V"), (0, .class_ 8), (0, u "java/lang/Long"), (7, .class_ 18), (1, u "java/lang/Long$LongCache"), (0, u "$assertionsDisabled"), (0, u "Z"), (8, u "archivedCache"), (0, u "[Ljava/lang/Long;"), (7, u "cache")] 24

def k9m0 : Method := { name := "<init>", desc := "()V", sig := { parameters := [], returnType := none }, accessFlags := 2, code := none }
/-- java/lang/Long$LongCache -/
def k9 : Class := { plain "java/lang/Long$LongCache" (some 0) with
  accessFlags := 48
  interfaces := #[]
  cf := some (fileOf pool9 16 #[.nestHost 7] #[{ accessFlags := 2, nameIndex := 5, descriptorIndex := 6, attributes := #[] }] 48 2 #[] #[{ accessFlags := 24, nameIndex := 38, descriptorIndex := 30, attributes := #[] }, { accessFlags := 8, nameIndex := 29, descriptorIndex := 30, attributes := #[] }, { accessFlags := 4120, nameIndex := 19, descriptorIndex := 20, attributes := #[] }])
  fields := #[{ name := "cache", type := (.array (.object "java/lang/Long")), accessFlags := 24, slot := 0, constantValue := 0 }, { name := "archivedCache", type := (.array (.object "java/lang/Long")), accessFlags := 8, slot := 1, constantValue := 0 }, { name := "$assertionsDisabled", type := .boolean, accessFlags := 4120, slot := 2, constantValue := 0 }]
  methods := #[k9m0]
  instanceTypes := #[]
  staticTypes := #[(.array (.object "java/lang/Long")), (.array (.object "java/lang/Long")), .boolean]
  resolved := Array.replicate 63 none
  statics := some 0 }

def pool10 : Array CpInfo := pool [(1, u "java/lang/Cloneable"), (0, .class_ 1), (0, u "java/lang/Object"), (0, .class_ 3)] 3

/-- java/lang/Cloneable -/
def k10 : Class := { plain "java/lang/Cloneable" (some 0) with
  accessFlags := 1537
  interfaces := #[]
  cf := some (fileOf pool10 2 #[] #[] 1537 4 #[] #[])
  fields := #[]
  methods := #[]
  instanceTypes := #[]
  staticTypes := #[]
  resolved := Array.replicate 8 none
  statics := none }

/-- the primitive byte -/
def k11 : Class := { plain "byte" none with kind := .primitive 'B', accessFlags := 0x411 }
/-- [B -/
def k12 : Class := { plain "[B" (some 0) with kind := .array 11 .byte, interfaces := #[10, 3], accessFlags := 1041 }

/-- the primitive int -/
def k13 : Class := { plain "int" none with kind := .primitive 'I', accessFlags := 0x411 }
/-- [I -/
def k14 : Class := { plain "[I" (some 0) with kind := .array 13 .int, interfaces := #[10, 3], accessFlags := 1041 }

/-- [Ljava/lang/Long; -/
def k15 : Class := { plain "[Ljava/lang/Long;" (some 0) with kind := .array 8 (.object "java/lang/Long"), interfaces := #[10, 3], accessFlags := 1041 }

def heap : Heap := #[{ cls := 9, slots := #[.ref 1, .null, .int 0], vm := .statics 9 },
  { cls := 15, slots := #[.ref 2, .ref 3, .ref 4, .ref 5, .ref 6, .ref 7, .ref 8, .ref 9, .ref 10, .ref 11, .ref 12, .ref 13, .ref 14, .ref 15, .ref 16, .ref 17, .ref 18, .ref 19, .ref 20, .ref 21, .ref 22, .ref 23, .ref 24, .ref 25, .ref 26, .ref 27, .ref 28, .ref 29, .ref 30, .ref 31, .ref 32, .ref 33, .ref 34, .ref 35, .ref 36, .ref 37, .ref 38, .ref 39, .ref 40, .ref 41, .ref 42, .ref 43, .ref 44, .ref 45, .ref 46, .ref 47, .ref 48, .ref 49, .ref 50, .ref 51, .ref 52, .ref 53, .ref 54, .ref 55, .ref 56, .ref 57, .ref 58, .ref 59, .ref 60, .ref 61, .ref 62, .ref 63, .ref 64, .ref 65, .ref 66, .ref 67, .ref 68, .ref 69, .ref 70, .ref 71, .ref 72, .ref 73, .ref 74, .ref 75, .ref 76, .ref 77, .ref 78, .ref 79, .ref 80, .ref 81, .ref 82, .ref 83, .ref 84, .ref 85, .ref 86, .ref 87, .ref 88, .ref 89, .ref 90, .ref 91, .ref 92, .ref 93, .ref 94, .ref 95, .ref 96, .ref 97, .ref 98, .ref 99, .ref 100, .ref 101, .ref 102, .ref 103, .ref 104, .ref 105, .ref 106, .ref 107, .ref 108, .ref 109, .ref 110, .ref 111, .ref 112, .ref 113, .ref 114, .ref 115, .ref 116, .ref 117, .ref 118, .ref 119, .ref 120, .ref 121, .ref 122, .ref 123, .ref 124, .ref 125, .ref 126, .ref 127, .ref 128, .ref 129, .ref 130, .ref 131, .ref 132, .ref 133, .ref 134, .ref 135, .ref 136, .ref 137, .ref 138, .ref 139, .ref 140, .ref 141, .ref 142, .ref 143, .ref 144, .ref 145, .ref 146, .ref 147, .ref 148, .ref 149, .ref 150, .ref 151, .ref 152, .ref 153, .ref 154, .ref 155, .ref 156, .ref 157, .ref 158, .ref 159, .ref 160, .ref 161, .ref 162, .ref 163, .ref 164, .ref 165, .ref 166, .ref 167, .ref 168, .ref 169, .ref 170, .ref 171, .ref 172, .ref 173, .ref 174, .ref 175, .ref 176, .ref 177, .ref 178, .ref 179, .ref 180, .ref 181, .ref 182, .ref 183, .ref 184, .ref 185, .ref 186, .ref 187, .ref 188, .ref 189, .ref 190, .ref 191, .ref 192, .ref 193, .ref 194, .ref 195, .ref 196, .ref 197, .ref 198, .ref 199, .ref 200, .ref 201, .ref 202, .ref 203, .ref 204, .ref 205, .ref 206, .ref 207, .ref 208, .ref 209, .ref 210, .ref 211, .ref 212, .ref 213, .ref 214, .ref 215, .ref 216, .ref 217, .ref 218, .ref 219, .ref 220, .ref 221, .ref 222, .ref 223, .ref 224, .ref 225, .ref 226, .ref 227, .ref 228, .ref 229, .ref 230, .ref 231, .ref 232, .ref 233, .ref 234, .ref 235, .ref 236, .ref 237, .ref 238, .ref 239, .ref 240, .ref 241, .ref 242, .ref 243, .ref 244, .ref 245, .ref 246, .ref 247, .ref 248, .ref 249, .ref 250, .ref 251, .ref 252, .ref 253, .ref 254, .ref 255, .ref 256, .ref 257], vm := .none },
  { cls := 8, slots := #[.long (-128)], vm := .none },
  { cls := 8, slots := #[.long (-127)], vm := .none },
  { cls := 8, slots := #[.long (-126)], vm := .none },
  { cls := 8, slots := #[.long (-125)], vm := .none },
  { cls := 8, slots := #[.long (-124)], vm := .none },
  { cls := 8, slots := #[.long (-123)], vm := .none },
  { cls := 8, slots := #[.long (-122)], vm := .none },
  { cls := 8, slots := #[.long (-121)], vm := .none },
  { cls := 8, slots := #[.long (-120)], vm := .none },
  { cls := 8, slots := #[.long (-119)], vm := .none },
  { cls := 8, slots := #[.long (-118)], vm := .none },
  { cls := 8, slots := #[.long (-117)], vm := .none },
  { cls := 8, slots := #[.long (-116)], vm := .none },
  { cls := 8, slots := #[.long (-115)], vm := .none },
  { cls := 8, slots := #[.long (-114)], vm := .none },
  { cls := 8, slots := #[.long (-113)], vm := .none },
  { cls := 8, slots := #[.long (-112)], vm := .none },
  { cls := 8, slots := #[.long (-111)], vm := .none },
  { cls := 8, slots := #[.long (-110)], vm := .none },
  { cls := 8, slots := #[.long (-109)], vm := .none },
  { cls := 8, slots := #[.long (-108)], vm := .none },
  { cls := 8, slots := #[.long (-107)], vm := .none },
  { cls := 8, slots := #[.long (-106)], vm := .none },
  { cls := 8, slots := #[.long (-105)], vm := .none },
  { cls := 8, slots := #[.long (-104)], vm := .none },
  { cls := 8, slots := #[.long (-103)], vm := .none },
  { cls := 8, slots := #[.long (-102)], vm := .none },
  { cls := 8, slots := #[.long (-101)], vm := .none },
  { cls := 8, slots := #[.long (-100)], vm := .none },
  { cls := 8, slots := #[.long (-99)], vm := .none },
  { cls := 8, slots := #[.long (-98)], vm := .none },
  { cls := 8, slots := #[.long (-97)], vm := .none },
  { cls := 8, slots := #[.long (-96)], vm := .none },
  { cls := 8, slots := #[.long (-95)], vm := .none },
  { cls := 8, slots := #[.long (-94)], vm := .none },
  { cls := 8, slots := #[.long (-93)], vm := .none },
  { cls := 8, slots := #[.long (-92)], vm := .none },
  { cls := 8, slots := #[.long (-91)], vm := .none },
  { cls := 8, slots := #[.long (-90)], vm := .none },
  { cls := 8, slots := #[.long (-89)], vm := .none },
  { cls := 8, slots := #[.long (-88)], vm := .none },
  { cls := 8, slots := #[.long (-87)], vm := .none },
  { cls := 8, slots := #[.long (-86)], vm := .none },
  { cls := 8, slots := #[.long (-85)], vm := .none },
  { cls := 8, slots := #[.long (-84)], vm := .none },
  { cls := 8, slots := #[.long (-83)], vm := .none },
  { cls := 8, slots := #[.long (-82)], vm := .none },
  { cls := 8, slots := #[.long (-81)], vm := .none },
  { cls := 8, slots := #[.long (-80)], vm := .none },
  { cls := 8, slots := #[.long (-79)], vm := .none },
  { cls := 8, slots := #[.long (-78)], vm := .none },
  { cls := 8, slots := #[.long (-77)], vm := .none },
  { cls := 8, slots := #[.long (-76)], vm := .none },
  { cls := 8, slots := #[.long (-75)], vm := .none },
  { cls := 8, slots := #[.long (-74)], vm := .none },
  { cls := 8, slots := #[.long (-73)], vm := .none },
  { cls := 8, slots := #[.long (-72)], vm := .none },
  { cls := 8, slots := #[.long (-71)], vm := .none },
  { cls := 8, slots := #[.long (-70)], vm := .none },
  { cls := 8, slots := #[.long (-69)], vm := .none },
  { cls := 8, slots := #[.long (-68)], vm := .none },
  { cls := 8, slots := #[.long (-67)], vm := .none },
  { cls := 8, slots := #[.long (-66)], vm := .none },
  { cls := 8, slots := #[.long (-65)], vm := .none },
  { cls := 8, slots := #[.long (-64)], vm := .none },
  { cls := 8, slots := #[.long (-63)], vm := .none },
  { cls := 8, slots := #[.long (-62)], vm := .none },
  { cls := 8, slots := #[.long (-61)], vm := .none },
  { cls := 8, slots := #[.long (-60)], vm := .none },
  { cls := 8, slots := #[.long (-59)], vm := .none },
  { cls := 8, slots := #[.long (-58)], vm := .none },
  { cls := 8, slots := #[.long (-57)], vm := .none },
  { cls := 8, slots := #[.long (-56)], vm := .none },
  { cls := 8, slots := #[.long (-55)], vm := .none },
  { cls := 8, slots := #[.long (-54)], vm := .none },
  { cls := 8, slots := #[.long (-53)], vm := .none },
  { cls := 8, slots := #[.long (-52)], vm := .none },
  { cls := 8, slots := #[.long (-51)], vm := .none },
  { cls := 8, slots := #[.long (-50)], vm := .none },
  { cls := 8, slots := #[.long (-49)], vm := .none },
  { cls := 8, slots := #[.long (-48)], vm := .none },
  { cls := 8, slots := #[.long (-47)], vm := .none },
  { cls := 8, slots := #[.long (-46)], vm := .none },
  { cls := 8, slots := #[.long (-45)], vm := .none },
  { cls := 8, slots := #[.long (-44)], vm := .none },
  { cls := 8, slots := #[.long (-43)], vm := .none },
  { cls := 8, slots := #[.long (-42)], vm := .none },
  { cls := 8, slots := #[.long (-41)], vm := .none },
  { cls := 8, slots := #[.long (-40)], vm := .none },
  { cls := 8, slots := #[.long (-39)], vm := .none },
  { cls := 8, slots := #[.long (-38)], vm := .none },
  { cls := 8, slots := #[.long (-37)], vm := .none },
  { cls := 8, slots := #[.long (-36)], vm := .none },
  { cls := 8, slots := #[.long (-35)], vm := .none },
  { cls := 8, slots := #[.long (-34)], vm := .none },
  { cls := 8, slots := #[.long (-33)], vm := .none },
  { cls := 8, slots := #[.long (-32)], vm := .none },
  { cls := 8, slots := #[.long (-31)], vm := .none },
  { cls := 8, slots := #[.long (-30)], vm := .none },
  { cls := 8, slots := #[.long (-29)], vm := .none },
  { cls := 8, slots := #[.long (-28)], vm := .none },
  { cls := 8, slots := #[.long (-27)], vm := .none },
  { cls := 8, slots := #[.long (-26)], vm := .none },
  { cls := 8, slots := #[.long (-25)], vm := .none },
  { cls := 8, slots := #[.long (-24)], vm := .none },
  { cls := 8, slots := #[.long (-23)], vm := .none },
  { cls := 8, slots := #[.long (-22)], vm := .none },
  { cls := 8, slots := #[.long (-21)], vm := .none },
  { cls := 8, slots := #[.long (-20)], vm := .none },
  { cls := 8, slots := #[.long (-19)], vm := .none },
  { cls := 8, slots := #[.long (-18)], vm := .none },
  { cls := 8, slots := #[.long (-17)], vm := .none },
  { cls := 8, slots := #[.long (-16)], vm := .none },
  { cls := 8, slots := #[.long (-15)], vm := .none },
  { cls := 8, slots := #[.long (-14)], vm := .none },
  { cls := 8, slots := #[.long (-13)], vm := .none },
  { cls := 8, slots := #[.long (-12)], vm := .none },
  { cls := 8, slots := #[.long (-11)], vm := .none },
  { cls := 8, slots := #[.long (-10)], vm := .none },
  { cls := 8, slots := #[.long (-9)], vm := .none },
  { cls := 8, slots := #[.long (-8)], vm := .none },
  { cls := 8, slots := #[.long (-7)], vm := .none },
  { cls := 8, slots := #[.long (-6)], vm := .none },
  { cls := 8, slots := #[.long (-5)], vm := .none },
  { cls := 8, slots := #[.long (-4)], vm := .none },
  { cls := 8, slots := #[.long (-3)], vm := .none },
  { cls := 8, slots := #[.long (-2)], vm := .none },
  { cls := 8, slots := #[.long (-1)], vm := .none },
  { cls := 8, slots := #[.long (0)], vm := .none },
  { cls := 8, slots := #[.long (1)], vm := .none },
  { cls := 8, slots := #[.long (2)], vm := .none },
  { cls := 8, slots := #[.long (3)], vm := .none },
  { cls := 8, slots := #[.long (4)], vm := .none },
  { cls := 8, slots := #[.long (5)], vm := .none },
  { cls := 8, slots := #[.long (6)], vm := .none },
  { cls := 8, slots := #[.long (7)], vm := .none },
  { cls := 8, slots := #[.long (8)], vm := .none },
  { cls := 8, slots := #[.long (9)], vm := .none },
  { cls := 8, slots := #[.long (10)], vm := .none },
  { cls := 8, slots := #[.long (11)], vm := .none },
  { cls := 8, slots := #[.long (12)], vm := .none },
  { cls := 8, slots := #[.long (13)], vm := .none },
  { cls := 8, slots := #[.long (14)], vm := .none },
  { cls := 8, slots := #[.long (15)], vm := .none },
  { cls := 8, slots := #[.long (16)], vm := .none },
  { cls := 8, slots := #[.long (17)], vm := .none },
  { cls := 8, slots := #[.long (18)], vm := .none },
  { cls := 8, slots := #[.long (19)], vm := .none },
  { cls := 8, slots := #[.long (20)], vm := .none },
  { cls := 8, slots := #[.long (21)], vm := .none },
  { cls := 8, slots := #[.long (22)], vm := .none },
  { cls := 8, slots := #[.long (23)], vm := .none },
  { cls := 8, slots := #[.long (24)], vm := .none },
  { cls := 8, slots := #[.long (25)], vm := .none },
  { cls := 8, slots := #[.long (26)], vm := .none },
  { cls := 8, slots := #[.long (27)], vm := .none },
  { cls := 8, slots := #[.long (28)], vm := .none },
  { cls := 8, slots := #[.long (29)], vm := .none },
  { cls := 8, slots := #[.long (30)], vm := .none },
  { cls := 8, slots := #[.long (31)], vm := .none },
  { cls := 8, slots := #[.long (32)], vm := .none },
  { cls := 8, slots := #[.long (33)], vm := .none },
  { cls := 8, slots := #[.long (34)], vm := .none },
  { cls := 8, slots := #[.long (35)], vm := .none },
  { cls := 8, slots := #[.long (36)], vm := .none },
  { cls := 8, slots := #[.long (37)], vm := .none },
  { cls := 8, slots := #[.long (38)], vm := .none },
  { cls := 8, slots := #[.long (39)], vm := .none },
  { cls := 8, slots := #[.long (40)], vm := .none },
  { cls := 8, slots := #[.long (41)], vm := .none },
  { cls := 8, slots := #[.long (42)], vm := .none },
  { cls := 8, slots := #[.long (43)], vm := .none },
  { cls := 8, slots := #[.long (44)], vm := .none },
  { cls := 8, slots := #[.long (45)], vm := .none },
  { cls := 8, slots := #[.long (46)], vm := .none },
  { cls := 8, slots := #[.long (47)], vm := .none },
  { cls := 8, slots := #[.long (48)], vm := .none },
  { cls := 8, slots := #[.long (49)], vm := .none },
  { cls := 8, slots := #[.long (50)], vm := .none },
  { cls := 8, slots := #[.long (51)], vm := .none },
  { cls := 8, slots := #[.long (52)], vm := .none },
  { cls := 8, slots := #[.long (53)], vm := .none },
  { cls := 8, slots := #[.long (54)], vm := .none },
  { cls := 8, slots := #[.long (55)], vm := .none },
  { cls := 8, slots := #[.long (56)], vm := .none },
  { cls := 8, slots := #[.long (57)], vm := .none },
  { cls := 8, slots := #[.long (58)], vm := .none },
  { cls := 8, slots := #[.long (59)], vm := .none },
  { cls := 8, slots := #[.long (60)], vm := .none },
  { cls := 8, slots := #[.long (61)], vm := .none },
  { cls := 8, slots := #[.long (62)], vm := .none },
  { cls := 8, slots := #[.long (63)], vm := .none },
  { cls := 8, slots := #[.long (64)], vm := .none },
  { cls := 8, slots := #[.long (65)], vm := .none },
  { cls := 8, slots := #[.long (66)], vm := .none },
  { cls := 8, slots := #[.long (67)], vm := .none },
  { cls := 8, slots := #[.long (68)], vm := .none },
  { cls := 8, slots := #[.long (69)], vm := .none },
  { cls := 8, slots := #[.long (70)], vm := .none },
  { cls := 8, slots := #[.long (71)], vm := .none },
  { cls := 8, slots := #[.long (72)], vm := .none },
  { cls := 8, slots := #[.long (73)], vm := .none },
  { cls := 8, slots := #[.long (74)], vm := .none },
  { cls := 8, slots := #[.long (75)], vm := .none },
  { cls := 8, slots := #[.long (76)], vm := .none },
  { cls := 8, slots := #[.long (77)], vm := .none },
  { cls := 8, slots := #[.long (78)], vm := .none },
  { cls := 8, slots := #[.long (79)], vm := .none },
  { cls := 8, slots := #[.long (80)], vm := .none },
  { cls := 8, slots := #[.long (81)], vm := .none },
  { cls := 8, slots := #[.long (82)], vm := .none },
  { cls := 8, slots := #[.long (83)], vm := .none },
  { cls := 8, slots := #[.long (84)], vm := .none },
  { cls := 8, slots := #[.long (85)], vm := .none },
  { cls := 8, slots := #[.long (86)], vm := .none },
  { cls := 8, slots := #[.long (87)], vm := .none },
  { cls := 8, slots := #[.long (88)], vm := .none },
  { cls := 8, slots := #[.long (89)], vm := .none },
  { cls := 8, slots := #[.long (90)], vm := .none },
  { cls := 8, slots := #[.long (91)], vm := .none },
  { cls := 8, slots := #[.long (92)], vm := .none },
  { cls := 8, slots := #[.long (93)], vm := .none },
  { cls := 8, slots := #[.long (94)], vm := .none },
  { cls := 8, slots := #[.long (95)], vm := .none },
  { cls := 8, slots := #[.long (96)], vm := .none },
  { cls := 8, slots := #[.long (97)], vm := .none },
  { cls := 8, slots := #[.long (98)], vm := .none },
  { cls := 8, slots := #[.long (99)], vm := .none },
  { cls := 8, slots := #[.long (100)], vm := .none },
  { cls := 8, slots := #[.long (101)], vm := .none },
  { cls := 8, slots := #[.long (102)], vm := .none },
  { cls := 8, slots := #[.long (103)], vm := .none },
  { cls := 8, slots := #[.long (104)], vm := .none },
  { cls := 8, slots := #[.long (105)], vm := .none },
  { cls := 8, slots := #[.long (106)], vm := .none },
  { cls := 8, slots := #[.long (107)], vm := .none },
  { cls := 8, slots := #[.long (108)], vm := .none },
  { cls := 8, slots := #[.long (109)], vm := .none },
  { cls := 8, slots := #[.long (110)], vm := .none },
  { cls := 8, slots := #[.long (111)], vm := .none },
  { cls := 8, slots := #[.long (112)], vm := .none },
  { cls := 8, slots := #[.long (113)], vm := .none },
  { cls := 8, slots := #[.long (114)], vm := .none },
  { cls := 8, slots := #[.long (115)], vm := .none },
  { cls := 8, slots := #[.long (116)], vm := .none },
  { cls := 8, slots := #[.long (117)], vm := .none },
  { cls := 8, slots := #[.long (118)], vm := .none },
  { cls := 8, slots := #[.long (119)], vm := .none },
  { cls := 8, slots := #[.long (120)], vm := .none },
  { cls := 8, slots := #[.long (121)], vm := .none },
  { cls := 8, slots := #[.long (122)], vm := .none },
  { cls := 8, slots := #[.long (123)], vm := .none },
  { cls := 8, slots := #[.long (124)], vm := .none },
  { cls := 8, slots := #[.long (125)], vm := .none },
  { cls := 8, slots := #[.long (126)], vm := .none },
  { cls := 8, slots := #[.long (127)], vm := .none }]
def classes : Array Class := #[k0, k1, k2, k3, k4, k5, k6, k7, k8, k9, k10, k11, k12, k13, k14, k15]
def interned : List (Array UInt16 × Addr) := []
def slotsUsed : Nat := 515
def theMethod : MethodId := ⟨1, 1⟩
def args0 : Array Value := #[.long 5, .long 7, .long 9, .long 11, .long 13, .int 3]
def aboutOver (below : List Frame) : State where
  vm := { classes := classes, interned := interned.toArray }
  heap := heap
  slotsUsed := slotsUsed
  threads := #[{ frames := .invoking theMethod args0 :: below }]
def below0 : List Frame := [.native { method := ⟨0, 0⟩, args := #[] }]
def about1 : State := aboutOver below0
def p0 : Program := .bare "" "" ""
def e0 : Env := launch0.env 0 0 0
theorem w_frames : about1.frames = Frame.invoking theMethod args0 :: below0 := rfl
set_option maxRecDepth 65536 in
theorem w_args : argsFit about1.vm theMethod args0 = true := by decide +kernel
set_option maxRecDepth 65536 in
theorem w_heap : heapFits about1 = true := by decide +kernel
set_option maxRecDepth 65536 in
theorem w_runnable : about1.curStatus? = some .runnable := by decide +kernel
set_option maxRecDepth 65536 in
theorem w_alone : about1.alone = true := by decide +kernel
set_option maxRecDepth 65536 in
theorem w_named : about1.methodNamed? x = some theMethod := by decide +kernel
set_option maxRecDepth 65536 in
theorem w_hears : about1.hears theMethod below0 = true := by decide +kernel
set_option maxRecDepth 65536 in
theorem w_ripe : about1.ripe theMethod args0 below0 = true := by decide +kernel
theorem w_running : about1.status = .running := rfl
set_option maxRecDepth 65536 in
theorem w_room : about1.hasRoom e0.platform room_1 = true :=
  launch0.hasRoom_least _ room_1 (by decide +kernel) (by decide +kernel) (by decide +kernel) (by decide +kernel) (by decide +kernel) (by decide +kernel)
theorem allAtoms_all (ts : List Jvm.Cond) (a : Array Jvm.Value) (st : Jvm.State) : (allAtoms ts).before a st = ts.all (fun c => c.before a st) := by
  induction ts with
  | nil => rfl
  | cons c t ih =>
    show (Jvm.Cond.and c (allAtoms t)).before a st = _
    rw [Jvm.Cond.before_and, ih, List.all_cons]
def words1 : List Jvm.Cond := Jvm.Cond.code x code maxLocals ret :: tables_1
/-- a 'code' word, met by the world's own term for the bytes: nothing is compared byte by byte -/
theorem code_word {y : MethodName} {bytes : ByteArray} {mx : Nat} {rt : Option FieldType} {a : Array Value} {s : State} {m : MethodId} {meth : Method} {c : Code} (h1 : s.methodNamed? y = some m) (h2 : s.vm.method? m = some meth) (h3 : meth.code = some c) (h4 : c.code = bytes)
    (h5 : (c.maxLocals == mx && c.exceptionTable.isEmpty && decide (c.maxStack ≤ mostOperands) && decide (meth.sig.returnType = rt) && !meth.locks && decide (parseMethodDescriptor y.desc = some meth.sig)) = true) : (Jvm.Cond.code y bytes mx rt).before a s = true := by
  simp only [Bool.and_eq_true, beq_iff_eq, Bool.not_eq_true', decide_eq_true_eq] at h5
  obtain ⟨⟨⟨⟨⟨g1, g2⟩, g3⟩, g4⟩, g5⟩, g6⟩ := h5
  simp [Cond.before, Cond.holds, Cond.value, h1, h2, h3, h4, g1, g2, g3, g4, g5, g6]
def isCode : Jvm.Cond → Bool
  | .code _ _ _ _ => true
  | _ => false
theorem all_split {L : List Jvm.Cond} {P : Jvm.Cond → Bool} (h1 : L.all (fun c => isCode c || P c) = true) (h2 : ∀ c ∈ L.filter isCode, P c = true) : L.all P = true := by
  refine List.all_eq_true.mpr fun c hc => ?_
  have h := List.all_eq_true.mp h1 c hc
  rcases Bool.eq_false_or_eq_true (isCode c) with hi | hi
  · exact h2 c (List.mem_filter.mpr ⟨hc, hi⟩)
  · simpa [hi] using h
set_option maxRecDepth 65536 in
theorem w_c0 : (Jvm.Cond.code x code maxLocals ret).before args0 about1 = true := code_word (m := ⟨1, 1⟩) (meth := k1m1) (c := k1c1) (by decide +kernel) rfl rfl rfl (by decide +kernel)
set_option maxRecDepth 65536 in
theorem w_c1 : (Jvm.Cond.code ({ cls := "com/example/rialto/rialto/ledger/AccountTotals", name := "<init>", desc := "(JJJJ)V" } : Jvm.MethodName) prog_10_method_1_code (9 : Nat) (Option.none : Option Jvm.ClassFile.FieldType)).before args0 about1 = true := code_word (m := ⟨2, 0⟩) (meth := k2m0) (c := k2c0) (by decide +kernel) rfl rfl rfl (by decide +kernel)
set_option maxRecDepth 65536 in
theorem w_c2 : (Jvm.Cond.code ({ cls := "java/lang/Object", name := "<init>", desc := "()V" } : Jvm.MethodName) object_method_1_code (1 : Nat) (Option.none : Option Jvm.ClassFile.FieldType)).before args0 about1 = true := code_word (m := ⟨0, 0⟩) (meth := k0m0) (c := k0c0) (by decide +kernel) rfl rfl rfl (by decide +kernel)
set_option maxRecDepth 65536 in
theorem w_c3 : (Jvm.Cond.code ({ cls := "com/example/rialto/rialto/ledger/AccountTotals", name := "equals", desc := "(Ljava/lang/Object;)Z" } : Jvm.MethodName) prog_10_method_9_code (3 : Nat) (Option.some Jvm.ClassFile.FieldType.boolean)).before args0 about1 = true := code_word (m := ⟨2, 1⟩) (meth := k2m1) (c := k2c1) (by decide +kernel) rfl rfl rfl (by decide +kernel)
set_option maxRecDepth 65536 in
theorem w_c4 : (Jvm.Cond.code ({ cls := "java/lang/Long", name := "valueOf", desc := "(J)Ljava/lang/Long;" } : Jvm.MethodName) jdk_35_method_24_code (3 : Nat) (Option.some (Jvm.ClassFile.FieldType.object "java/lang/Long"))).before args0 about1 = true := code_word (m := ⟨8, 0⟩) (meth := k8m0) (c := k8c0) (by decide +kernel) rfl rfl rfl (by decide +kernel)
set_option maxRecDepth 65536 in
theorem w_c5 : (Jvm.Cond.code ({ cls := "java/lang/Long", name := "<init>", desc := "(J)V" } : Jvm.MethodName) jdk_35_method_26_code (3 : Nat) (Option.none : Option Jvm.ClassFile.FieldType)).before args0 about1 = true := code_word (m := ⟨8, 1⟩) (meth := k8m1) (c := k8c1) (by decide +kernel) rfl rfl rfl (by decide +kernel)
set_option maxRecDepth 65536 in
theorem w_c6 : (Jvm.Cond.code ({ cls := "java/lang/Number", name := "<init>", desc := "()V" } : Jvm.MethodName) jdk_18_method_1_code (1 : Nat) (Option.none : Option Jvm.ClassFile.FieldType)).before args0 about1 = true := code_word (m := ⟨4, 0⟩) (meth := k4m0) (c := k4c0) (by decide +kernel) rfl rfl rfl (by decide +kernel)
def codes1 : List Jvm.Cond := [Jvm.Cond.code x code maxLocals ret, Jvm.Cond.code ({ cls := "com/example/rialto/rialto/ledger/AccountTotals", name := "<init>", desc := "(JJJJ)V" } : Jvm.MethodName) prog_10_method_1_code (9 : Nat) (Option.none : Option Jvm.ClassFile.FieldType), Jvm.Cond.code ({ cls := "java/lang/Object", name := "<init>", desc := "()V" } : Jvm.MethodName) object_method_1_code (1 : Nat) (Option.none : Option Jvm.ClassFile.FieldType), Jvm.Cond.code ({ cls := "com/example/rialto/rialto/ledger/AccountTotals", name := "equals", desc := "(Ljava/lang/Object;)Z" } : Jvm.MethodName) prog_10_method_9_code (3 : Nat) (Option.some Jvm.ClassFile.FieldType.boolean), Jvm.Cond.code ({ cls := "java/lang/Long", name := "valueOf", desc := "(J)Ljava/lang/Long;" } : Jvm.MethodName) jdk_35_method_24_code (3 : Nat) (Option.some (Jvm.ClassFile.FieldType.object "java/lang/Long")), Jvm.Cond.code ({ cls := "java/lang/Long", name := "<init>", desc := "(J)V" } : Jvm.MethodName) jdk_35_method_26_code (3 : Nat) (Option.none : Option Jvm.ClassFile.FieldType), Jvm.Cond.code ({ cls := "java/lang/Number", name := "<init>", desc := "()V" } : Jvm.MethodName) jdk_18_method_1_code (1 : Nat) (Option.none : Option Jvm.ClassFile.FieldType)]
set_option maxRecDepth 65536 in
theorem codes_eq : words1.filter isCode = codes1 := rfl
theorem w_codes : ∀ c ∈ words1.filter isCode, c.before args0 about1 = true := by
  rw [codes_eq]
  intro c hc
  simp only [codes1, List.mem_cons, List.not_mem_nil, or_false] at hc
  rcases hc with rfl | rfl | rfl | rfl | rfl | rfl | rfl
  · exact w_c0
  · exact w_c1
  · exact w_c2
  · exact w_c3
  · exact w_c4
  · exact w_c5
  · exact w_c6
set_option maxRecDepth 65536 in
theorem w_t1 : (words1.take 24).all (fun c => isCode c || c.before args0 about1) = true := by decide +kernel
set_option maxRecDepth 65536 in
theorem w_t2 : ((words1.drop 24).take 24).all (fun c => isCode c || c.before args0 about1) = true := by decide +kernel
set_option maxRecDepth 65536 in
theorem w_t3 : ((words1.drop 24).drop 24).all (fun c => isCode c || c.before args0 about1) = true := by decide +kernel
theorem w_tables : (allAtoms (Jvm.Cond.code x code maxLocals ret :: tables_1)).before args0 about1 = true := by
  rw [allAtoms_all]
  show words1.all (fun c => c.before args0 about1) = true
  refine all_split ?_ w_codes
  rw [← List.take_append_drop 24 words1, List.all_append, w_t1, ← List.take_append_drop 24 (words1.drop 24), List.all_append, w_t2, w_t3]
  rfl
set_option maxRecDepth 65536 in
theorem w_rest : rest_1_c.before args0 about1 = true := by decide +kernel
set_option maxRecDepth 65536 in
theorem w_case : (Jvm.Cond.and given_1 narrow_1).before args0 about1 = true := by decide +kernel
theorem w_applies : (headSpec (Jvm.Cond.code x code maxLocals ret :: tables_1) room_1).applies x e0.platform about1 = true :=
  (Spec.applies_iff w_frames).mpr ⟨w_running, w_runnable, w_alone, w_named, w_hears, w_ripe, w_room, w_tables⟩
theorem atStart : AtStart classFile x code maxLocals ret World_1 tables_1 room_1 Calls_1 rest_1 Pre_1 launch0 p0 e0 about1 theMethod args0 below0 :=
  ⟨lists_1, trivial, launch0.admits_env _ _ _, launch0.least_env, fairChoices_fair.cas, fairChoices_fair.clock, w_frames, w_args, w_heap, w_applies, trivial, w_rest, w_case⟩
end start1
theorem witness_1 : WitnessClaimed_1 := ⟨start1.p0, start1.e0, start1.about1, start1.theMethod, start1.args0, start1.below0, start1.atStart⟩
end Jvm.Pilot.@@N@@
