import JvmDerived
import JvmDerived.Pilot.@@N@@Statement
import JvmDerived.Pilot.@@N@@Code
set_option linter.unusedVariables false
set_option linter.unusedSimpArgs false
namespace Jvm.RoadKit
open Sem ClassFile Op Lib Jvm.Stand Jvm.Free Jvm.LawKit
section New
variable {p : Program} {l : Launch} {e : Env} {R : Room} {s : State} {m : MethodId} {args : Array Value} {below : List Frame} {meth : Method} {c : Code} {T : State} {locs : List Loc} {cells slots : Nat}
theorem own_retI (X : Stand p l e R s m args below meth c T locs cells slots) (hx : p.tables.exec = Jvm.exec) {pc : Nat} {Ls : Array Slot} {z : Int32} {rest : List Value} (hret : meth.sig.returnType = some .int) (hd : decode c.code pc = .ok (.ireturn, 1)) {fs : List Frame}
    (hl : ∀ (f : JFrame) (acts : List Action), f.method = m → f.locked = none → f.entered = [] → (doReturn e (T.setTop f) acts (some (.int z))).1 = T.setFrames fs) : Steps p.tables e below (T.setTop (mkF m pc Ls (.int z :: rest))) (T.setFrames fs) :=
  retOut X hx hret rfl (Or.inl ⟨rfl, Or.inl rfl, z, rfl⟩) hd hl
theorem own_retL (X : Stand p l e R s m args below meth c T locs cells slots) (hx : p.tables.exec = Jvm.exec) {pc : Nat} {Ls : Array Slot} {z : Int64} {rest : List Value} (hret : meth.sig.returnType = some .long) (hd : decode c.code pc = .ok (.lreturn, 1)) {fs : List Frame}
    (hl : ∀ (f : JFrame) (acts : List Action), f.method = m → f.locked = none → f.entered = [] → (doReturn e (T.setTop f) acts (some (.long z))).1 = T.setFrames fs) : Steps p.tables e below (T.setTop (mkF m pc Ls (.long z :: rest))) (T.setFrames fs) :=
  retOut X hx hret rfl (Or.inr (Or.inl ⟨rfl, rfl, z, rfl⟩)) hd hl
theorem own_retA (X : Stand p l e R s m args below meth c T locs cells slots) (hx : p.tables.exec = Jvm.exec) {pc : Nat} {Ls : Array Slot} {w : Value} {t : FieldType} {rest : List Value} (hret : meth.sig.returnType = some t) (ht : t.isReference = true) (hw : w.isRef = true) (hd : decode c.code pc = .ok (.areturn, 1)) {fs : List Frame}
    (hl : ∀ (f : JFrame) (acts : List Action), f.method = m → f.locked = none → f.entered = [] → (doReturn e (T.setTop f) acts (some w)).1 = T.setFrames fs) : Steps p.tables e below (T.setTop (mkF m pc Ls (w :: rest))) (T.setFrames fs) :=
  retOut X hx hret (by cases t <;> cases w <;> simp_all [narrow, Value.isRef, FieldType.isReference]) (Or.inr (Or.inr (Or.inr (Or.inr ⟨rfl, ht, hw⟩)))) hd hl
end New
end Jvm.RoadKit
namespace Jvm.Pilot.@@N@@
open Jvm Jvm.ClassFile Sem Op Lib Jvm.Free Jvm.Stand Jvm.LawKit Jvm.RoadKit Bundle Jvm.Pilot.@@N@@.Jvm.D
theorem own_lcEt {x y : Int64} (h : x = y) : lcmpW x y = (0 : Int32) := by rw [lcW]; exact (lc_eq x y).mpr h
theorem own_lcEf {x y : Int64} (h : ¬ (x = y)) : ¬ (lcmpW x y = (0 : Int32)) := by rw [lcW]; exact fun q => h ((lc_eq x y).mp q)
theorem own_lcLt {x y : Int64} (h : x < y) : lcmpW x y < (0 : Int32) := by rw [lcW]; exact (lc_lt x y).mpr h
theorem own_lcLf {x y : Int64} (h : ¬ (x < y)) : ¬ (lcmpW x y < (0 : Int32)) := by rw [lcW]; exact fun q => h ((lc_lt x y).mp q)
theorem own_lcGt {x y : Int64} (h : y < x) : (0 : Int32) < lcmpW x y := by rw [lcW]; exact (lc_gt x y).mpr h
theorem own_lcGf {x y : Int64} (h : ¬ (y < x)) : ¬ ((0 : Int32) < lcmpW x y) := by rw [lcW]; exact fun q => h ((lc_gt x y).mp q)
theorem own_ext_refl (h : Heap) : Ext h h := ⟨Nat.le_refl _, fun _ _ q => q⟩
theorem own_ext_trans {h h' h'' : Heap} (E : Ext h h') (F : Ext h' h'') : Ext h h'' := ⟨Nat.le_trans E.1 F.1, fun a c q => F.2 a c (E.2 a c q)⟩
theorem own_ext_wr {h h' h'' : Heap} {a : Addr} {sl : Nat} {v : Value} (E : Ext h h') (W : Wr h' h'' a sl v) (q : h.size ≤ a) : Ext h h'' := by
  obtain ⟨cell, -, -, -, rfl⟩ := W
  refine ⟨by simpa using E.1, fun b c r => ?_⟩
  have hb : b < h.size := (Array.getElem?_eq_some_iff.mp r).1
  rw [Array.getElem?_setIfInBounds_ne (Nat.ne_of_gt (Nat.lt_of_lt_of_le hb q))]
  exact E.2 b c r
theorem own_fldI {args : Array Value} {s : State} {t : Term} {a : Addr} {C n d : String} {k : Int32} (ev : t.eval args s none [] s = some (.ref a)) (h : (Cond.eq (.field t C n d) (.int k)).value args s none s [] = some true) : Fld s s.heap a C n d (.int k) := by
  obtain ⟨u, v, h1, h2, -, k2⟩ := cmp_v (Or.inl h)
  have e2 : (Term.int k).eval args s none [] s = some (.int k) := rfl
  cases e2.symm.trans h2
  obtain ⟨z, rfl⟩ := k2
  have q : z = k := by simpa [Cond.value, h1, e2] using h
  subst q
  exact Fld.start ((fld_at ev).symm.trans h1)
theorem own_fldJ {args : Array Value} {s : State} {t : Term} {a : Addr} {C n d : String} {k : Int64} (ev : t.eval args s none [] s = some (.ref a)) (h : (Cond.eq (.field t C n d) (.long k)).value args s none s [] = some true) : Fld s s.heap a C n d (.long k) := by
  obtain ⟨u, v, h1, h2, -, k2⟩ := cmp_v (Or.inl h)
  have e2 : (Term.long k).eval args s none [] s = some (.long k) := rfl
  cases e2.symm.trans h2
  obtain ⟨z, rfl⟩ := k2
  have q : z = k := by simpa [Cond.value, h1, e2] using h
  subst q
  exact Fld.start ((fld_at ev).symm.trans h1)
theorem own_fldN {args : Array Value} {s : State} {t : Term} {a : Addr} {C n d : String} (ev : t.eval args s none [] s = some (.ref a)) (h : (Cond.eq (.field t C n d) .null).value args s none s [] = some true) : Fld s s.heap a C n d .null :=
  Fld.start ((fld_at ev).symm.trans (null_v h))
theorem own_eqR {args : Array Value} {s : State} {t u : Term} {b : Addr} (eu : u.eval args s none [] s = some (.ref b)) (h : (Cond.eq t u).value args s none s [] = some true) : t.eval args s none [] s = some (.ref b) := by
  obtain ⟨x, y, h1, h2, k1, k2⟩ := cmp_v (Or.inl h)
  cases eu.symm.trans h2
  have hx : x.isRef = true := k2.2
  have q := gotT (eq_R h1 h2 hx rfl) h
  rw [h1, q]
theorem own_fldR {args : Array Value} {s : State} {t u : Term} {a b : Addr} {C n d : String} (ev : t.eval args s none [] s = some (.ref a)) (eu : u.eval args s none [] s = some (.ref b)) (h : (Cond.eq (.field t C n d) u).value args s none s [] = some true) : Fld s s.heap a C n d (.ref b) :=
  Fld.start ((fld_at ev).symm.trans (own_eqR eu h))
theorem own_elI {args : Array Value} {s : State} {t : Term} {a : Addr} {cl : Cell} {j k : Int32} {i : Nat} (ev : t.eval args s none [] s = some (.ref a)) (hc : s.heap[a]? = some cl) (h : (Cond.eq (.elem t (.int j)) (.int k)).value args s none s [] = some true) (hj : j.toNatClampNeg = i) : cl.slots[i]? = some (.int k) := by
  obtain ⟨u, v, h1, h2, -, k2⟩ := cmp_v (Or.inl h)
  have e2 : (Term.int k).eval args s none [] s = some (.int k) := rfl
  cases e2.symm.trans h2
  obtain ⟨z, rfl⟩ := k2
  have q : z = k := by simpa [Cond.value, h1, e2] using h
  subst q hj
  exact (elem_in h1 ev (rfl : (Term.int j).eval args s none [] s = some (.int j)) hc).2
theorem own_elR {args : Array Value} {s : State} {t u : Term} {a b : Addr} {cl : Cell} {j : Int32} {i : Nat} (ev : t.eval args s none [] s = some (.ref a)) (eu : u.eval args s none [] s = some (.ref b)) (hc : s.heap[a]? = some cl) (h : (Cond.eq (.elem t (.int j)) u).value args s none s [] = some true) (hj : j.toNatClampNeg = i) : cl.slots[i]? = some (.ref b) := by
  subst hj
  exact (elem_in (own_eqR eu h) ev (rfl : (Term.int j).eval args s none [] s = some (.int j)) hc).2
theorem own_len {args : Array Value} {s : State} {t : Term} {a : Addr} {cl : Cell} {ty : FieldType} {k : Int32} (ev : t.eval args s none [] s = some (.ref a)) (A : Arr s s.heap a cl ty) (h : (Cond.eq (.length t) (.int k)).value args s none s [] = some true) : cl.slots.size < 2 ^ 31 ∧ cl.slots.size.toInt32 = k := by
  obtain ⟨u, v, h1, h2, -, k2⟩ := cmp_v (Or.inl h)
  have e2 : (Term.int k).eval args s none [] s = some (.int k) := rfl
  cases e2.symm.trans h2
  obtain ⟨z, rfl⟩ := k2
  have q : z = k := by simpa [Cond.value, h1, e2] using h
  subst q
  have ha := A.fin (Vm.Alike.refl _)
  simp only [Term.eval, ev, ha, Option.bind_eq_bind, Option.bind_some] at h1
  split at h1
  · rename_i q
    exact ⟨q, by simpa using h1⟩
  · cases h1
def World (Z : State) (h : Heap) (wSTATES : Addr) (wSUSCEPTIBLE : Addr) (wINFECTED : Addr) (wRECOVERED : Addr) (kSTATES : ClassId) : Prop := Sta Z h "com/example/rippletide/rippletide/model/State" "STATES" "[Lcom/example/rippletide/rippletide/model/State;" (.ref wSTATES) ∧ Sta Z h "com/example/rippletide/rippletide/model/State" "SUSCEPTIBLE" "Lcom/example/rippletide/rippletide/model/State;" (.ref wSUSCEPTIBLE) ∧ Exa Z h wSUSCEPTIBLE "com/example/rippletide/rippletide/model/State" ∧ Fld Z h wSUSCEPTIBLE "com/example/rippletide/rippletide/model/State" "letter" "C" (.int (83 : Int32)) ∧ Sta Z h "com/example/rippletide/rippletide/model/State" "INFECTED" "Lcom/example/rippletide/rippletide/model/State;" (.ref wINFECTED) ∧ Exa Z h wINFECTED "com/example/rippletide/rippletide/model/State" ∧ Fld Z h wINFECTED "com/example/rippletide/rippletide/model/State" "letter" "C" (.int (73 : Int32)) ∧ Sta Z h "com/example/rippletide/rippletide/model/State" "RECOVERED" "Lcom/example/rippletide/rippletide/model/State;" (.ref wRECOVERED) ∧ Exa Z h wRECOVERED "com/example/rippletide/rippletide/model/State" ∧ Fld Z h wRECOVERED "com/example/rippletide/rippletide/model/State" "letter" "C" (.int (82 : Int32)) ∧ Arv Z h wSTATES kSTATES (.object "com/example/rippletide/rippletide/model/State") (3 : Int32) [(.ref wSUSCEPTIBLE), (.ref wINFECTED), (.ref wRECOVERED)] .null ∧ True
theorem World.ext {Z : State} {h h' : Heap} {wSTATES : Addr} {wSUSCEPTIBLE : Addr} {wINFECTED : Addr} {wRECOVERED : Addr} {kSTATES : ClassId} (W : World Z h wSTATES wSUSCEPTIBLE wINFECTED wRECOVERED kSTATES) (E : Ext h h') : World Z h' wSTATES wSUSCEPTIBLE wINFECTED wRECOVERED kSTATES := by
  obtain ⟨SSTATES, SSUSCEPTIBLE, ESUSCEPTIBLE, FSUSCEPTIBLE_letter, SINFECTED, EINFECTED, FINFECTED_letter, SRECOVERED, ERECOVERED, FRECOVERED_letter, ASTATES, -⟩ := W
  exact ⟨SSTATES.ext E, SSUSCEPTIBLE.ext E, ESUSCEPTIBLE.ext E, FSUSCEPTIBLE_letter.ext E, SINFECTED.ext E, EINFECTED.ext E, FINFECTED_letter.ext E, SRECOVERED.ext E, ERECOVERED.ext E, FRECOVERED_letter.ext E, ASTATES.ext E, trivial⟩
theorem d1_0 : decode prog_37_method_5_code 0 = .ok (.getstatic 36, 3) := by decide +kernel
theorem d1_3 : decode prog_37_method_5_code 3 = .ok (.astore_n 1, 1) := by decide +kernel
theorem d1_4 : decode prog_37_method_5_code 4 = .ok (.aload_n 1, 1) := by decide +kernel
theorem d1_5 : decode prog_37_method_5_code 5 = .ok (.arraylength, 1) := by decide +kernel
theorem d1_6 : decode prog_37_method_5_code 6 = .ok (.istore_n 2, 1) := by decide +kernel
theorem d1_7 : decode prog_37_method_5_code 7 = .ok (.iconst 0, 1) := by decide +kernel
theorem d1_8 : decode prog_37_method_5_code 8 = .ok (.istore_n 3, 1) := by decide +kernel
theorem d1_9 : decode prog_37_method_5_code 9 = .ok (.iload_n 3, 1) := by decide +kernel
theorem d1_10 : decode prog_37_method_5_code 10 = .ok (.iload_n 2, 1) := by decide +kernel
theorem d1_11 : decode prog_37_method_5_code 11 = .ok (.if_icmp .ge 26, 3) := by decide +kernel
theorem d1_14 : decode prog_37_method_5_code 14 = .ok (.aload_n 1, 1) := by decide +kernel
theorem d1_15 : decode prog_37_method_5_code 15 = .ok (.iload_n 3, 1) := by decide +kernel
theorem d1_16 : decode prog_37_method_5_code 16 = .ok (.aaload, 1) := by decide +kernel
theorem d1_17 : decode prog_37_method_5_code 17 = .ok (.astore 4, 2) := by decide +kernel
theorem d1_19 : decode prog_37_method_5_code 19 = .ok (.aload 4, 2) := by decide +kernel
theorem d1_21 : decode prog_37_method_5_code 21 = .ok (.getfield 32, 3) := by decide +kernel
theorem d1_24 : decode prog_37_method_5_code 24 = .ok (.iload_n 0, 1) := by decide +kernel
theorem d1_25 : decode prog_37_method_5_code 25 = .ok (.if_icmp .ne 6, 3) := by decide +kernel
theorem d1_28 : decode prog_37_method_5_code 28 = .ok (.aload 4, 2) := by decide +kernel
theorem d1_30 : decode prog_37_method_5_code 30 = .ok (.areturn, 1) := by decide +kernel
theorem d1_31 : decode prog_37_method_5_code 31 = .ok (.iinc 3 1, 3) := by decide +kernel
theorem d1_34 : decode prog_37_method_5_code 34 = .ok (.goto (-25), 3) := by decide +kernel
theorem d1_37 : decode prog_37_method_5_code 37 = .ok (.aconst_null, 1) := by decide +kernel
theorem d1_38 : decode prog_37_method_5_code 38 = .ok (.areturn, 1) := by decide +kernel
theorem pn_0 : plainName "com/example/rippletide/rippletide/model/State" = true := by first | (simp [plainName, overriddenIn]; done) | decide +kernel
def f1 (p0 : Int32) (wSTATES : Addr) (wSUSCEPTIBLE : Addr) (wINFECTED : Addr) (wRECOVERED : Addr) (kSTATES : ClassId) : Value := if (83 : Int32) = p0 then (.ref wSUSCEPTIBLE) else if (73 : Int32) = p0 then (.ref wINFECTED) else if (82 : Int32) = p0 then (.ref wRECOVERED) else .null
theorem ef_1 (m : MethodId) (p0 : Int32) : entryFrame m #[(.int p0)] 5 = mkF m 0 #[.val (.int p0), .unset, .unset, .unset, .unset] [] := by first | (simp [entryFrame, mkF, argsToLocals, Value.category]; done) | rfl
def Q1 (Z : State) (p0 : Int32) (wSTATES : Addr) (wSUSCEPTIBLE : Addr) (wINFECTED : Addr) (wRECOVERED : Addr) (kSTATES : ClassId) (h0 : Heap) (n0 : Nat) (v : Option Value) (h : Heap) (L : List Loc) : Prop := v = some (f1 p0 wSTATES wSUSCEPTIBLE wINFECTED wRECOVERED kSTATES) ∧ Fr n0 L ∧ h = h0
set_option maxRecDepth 65536 in
set_option maxHeartbeats 40000000 in
theorem rm1 (l : Launch) (Z : State) (a0 : Array Value) (hw : ∀ d ∈ tables_1, d.before a0 Z = true) (ws : List Jvm.Cond) (p0 : Int32) (wSTATES : Addr) (wSUSCEPTIBLE : Addr) (wINFECTED : Addr) (wRECOVERED : Addr) (kSTATES : ClassId) (h0 : Heap) (n0 : Nat) (Z0 : n0 ≤ h0.size) (W0 : World Z h0 wSTATES wSUSCEPTIBLE wINFECTED wRECOVERED kSTATES) :
    MetFree l (⟨"com/example/rippletide/rippletide/model/State", "ofLetter", "(I)Lcom/example/rippletide/rippletide/model/State;"⟩ : MethodName) (head1 (Jvm.Cond.code (⟨"com/example/rippletide/rippletide/model/State", "ofLetter", "(I)Lcom/example/rippletide/rippletide/model/State;"⟩ : MethodName) prog_37_method_5_code 5 (some (.object "com/example/rippletide/rippletide/model/State")) :: ws) ({ frames := 0, cells := 0, slots := 0, locals := 0 } : Room)) (fun a U => a = #[(.int p0)] ∧ Z.Warmed39 U.vm ∧ U.heap = h0) (fun _ _ _ _ _ => True) (fun _ U o U' => ∃ v L, o = .returned v ∧ Q1 Z p0 wSTATES wSUSCEPTIBLE wINFECTED wRECOVERED kSTATES h0 n0 v U'.heap L ∧ FrameEnd U o U' L ({ frames := 0, cells := 0, slots := 0, locals := 0 } : Room).cells ({ frames := 0, cells := 0, slots := 0, locals := 0 } : Room).slots) := by
  refine MetFree.of_bodySF (plainFor_of_name pn_0) hisR ?_
  intro p e s m args below meth c s₁ Bd hml0 hP hK
  obtain ⟨rfl, hZ, hh⟩ := hP
  have hx := Bd.exec
  have hby := Bd.bytes
  have hml : c.maxLocals = 5 := hml0
  have hown : s.vm.findClass "com/example/rippletide/rippletide/model/State" = some m.cls := findClass_of_methodNamed Bd.named
  have X0 : Stand p l e ({ frames := 0, cells := 0, slots := 0, locals := 0 } : Room) s m #[(.int p0)] below meth c s₁ [] 0 0 := Stand.of_body Bd
  have e0 : s₁.heap = h0 := by rw [← hh, Bd.state]; rfl
  have N0 := Fr.nil n0
  have W1 := W0
  obtain ⟨SSTATES, SSUSCEPTIBLE, ESUSCEPTIBLE, FSUSCEPTIBLE_letter, SINFECTED, EINFECTED, FINFECTED_letter, SRECOVERED, ERECOVERED, FRECOVERED_letter, ASTATES, -⟩ := W1
  have pre0 : ∀ t, Steps p.tables e below (s₁.setTop (mkF m 0 #[.val (.int p0), .unset, .unset, .unset, .unset] [])) t → Steps p.tables e below (s₁.setTop (entryFrame m #[(.int p0)] 5)) t := fun t k => castTop (ef_1 m p0) k
  obtain ⟨T1, X1, e1, st1⟩ := getS2 X0 hx hZ hown (host := "") (Or.inl (hw _ (List.mem_of_getElem? (i := 4) rfl))) Via.refl e0 SSTATES (g := (mkF m 0 #[.val (.int p0), .unset, .unset, .unset, .unset] [])) rfl (hb hby d1_0)
  obtain ⟨cla2, Ara2, qa2, Sa2, Na2, -, -⟩ := And.left ⟨ASTATES, trivial⟩
  obtain ⟨cla3, Ara3, qa3, Sa3, Na3, Ha3, Ga3⟩ := And.left ⟨ASTATES, trivial⟩
  have hina3 : ¬ ((0 : Int32) < 0 ∨ cla3.slots.size ≤ ((0 : Int32)).toNatClampNeg) := inb_of Sa3 ⟨by decide, by decide⟩
  obtain ⟨T4, X4, e4, st4⟩ := getF X1 hx hZ hown (host := "") (Or.inl (hw _ (List.mem_of_getElem? (i := 7) rfl))) Via.refl e1 FSUSCEPTIBLE_letter (g := (mkF m 21 #[.val (.int p0), .val (.ref wSTATES), .val (.int (3 : Int32)), .val (.int (0 : Int32)), .val (.ref wSUSCEPTIBLE)] [(.ref wSUSCEPTIBLE)])) rfl rfl (hb hby d1_21)
  have k5 : ∀ t, Steps p.tables e below (T4.setTop (mkF m 25 #[.val (.int p0), .val (.ref wSTATES), .val (.int (3 : Int32)), .val (.int (0 : Int32)), .val (.ref wSUSCEPTIBLE)] [(.int p0), (.int (83 : Int32))])) t → Steps p.tables e below (s₁.setTop (entryFrame m #[(.int p0)] 5)) t := fun t kt => pre0 t (by
    show Steps p.tables e below (s₁.setTop (mkF m 0 #[.val (.int p0), .unset, .unset, .unset, .unset] [])) _
    refine st1 _ ?_
    show Steps p.tables e below (T1.setTop (mkF m 3 #[.val (.int p0), .unset, .unset, .unset, .unset] [(.ref wSTATES)])) _
    refine XS.astoreN X1.here hx rfl (hb hby d1_3) rfl rfl (l' := #[.val (.int p0), .val (.ref wSTATES), .unset, .unset, .unset]) rfl ?_
    show Steps p.tables e below (T1.setTop (mkF m 4 #[.val (.int p0), .val (.ref wSTATES), .unset, .unset, .unset] [])) _
    refine XS.aloadN X1.here hx rfl (hb hby d1_4) rfl rfl ?_
    show Steps p.tables e below (T1.setTop (mkF m 5 #[.val (.int p0), .val (.ref wSTATES), .unset, .unset, .unset] [(.ref wSTATES)])) _
    refine X1.arraylength hx (by rw [e1]; exact Ara2.1) (State.isArrayOf_alike hZ.alike Ara2.2.1) (g := (mkF m 5 #[.val (.int p0), .val (.ref wSTATES), .unset, .unset, .unset] [(.ref wSTATES)])) rfl rfl (hb hby d1_5) _ ?_
    rw [len_of Sa2 Na2]
    show Steps p.tables e below (T1.setTop (mkF m 6 #[.val (.int p0), .val (.ref wSTATES), .unset, .unset, .unset] [(.int (3 : Int32))])) _
    refine XS.istoreN X1.here hx rfl (hb hby d1_6) rfl (l' := #[.val (.int p0), .val (.ref wSTATES), .val (.int (3 : Int32)), .unset, .unset]) rfl ?_
    show Steps p.tables e below (T1.setTop (mkF m 7 #[.val (.int p0), .val (.ref wSTATES), .val (.int (3 : Int32)), .unset, .unset] [])) _
    refine XS.iconst X1.here hx rfl (hb hby d1_7) ?_
    show Steps p.tables e below (T1.setTop (mkF m 8 #[.val (.int p0), .val (.ref wSTATES), .val (.int (3 : Int32)), .unset, .unset] [(.int (0 : Int32))])) _
    refine XS.istoreN X1.here hx rfl (hb hby d1_8) rfl (l' := #[.val (.int p0), .val (.ref wSTATES), .val (.int (3 : Int32)), .val (.int (0 : Int32)), .unset]) rfl ?_
    show Steps p.tables e below (T1.setTop (mkF m 9 #[.val (.int p0), .val (.ref wSTATES), .val (.int (3 : Int32)), .val (.int (0 : Int32)), .unset] [])) _
    refine XS.iloadN X1.here hx rfl (hb hby d1_9) rfl ?_
    show Steps p.tables e below (T1.setTop (mkF m 10 #[.val (.int p0), .val (.ref wSTATES), .val (.int (3 : Int32)), .val (.int (0 : Int32)), .unset] [(.int (0 : Int32))])) _
    refine XS.iloadN X1.here hx rfl (hb hby d1_10) rfl ?_
    show Steps p.tables e below (T1.setTop (mkF m 11 #[.val (.int p0), .val (.ref wSTATES), .val (.int (3 : Int32)), .val (.int (0 : Int32)), .unset] [(.int (3 : Int32)), (.int (0 : Int32))])) _
    refine XS.icmpNo X1.here hx rfl (hb hby d1_11) rfl (tlt ((by decide) : (0 : Int32) < (3 : Int32))).2.1 ?_
    show Steps p.tables e below (T1.setTop (mkF m 14 #[.val (.int p0), .val (.ref wSTATES), .val (.int (3 : Int32)), .val (.int (0 : Int32)), .unset] [])) _
    refine XS.aloadN X1.here hx rfl (hb hby d1_14) rfl rfl ?_
    show Steps p.tables e below (T1.setTop (mkF m 15 #[.val (.int p0), .val (.ref wSTATES), .val (.int (3 : Int32)), .val (.int (0 : Int32)), .unset] [(.ref wSTATES)])) _
    refine XS.iloadN X1.here hx rfl (hb hby d1_15) rfl ?_
    show Steps p.tables e below (T1.setTop (mkF m 16 #[.val (.int p0), .val (.ref wSTATES), .val (.int (3 : Int32)), .val (.int (0 : Int32)), .unset] [(.int (0 : Int32)), (.ref wSTATES)])) _
    refine X1.aaload hx (j := (0 : Int32)) (v := (.ref wSUSCEPTIBLE)) (by rw [e1]; exact Ara3.1) (State.isArrayOf_alike hZ.alike Ara3.2.1) rfl Ara3.2.2 hina3 (Ha3.at hina3 rfl) (g := (mkF m 16 #[.val (.int p0), .val (.ref wSTATES), .val (.int (3 : Int32)), .val (.int (0 : Int32)), .unset] [(.int (0 : Int32)), (.ref wSTATES)])) rfl rfl (hb hby d1_16) _ ?_
    show Steps p.tables e below (T1.setTop (mkF m 17 #[.val (.int p0), .val (.ref wSTATES), .val (.int (3 : Int32)), .val (.int (0 : Int32)), .unset] [(.ref wSUSCEPTIBLE)])) _
    refine XS.astore X1.here hx rfl (hb hby d1_17) rfl rfl (l' := #[.val (.int p0), .val (.ref wSTATES), .val (.int (3 : Int32)), .val (.int (0 : Int32)), .val (.ref wSUSCEPTIBLE)]) rfl ?_
    show Steps p.tables e below (T1.setTop (mkF m 19 #[.val (.int p0), .val (.ref wSTATES), .val (.int (3 : Int32)), .val (.int (0 : Int32)), .val (.ref wSUSCEPTIBLE)] [])) _
    refine XS.aload X1.here hx rfl (hb hby d1_19) rfl rfl ?_
    show Steps p.tables e below (T1.setTop (mkF m 21 #[.val (.int p0), .val (.ref wSTATES), .val (.int (3 : Int32)), .val (.int (0 : Int32)), .val (.ref wSUSCEPTIBLE)] [(.ref wSUSCEPTIBLE)])) _
    refine st4 _ ?_
    show Steps p.tables e below (T4.setTop (mkF m 24 #[.val (.int p0), .val (.ref wSTATES), .val (.int (3 : Int32)), .val (.int (0 : Int32)), .val (.ref wSUSCEPTIBLE)] [(.int (83 : Int32))])) _
    refine XS.iloadN X4.here hx rfl (hb hby d1_24) rfl ?_
    exact kt)
  by_cases hc6 : (83 : Int32) = p0
  · obtain ⟨fs, hr, hrun, hended, hW, hsame⟩ := X4.leave (v := some (.ref wSUSCEPTIBLE)) (fun h => by rw [Bd.returns] at h; cases h)
    refine ⟨_, _, k5 _ ?_, hrun, hended, _, _, rfl, ?_, ⟨_, rfl⟩, hW, hsame.mono (by decide) (by decide)⟩
    · show Steps p.tables e below (T4.setTop (mkF m 25 #[.val (.int p0), .val (.ref wSTATES), .val (.int (3 : Int32)), .val (.int (0 : Int32)), .val (.ref wSUSCEPTIBLE)] [(.int p0), (.int (83 : Int32))])) _
      refine XS.icmpNo X4.here hx rfl (hb hby d1_25) rfl (teq (hc6 : (83 : Int32) = p0)).2 ?_
      show Steps p.tables e below (T4.setTop (mkF m 28 #[.val (.int p0), .val (.ref wSTATES), .val (.int (3 : Int32)), .val (.int (0 : Int32)), .val (.ref wSUSCEPTIBLE)] [])) _
      refine XS.aload X4.here hx rfl (hb hby d1_28) rfl rfl ?_
      show Steps p.tables e below (T4.setTop (mkF m 30 #[.val (.int p0), .val (.ref wSTATES), .val (.int (3 : Int32)), .val (.int (0 : Int32)), .val (.ref wSUSCEPTIBLE)] [(.ref wSUSCEPTIBLE)])) _
      exact own_retA X4 hx Bd.returns rfl rfl (hb hby d1_30) hr
    · show Q1 Z p0 wSTATES wSUSCEPTIBLE wINFECTED wRECOVERED kSTATES h0 n0 _ T4.heap _
      rw [e4]
      exact ⟨by rw [f1, if_pos hc6], N0, rfl⟩
  · obtain ⟨cla7, Ara7, qa7, Sa7, Na7, Ha7, Ga7⟩ := And.left ⟨ASTATES, trivial⟩
    have hina7 : ¬ ((1 : Int32) < 0 ∨ cla7.slots.size ≤ ((1 : Int32)).toNatClampNeg) := inb_of Sa7 ⟨by decide, by decide⟩
    obtain ⟨T8, X8, e8, st8⟩ := getF X4 hx hZ hown (host := "") (Or.inl (hw _ (List.mem_of_getElem? (i := 7) rfl))) Via.refl e4 FINFECTED_letter (g := (mkF m 21 #[.val (.int p0), .val (.ref wSTATES), .val (.int (3 : Int32)), .val (.int (1 : Int32)), .val (.ref wINFECTED)] [(.ref wINFECTED)])) rfl rfl (hb hby d1_21)
    have k9 : ∀ t, Steps p.tables e below (T8.setTop (mkF m 25 #[.val (.int p0), .val (.ref wSTATES), .val (.int (3 : Int32)), .val (.int (1 : Int32)), .val (.ref wINFECTED)] [(.int p0), (.int (73 : Int32))])) t → Steps p.tables e below (s₁.setTop (entryFrame m #[(.int p0)] 5)) t := fun t kt => k5 t (by
      show Steps p.tables e below (T4.setTop (mkF m 25 #[.val (.int p0), .val (.ref wSTATES), .val (.int (3 : Int32)), .val (.int (0 : Int32)), .val (.ref wSUSCEPTIBLE)] [(.int p0), (.int (83 : Int32))])) _
      refine XS.icmpYes X4.here hx rfl (pc0 := 25) (pc' := 31) rfl (hb hby d1_25) rfl (feq (hc6 : ¬ ((83 : Int32) = p0))).2 (by decide) (by decide) ?_
      show Steps p.tables e below (T4.setTop (mkF m 31 #[.val (.int p0), .val (.ref wSTATES), .val (.int (3 : Int32)), .val (.int (0 : Int32)), .val (.ref wSUSCEPTIBLE)] [])) _
      refine XS.iinc X4.here hx rfl (hb hby d1_31) rfl (l' := #[.val (.int p0), .val (.ref wSTATES), .val (.int (3 : Int32)), .val (.int (1 : Int32)), .val (.ref wSUSCEPTIBLE)]) rfl ?_
      show Steps p.tables e below (T4.setTop (mkF m 34 #[.val (.int p0), .val (.ref wSTATES), .val (.int (3 : Int32)), .val (.int (1 : Int32)), .val (.ref wSUSCEPTIBLE)] [])) _
      refine XS.goto X4.here hx rfl (pc0 := 34) (pc' := 9) rfl (hb hby d1_34) (by decide) (by decide) ?_
      show Steps p.tables e below (T4.setTop (mkF m 9 #[.val (.int p0), .val (.ref wSTATES), .val (.int (3 : Int32)), .val (.int (1 : Int32)), .val (.ref wSUSCEPTIBLE)] [])) _
      refine XS.iloadN X4.here hx rfl (hb hby d1_9) rfl ?_
      show Steps p.tables e below (T4.setTop (mkF m 10 #[.val (.int p0), .val (.ref wSTATES), .val (.int (3 : Int32)), .val (.int (1 : Int32)), .val (.ref wSUSCEPTIBLE)] [(.int (1 : Int32))])) _
      refine XS.iloadN X4.here hx rfl (hb hby d1_10) rfl ?_
      show Steps p.tables e below (T4.setTop (mkF m 11 #[.val (.int p0), .val (.ref wSTATES), .val (.int (3 : Int32)), .val (.int (1 : Int32)), .val (.ref wSUSCEPTIBLE)] [(.int (3 : Int32)), (.int (1 : Int32))])) _
      refine XS.icmpNo X4.here hx rfl (hb hby d1_11) rfl (tlt ((by decide) : (1 : Int32) < (3 : Int32))).2.1 ?_
      show Steps p.tables e below (T4.setTop (mkF m 14 #[.val (.int p0), .val (.ref wSTATES), .val (.int (3 : Int32)), .val (.int (1 : Int32)), .val (.ref wSUSCEPTIBLE)] [])) _
      refine XS.aloadN X4.here hx rfl (hb hby d1_14) rfl rfl ?_
      show Steps p.tables e below (T4.setTop (mkF m 15 #[.val (.int p0), .val (.ref wSTATES), .val (.int (3 : Int32)), .val (.int (1 : Int32)), .val (.ref wSUSCEPTIBLE)] [(.ref wSTATES)])) _
      refine XS.iloadN X4.here hx rfl (hb hby d1_15) rfl ?_
      show Steps p.tables e below (T4.setTop (mkF m 16 #[.val (.int p0), .val (.ref wSTATES), .val (.int (3 : Int32)), .val (.int (1 : Int32)), .val (.ref wSUSCEPTIBLE)] [(.int (1 : Int32)), (.ref wSTATES)])) _
      refine X4.aaload hx (j := (1 : Int32)) (v := (.ref wINFECTED)) (by rw [e4]; exact Ara7.1) (State.isArrayOf_alike hZ.alike Ara7.2.1) rfl Ara7.2.2 hina7 (Ha7.at hina7 rfl) (g := (mkF m 16 #[.val (.int p0), .val (.ref wSTATES), .val (.int (3 : Int32)), .val (.int (1 : Int32)), .val (.ref wSUSCEPTIBLE)] [(.int (1 : Int32)), (.ref wSTATES)])) rfl rfl (hb hby d1_16) _ ?_
      show Steps p.tables e below (T4.setTop (mkF m 17 #[.val (.int p0), .val (.ref wSTATES), .val (.int (3 : Int32)), .val (.int (1 : Int32)), .val (.ref wSUSCEPTIBLE)] [(.ref wINFECTED)])) _
      refine XS.astore X4.here hx rfl (hb hby d1_17) rfl rfl (l' := #[.val (.int p0), .val (.ref wSTATES), .val (.int (3 : Int32)), .val (.int (1 : Int32)), .val (.ref wINFECTED)]) rfl ?_
      show Steps p.tables e below (T4.setTop (mkF m 19 #[.val (.int p0), .val (.ref wSTATES), .val (.int (3 : Int32)), .val (.int (1 : Int32)), .val (.ref wINFECTED)] [])) _
      refine XS.aload X4.here hx rfl (hb hby d1_19) rfl rfl ?_
      show Steps p.tables e below (T4.setTop (mkF m 21 #[.val (.int p0), .val (.ref wSTATES), .val (.int (3 : Int32)), .val (.int (1 : Int32)), .val (.ref wINFECTED)] [(.ref wINFECTED)])) _
      refine st8 _ ?_
      show Steps p.tables e below (T8.setTop (mkF m 24 #[.val (.int p0), .val (.ref wSTATES), .val (.int (3 : Int32)), .val (.int (1 : Int32)), .val (.ref wINFECTED)] [(.int (73 : Int32))])) _
      refine XS.iloadN X8.here hx rfl (hb hby d1_24) rfl ?_
      exact kt)
    by_cases hc10 : (73 : Int32) = p0
    · obtain ⟨fs, hr, hrun, hended, hW, hsame⟩ := X8.leave (v := some (.ref wINFECTED)) (fun h => by rw [Bd.returns] at h; cases h)
      refine ⟨_, _, k9 _ ?_, hrun, hended, _, _, rfl, ?_, ⟨_, rfl⟩, hW, hsame.mono (by decide) (by decide)⟩
      · show Steps p.tables e below (T8.setTop (mkF m 25 #[.val (.int p0), .val (.ref wSTATES), .val (.int (3 : Int32)), .val (.int (1 : Int32)), .val (.ref wINFECTED)] [(.int p0), (.int (73 : Int32))])) _
        refine XS.icmpNo X8.here hx rfl (hb hby d1_25) rfl (teq (hc10 : (73 : Int32) = p0)).2 ?_
        show Steps p.tables e below (T8.setTop (mkF m 28 #[.val (.int p0), .val (.ref wSTATES), .val (.int (3 : Int32)), .val (.int (1 : Int32)), .val (.ref wINFECTED)] [])) _
        refine XS.aload X8.here hx rfl (hb hby d1_28) rfl rfl ?_
        show Steps p.tables e below (T8.setTop (mkF m 30 #[.val (.int p0), .val (.ref wSTATES), .val (.int (3 : Int32)), .val (.int (1 : Int32)), .val (.ref wINFECTED)] [(.ref wINFECTED)])) _
        exact own_retA X8 hx Bd.returns rfl rfl (hb hby d1_30) hr
      · show Q1 Z p0 wSTATES wSUSCEPTIBLE wINFECTED wRECOVERED kSTATES h0 n0 _ T8.heap _
        rw [e8]
        exact ⟨by rw [f1, if_neg hc6, if_pos hc10], N0, rfl⟩
    · obtain ⟨cla11, Ara11, qa11, Sa11, Na11, Ha11, Ga11⟩ := And.left ⟨ASTATES, trivial⟩
      have hina11 : ¬ ((2 : Int32) < 0 ∨ cla11.slots.size ≤ ((2 : Int32)).toNatClampNeg) := inb_of Sa11 ⟨by decide, by decide⟩
      obtain ⟨T12, X12, e12, st12⟩ := getF X8 hx hZ hown (host := "") (Or.inl (hw _ (List.mem_of_getElem? (i := 7) rfl))) Via.refl e8 FRECOVERED_letter (g := (mkF m 21 #[.val (.int p0), .val (.ref wSTATES), .val (.int (3 : Int32)), .val (.int (2 : Int32)), .val (.ref wRECOVERED)] [(.ref wRECOVERED)])) rfl rfl (hb hby d1_21)
      have k13 : ∀ t, Steps p.tables e below (T12.setTop (mkF m 25 #[.val (.int p0), .val (.ref wSTATES), .val (.int (3 : Int32)), .val (.int (2 : Int32)), .val (.ref wRECOVERED)] [(.int p0), (.int (82 : Int32))])) t → Steps p.tables e below (s₁.setTop (entryFrame m #[(.int p0)] 5)) t := fun t kt => k9 t (by
        show Steps p.tables e below (T8.setTop (mkF m 25 #[.val (.int p0), .val (.ref wSTATES), .val (.int (3 : Int32)), .val (.int (1 : Int32)), .val (.ref wINFECTED)] [(.int p0), (.int (73 : Int32))])) _
        refine XS.icmpYes X8.here hx rfl (pc0 := 25) (pc' := 31) rfl (hb hby d1_25) rfl (feq (hc10 : ¬ ((73 : Int32) = p0))).2 (by decide) (by decide) ?_
        show Steps p.tables e below (T8.setTop (mkF m 31 #[.val (.int p0), .val (.ref wSTATES), .val (.int (3 : Int32)), .val (.int (1 : Int32)), .val (.ref wINFECTED)] [])) _
        refine XS.iinc X8.here hx rfl (hb hby d1_31) rfl (l' := #[.val (.int p0), .val (.ref wSTATES), .val (.int (3 : Int32)), .val (.int (2 : Int32)), .val (.ref wINFECTED)]) rfl ?_
        show Steps p.tables e below (T8.setTop (mkF m 34 #[.val (.int p0), .val (.ref wSTATES), .val (.int (3 : Int32)), .val (.int (2 : Int32)), .val (.ref wINFECTED)] [])) _
        refine XS.goto X8.here hx rfl (pc0 := 34) (pc' := 9) rfl (hb hby d1_34) (by decide) (by decide) ?_
        show Steps p.tables e below (T8.setTop (mkF m 9 #[.val (.int p0), .val (.ref wSTATES), .val (.int (3 : Int32)), .val (.int (2 : Int32)), .val (.ref wINFECTED)] [])) _
        refine XS.iloadN X8.here hx rfl (hb hby d1_9) rfl ?_
        show Steps p.tables e below (T8.setTop (mkF m 10 #[.val (.int p0), .val (.ref wSTATES), .val (.int (3 : Int32)), .val (.int (2 : Int32)), .val (.ref wINFECTED)] [(.int (2 : Int32))])) _
        refine XS.iloadN X8.here hx rfl (hb hby d1_10) rfl ?_
        show Steps p.tables e below (T8.setTop (mkF m 11 #[.val (.int p0), .val (.ref wSTATES), .val (.int (3 : Int32)), .val (.int (2 : Int32)), .val (.ref wINFECTED)] [(.int (3 : Int32)), (.int (2 : Int32))])) _
        refine XS.icmpNo X8.here hx rfl (hb hby d1_11) rfl (tlt ((by decide) : (2 : Int32) < (3 : Int32))).2.1 ?_
        show Steps p.tables e below (T8.setTop (mkF m 14 #[.val (.int p0), .val (.ref wSTATES), .val (.int (3 : Int32)), .val (.int (2 : Int32)), .val (.ref wINFECTED)] [])) _
        refine XS.aloadN X8.here hx rfl (hb hby d1_14) rfl rfl ?_
        show Steps p.tables e below (T8.setTop (mkF m 15 #[.val (.int p0), .val (.ref wSTATES), .val (.int (3 : Int32)), .val (.int (2 : Int32)), .val (.ref wINFECTED)] [(.ref wSTATES)])) _
        refine XS.iloadN X8.here hx rfl (hb hby d1_15) rfl ?_
        show Steps p.tables e below (T8.setTop (mkF m 16 #[.val (.int p0), .val (.ref wSTATES), .val (.int (3 : Int32)), .val (.int (2 : Int32)), .val (.ref wINFECTED)] [(.int (2 : Int32)), (.ref wSTATES)])) _
        refine X8.aaload hx (j := (2 : Int32)) (v := (.ref wRECOVERED)) (by rw [e8]; exact Ara11.1) (State.isArrayOf_alike hZ.alike Ara11.2.1) rfl Ara11.2.2 hina11 (Ha11.at hina11 rfl) (g := (mkF m 16 #[.val (.int p0), .val (.ref wSTATES), .val (.int (3 : Int32)), .val (.int (2 : Int32)), .val (.ref wINFECTED)] [(.int (2 : Int32)), (.ref wSTATES)])) rfl rfl (hb hby d1_16) _ ?_
        show Steps p.tables e below (T8.setTop (mkF m 17 #[.val (.int p0), .val (.ref wSTATES), .val (.int (3 : Int32)), .val (.int (2 : Int32)), .val (.ref wINFECTED)] [(.ref wRECOVERED)])) _
        refine XS.astore X8.here hx rfl (hb hby d1_17) rfl rfl (l' := #[.val (.int p0), .val (.ref wSTATES), .val (.int (3 : Int32)), .val (.int (2 : Int32)), .val (.ref wRECOVERED)]) rfl ?_
        show Steps p.tables e below (T8.setTop (mkF m 19 #[.val (.int p0), .val (.ref wSTATES), .val (.int (3 : Int32)), .val (.int (2 : Int32)), .val (.ref wRECOVERED)] [])) _
        refine XS.aload X8.here hx rfl (hb hby d1_19) rfl rfl ?_
        show Steps p.tables e below (T8.setTop (mkF m 21 #[.val (.int p0), .val (.ref wSTATES), .val (.int (3 : Int32)), .val (.int (2 : Int32)), .val (.ref wRECOVERED)] [(.ref wRECOVERED)])) _
        refine st12 _ ?_
        show Steps p.tables e below (T12.setTop (mkF m 24 #[.val (.int p0), .val (.ref wSTATES), .val (.int (3 : Int32)), .val (.int (2 : Int32)), .val (.ref wRECOVERED)] [(.int (82 : Int32))])) _
        refine XS.iloadN X12.here hx rfl (hb hby d1_24) rfl ?_
        exact kt)
      by_cases hc14 : (82 : Int32) = p0
      · obtain ⟨fs, hr, hrun, hended, hW, hsame⟩ := X12.leave (v := some (.ref wRECOVERED)) (fun h => by rw [Bd.returns] at h; cases h)
        refine ⟨_, _, k13 _ ?_, hrun, hended, _, _, rfl, ?_, ⟨_, rfl⟩, hW, hsame.mono (by decide) (by decide)⟩
        · show Steps p.tables e below (T12.setTop (mkF m 25 #[.val (.int p0), .val (.ref wSTATES), .val (.int (3 : Int32)), .val (.int (2 : Int32)), .val (.ref wRECOVERED)] [(.int p0), (.int (82 : Int32))])) _
          refine XS.icmpNo X12.here hx rfl (hb hby d1_25) rfl (teq (hc14 : (82 : Int32) = p0)).2 ?_
          show Steps p.tables e below (T12.setTop (mkF m 28 #[.val (.int p0), .val (.ref wSTATES), .val (.int (3 : Int32)), .val (.int (2 : Int32)), .val (.ref wRECOVERED)] [])) _
          refine XS.aload X12.here hx rfl (hb hby d1_28) rfl rfl ?_
          show Steps p.tables e below (T12.setTop (mkF m 30 #[.val (.int p0), .val (.ref wSTATES), .val (.int (3 : Int32)), .val (.int (2 : Int32)), .val (.ref wRECOVERED)] [(.ref wRECOVERED)])) _
          exact own_retA X12 hx Bd.returns rfl rfl (hb hby d1_30) hr
        · show Q1 Z p0 wSTATES wSUSCEPTIBLE wINFECTED wRECOVERED kSTATES h0 n0 _ T12.heap _
          rw [e12]
          exact ⟨by rw [f1, if_neg hc6, if_neg hc10, if_pos hc14], N0, rfl⟩
      · obtain ⟨fs, hr, hrun, hended, hW, hsame⟩ := X12.leave (v := some .null) (fun h => by rw [Bd.returns] at h; cases h)
        refine ⟨_, _, k13 _ ?_, hrun, hended, _, _, rfl, ?_, ⟨_, rfl⟩, hW, hsame.mono (by decide) (by decide)⟩
        · show Steps p.tables e below (T12.setTop (mkF m 25 #[.val (.int p0), .val (.ref wSTATES), .val (.int (3 : Int32)), .val (.int (2 : Int32)), .val (.ref wRECOVERED)] [(.int p0), (.int (82 : Int32))])) _
          refine XS.icmpYes X12.here hx rfl (pc0 := 25) (pc' := 31) rfl (hb hby d1_25) rfl (feq (hc14 : ¬ ((82 : Int32) = p0))).2 (by decide) (by decide) ?_
          show Steps p.tables e below (T12.setTop (mkF m 31 #[.val (.int p0), .val (.ref wSTATES), .val (.int (3 : Int32)), .val (.int (2 : Int32)), .val (.ref wRECOVERED)] [])) _
          refine XS.iinc X12.here hx rfl (hb hby d1_31) rfl (l' := #[.val (.int p0), .val (.ref wSTATES), .val (.int (3 : Int32)), .val (.int (3 : Int32)), .val (.ref wRECOVERED)]) rfl ?_
          show Steps p.tables e below (T12.setTop (mkF m 34 #[.val (.int p0), .val (.ref wSTATES), .val (.int (3 : Int32)), .val (.int (3 : Int32)), .val (.ref wRECOVERED)] [])) _
          refine XS.goto X12.here hx rfl (pc0 := 34) (pc' := 9) rfl (hb hby d1_34) (by decide) (by decide) ?_
          show Steps p.tables e below (T12.setTop (mkF m 9 #[.val (.int p0), .val (.ref wSTATES), .val (.int (3 : Int32)), .val (.int (3 : Int32)), .val (.ref wRECOVERED)] [])) _
          refine XS.iloadN X12.here hx rfl (hb hby d1_9) rfl ?_
          show Steps p.tables e below (T12.setTop (mkF m 10 #[.val (.int p0), .val (.ref wSTATES), .val (.int (3 : Int32)), .val (.int (3 : Int32)), .val (.ref wRECOVERED)] [(.int (3 : Int32))])) _
          refine XS.iloadN X12.here hx rfl (hb hby d1_10) rfl ?_
          show Steps p.tables e below (T12.setTop (mkF m 11 #[.val (.int p0), .val (.ref wSTATES), .val (.int (3 : Int32)), .val (.int (3 : Int32)), .val (.ref wRECOVERED)] [(.int (3 : Int32)), (.int (3 : Int32))])) _
          refine XS.icmpYes X12.here hx rfl (pc0 := 11) (pc' := 37) rfl (hb hby d1_11) rfl (flt ((by first | exact Int32.lt_irrefl _ | decide) : ¬ ((3 : Int32) < (3 : Int32)))).2.1 (by decide) (by decide) ?_
          show Steps p.tables e below (T12.setTop (mkF m 37 #[.val (.int p0), .val (.ref wSTATES), .val (.int (3 : Int32)), .val (.int (3 : Int32)), .val (.ref wRECOVERED)] [])) _
          refine XS.aconstNull X12.here hx rfl (hb hby d1_37) ?_
          show Steps p.tables e below (T12.setTop (mkF m 38 #[.val (.int p0), .val (.ref wSTATES), .val (.int (3 : Int32)), .val (.int (3 : Int32)), .val (.ref wRECOVERED)] [.null])) _
          exact own_retA X12 hx Bd.returns rfl rfl (hb hby d1_38) hr
        · show Q1 Z p0 wSTATES wSUSCEPTIBLE wINFECTED wRECOVERED kSTATES h0 n0 _ T12.heap _
          rw [e12]
          exact ⟨by rw [f1, if_neg hc6, if_neg hc10, if_neg hc14], N0, rfl⟩
theorem pd_0 : parseMethodDescriptor "(I)Lcom/example/rippletide/rippletide/model/State;" = some ⟨[.int], some (.object "com/example/rippletide/rippletide/model/State")⟩ := by decide +kernel
theorem pn_1 : plainName "com/example/rippletide/rippletide/model/StateOfLetterPinLaw" = true := by first | (simp [plainName, overriddenIn]; done) | decide +kernel
theorem ef_0 (m : MethodId) (p0 : Int32) (p1 : Int32) : entryFrame m #[(.int p0), (.int p1)] maxLocals = mkF m 0 #[.val (.int p0), .val (.int p1), .unset, .unset, .unset, .unset] [] := by first | (simp [entryFrame, mkF, argsToLocals, Value.category, maxLocals]; done) | rfl
def Q0 (Z : State) (p0 : Int32) (p1 : Int32) (wSTATES : Addr) (wSUSCEPTIBLE : Addr) (wINFECTED : Addr) (wRECOVERED : Addr) (kSTATES : ClassId) (h0 : Heap) (n0 : Nat) (v : Option Value) (h : Heap) (L : List Loc) : Prop := v = some (.int 1) ∧ Fr n0 L
set_option maxRecDepth 65536 in
set_option maxHeartbeats 40000000 in
theorem rm0 (l : Launch) (Z : State) (a0 : Array Value) (hw : ∀ d ∈ tables_1, d.before a0 Z = true) (ws : List Jvm.Cond) (p0 : Int32) (p1 : Int32) (wSTATES : Addr) (wSUSCEPTIBLE : Addr) (wINFECTED : Addr) (wRECOVERED : Addr) (kSTATES : ClassId) (h0 : Heap) (n0 : Nat) (Z0 : n0 ≤ h0.size) (W0 : World Z h0 wSTATES wSUSCEPTIBLE wINFECTED wRECOVERED kSTATES) :
    MetFree l x (head1 (Jvm.Cond.code x code maxLocals ret :: ws) room_1) (fun a U => a = #[(.int p0), (.int p1)] ∧ Z.Warmed39 U.vm ∧ U.heap = h0) (fun _ _ _ _ _ => True) (fun _ U o U' => ∃ v L, o = .returned v ∧ Q0 Z p0 p1 wSTATES wSUSCEPTIBLE wINFECTED wRECOVERED kSTATES h0 n0 v U'.heap L ∧ FrameEnd U o U' L room_1.cells room_1.slots) := by
  refine MetFree.of_bodySF (plainFor_of_name pn_1) hisR ?_
  intro p e s m args below meth c s₁ Bd hml0 hP hK
  obtain ⟨rfl, hZ, hh⟩ := hP
  have hx := Bd.exec
  have hby := Bd.bytes
  have hml : c.maxLocals = 6 := hml0
  have hown : s.vm.findClass "com/example/rippletide/rippletide/model/StateOfLetterPinLaw" = some m.cls := findClass_of_methodNamed Bd.named
  have X0 : Stand p l e room_1 s m #[(.int p0), (.int p1)] below meth c s₁ [] 0 0 := Stand.of_body Bd
  have e0 : s₁.heap = h0 := by rw [← hh, Bd.state]; rfl
  have N0 := Fr.nil n0
  have W1 := W0
  obtain ⟨SSTATES, SSUSCEPTIBLE, ESUSCEPTIBLE, FSUSCEPTIBLE_letter, SINFECTED, EINFECTED, FINFECTED_letter, SRECOVERED, ERECOVERED, FRECOVERED_letter, ASTATES, -⟩ := W1
  have pre0 : ∀ t, Steps p.tables e below (s₁.setTop (mkF m 0 #[.val (.int p0), .val (.int p1), .unset, .unset, .unset, .unset] [])) t → Steps p.tables e below (s₁.setTop (entryFrame m #[(.int p0), (.int p1)] maxLocals)) t := fun t k => castTop (ef_0 m p0 p1) k
  obtain ⟨i15, hi15⟩ : ∃ z, z = (p1 &&& (3 : Int32)) := ⟨_, rfl⟩
  have k16 : ∀ t, Steps p.tables e below (s₁.setTop (mkF m 5 #[.val (.int p0), .val (.int p1), .val (.int i15), .unset, .unset, .unset] [(.int i15)])) t → Steps p.tables e below (s₁.setTop (entryFrame m #[(.int p0), (.int p1)] maxLocals)) t := fun t kt => pre0 t (by
    show Steps p.tables e below (s₁.setTop (mkF m 0 #[.val (.int p0), .val (.int p1), .unset, .unset, .unset, .unset] [])) _
    refine XS.iloadN X0.here hx rfl (hb hby at_0) rfl ?_
    show Steps p.tables e below (s₁.setTop (mkF m 1 #[.val (.int p0), .val (.int p1), .unset, .unset, .unset, .unset] [(.int p1)])) _
    refine XS.iconst X0.here hx rfl (hb hby at_1) ?_
    show Steps p.tables e below (s₁.setTop (mkF m 2 #[.val (.int p0), .val (.int p1), .unset, .unset, .unset, .unset] [(.int (3 : Int32)), (.int p1)])) _
    refine XS.iand X0.here hx rfl (hb hby at_2) rfl ?_
    rw [← hi15]
    show Steps p.tables e below (s₁.setTop (mkF m 3 #[.val (.int p0), .val (.int p1), .unset, .unset, .unset, .unset] [(.int i15)])) _
    refine XS.istoreN X0.here hx rfl (hb hby at_3) rfl (l' := #[.val (.int p0), .val (.int p1), .val (.int i15), .unset, .unset, .unset]) rfl ?_
    show Steps p.tables e below (s₁.setTop (mkF m 4 #[.val (.int p0), .val (.int p1), .val (.int i15), .unset, .unset, .unset] [])) _
    refine XS.iloadN X0.here hx rfl (hb hby at_4) rfl ?_
    exact kt)
  by_cases hc17 : i15 = (0 : Int32)
  · obtain ⟨_, _, ⟨T18, L18, k18, n18⟩, -, X18, ⟨Lc18, hQ18, l18, y18, z18⟩, st18⟩ := Jvm.LawKit.callS X0 hx (y := (⟨"com/example/rippletide/rippletide/model/State", "ofLetter", "(I)Lcom/example/rippletide/rippletide/model/State;"⟩ : MethodName)) hown (mvT hZ (hw _ (List.mem_of_getElem? (i := 0) rfl))) (mvT hZ (hw _ (List.mem_of_getElem? (i := 1) rfl))) (mvT hZ (hw _ (List.mem_of_getElem? (i := 2) rfl))) (mvT hZ (hw _ (List.mem_of_getElem? (i := 3) rfl))) (by decide) (backOf (W := 0) (rm1 l Z a0 hw [] (83 : Int32) wSTATES wSUSCEPTIBLE wINFECTED wRECOVERED kSTATES h0 n0 Z0 W0 ) hZ (hw _ (List.mem_of_getElem? (i := 3) rfl)) (hw _ (List.mem_of_getElem? (i := 2) rfl)) (by decide) (by decide)) (g := (mkF m 39 #[.val (.int p0), .val (.int p1), .val (.int i15), .val (.int (83 : Int32)), .unset, .unset] [(.int (83 : Int32))])) rfl (by rw [hml]; rfl) (argsL := [(.int (83 : Int32))]) (rest := []) (lenOf pd_0 rfl) rfl (by show 2 * 0 + _ ≤ _; exact Nat.le_of_eq rfl) (hb hby at_39) (fun _ _ => ⟨rfl, e0, (by decide : 0 + 0 ≤ _), (by decide : 0 + 0 ≤ _)⟩)
    dsimp only [Pt.U, Pt.locs, Pt.cells, Pt.slots] at X18 l18 y18 z18 st18 hQ18
    subst l18 y18 z18
    unfold Q1 at hQ18
    have k19 : ∀ t, Steps p.tables e below (s₁.setTop (mkF m 39 #[.val (.int p0), .val (.int p1), .val (.int i15), .val (.int (83 : Int32)), .unset, .unset] [(.int (83 : Int32))])) t → Steps p.tables e below (s₁.setTop (entryFrame m #[(.int p0), (.int p1)] maxLocals)) t := fun t kt => k16 t (by
      show Steps p.tables e below (s₁.setTop (mkF m 5 #[.val (.int p0), .val (.int p1), .val (.int i15), .unset, .unset, .unset] [(.int i15)])) _
      refine XS.ifNo X0.here hx rfl (hb hby at_5) rfl ((if0 _ _).trans (teq (hc17 : i15 = (0 : Int32))).2) ?_
      show Steps p.tables e below (s₁.setTop (mkF m 8 #[.val (.int p0), .val (.int p1), .val (.int i15), .unset, .unset, .unset] [])) _
      refine XS.bipush X0.here hx rfl (hb hby at_8) ?_
      show Steps p.tables e below (s₁.setTop (mkF m 10 #[.val (.int p0), .val (.int p1), .val (.int i15), .unset, .unset, .unset] [(.int (83 : Int32))])) _
      refine XS.istoreN X0.here hx rfl (hb hby at_10) rfl (l' := #[.val (.int p0), .val (.int p1), .val (.int i15), .val (.int (83 : Int32)), .unset, .unset]) rfl ?_
      show Steps p.tables e below (s₁.setTop (mkF m 11 #[.val (.int p0), .val (.int p1), .val (.int i15), .val (.int (83 : Int32)), .unset, .unset] [])) _
      refine XS.goto X0.here hx rfl (pc0 := 11) (pc' := 38) rfl (hb hby at_11) (by decide) (by decide) ?_
      show Steps p.tables e below (s₁.setTop (mkF m 38 #[.val (.int p0), .val (.int p1), .val (.int i15), .val (.int (83 : Int32)), .unset, .unset] [])) _
      refine XS.iloadN X0.here hx rfl (hb hby at_38) rfl ?_
      exact kt)
    rw [((by rw [f1, if_pos (rfl : (83 : Int32) = (83 : Int32))]) : (f1 (83 : Int32) wSTATES wSUSCEPTIBLE wINFECTED wRECOVERED kSTATES) = (.ref wSUSCEPTIBLE))] at hQ18
    obtain ⟨rfl, N18q, e18⟩ := hQ18
    have N18 := Fr.app N0 N18q
    obtain ⟨T20, X20, e20, st20⟩ := getS2 X18 hx hZ hown (host := "") (Or.inl (hw _ (List.mem_of_getElem? (i := 12) rfl))) Via.refl e18 SSUSCEPTIBLE (g := (mkF m 50 #[.val (.int p0), .val (.int p1), .val (.int i15), .val (.int (83 : Int32)), .val (.ref wSUSCEPTIBLE), .unset] [])) rfl (hb hby at_50)
    obtain ⟨fs, hr, hrun, hended, hW, hsame⟩ := X20.leave (v := some (.int (1 : Int32))) (fun h => by rw [Bd.returns] at h; cases h)
    refine ⟨_, _, k19 _ ?_, hrun, hended, _, _, rfl, ?_, ⟨_, rfl⟩, hW, hsame.mono (by decide) (by decide)⟩
    · show Steps p.tables e below (s₁.setTop (mkF m 39 #[.val (.int p0), .val (.int p1), .val (.int i15), .val (.int (83 : Int32)), .unset, .unset] [(.int (83 : Int32))])) _
      refine st18 _ ?_
      show Steps p.tables e below (T18.setTop (mkF m 42 #[.val (.int p0), .val (.int p1), .val (.int i15), .val (.int (83 : Int32)), .unset, .unset] [(.ref wSUSCEPTIBLE)])) _
      refine XS.astore X18.here hx rfl (hb hby at_42) rfl rfl (l' := #[.val (.int p0), .val (.int p1), .val (.int i15), .val (.int (83 : Int32)), .val (.ref wSUSCEPTIBLE), .unset]) rfl ?_
      show Steps p.tables e below (T18.setTop (mkF m 44 #[.val (.int p0), .val (.int p1), .val (.int i15), .val (.int (83 : Int32)), .val (.ref wSUSCEPTIBLE), .unset] [])) _
      refine XS.iloadN X18.here hx rfl (hb hby at_44) rfl ?_
      show Steps p.tables e below (T18.setTop (mkF m 45 #[.val (.int p0), .val (.int p1), .val (.int i15), .val (.int (83 : Int32)), .val (.ref wSUSCEPTIBLE), .unset] [(.int (83 : Int32))])) _
      refine XS.bipush X18.here hx rfl (hb hby at_45) ?_
      show Steps p.tables e below (T18.setTop (mkF m 47 #[.val (.int p0), .val (.int p1), .val (.int i15), .val (.int (83 : Int32)), .val (.ref wSUSCEPTIBLE), .unset] [(.int (83 : Int32)), (.int (83 : Int32))])) _
      refine XS.icmpNo X18.here hx rfl (hb hby at_47) rfl (teq (rfl : (83 : Int32) = (83 : Int32))).2 ?_
      show Steps p.tables e below (T18.setTop (mkF m 50 #[.val (.int p0), .val (.int p1), .val (.int i15), .val (.int (83 : Int32)), .val (.ref wSUSCEPTIBLE), .unset] [])) _
      refine st20 _ ?_
      show Steps p.tables e below (T20.setTop (mkF m 53 #[.val (.int p0), .val (.int p1), .val (.int i15), .val (.int (83 : Int32)), .val (.ref wSUSCEPTIBLE), .unset] [(.ref wSUSCEPTIBLE)])) _
      refine XS.astore X20.here hx rfl (hb hby at_53) rfl rfl (l' := #[.val (.int p0), .val (.int p1), .val (.int i15), .val (.int (83 : Int32)), .val (.ref wSUSCEPTIBLE), .val (.ref wSUSCEPTIBLE)]) rfl ?_
      show Steps p.tables e below (T20.setTop (mkF m 55 #[.val (.int p0), .val (.int p1), .val (.int i15), .val (.int (83 : Int32)), .val (.ref wSUSCEPTIBLE), .val (.ref wSUSCEPTIBLE)] [])) _
      refine XS.goto X20.here hx rfl (pc0 := 55) (pc' := 89) rfl (hb hby at_55) (by decide) (by decide) ?_
      show Steps p.tables e below (T20.setTop (mkF m 89 #[.val (.int p0), .val (.int p1), .val (.int i15), .val (.int (83 : Int32)), .val (.ref wSUSCEPTIBLE), .val (.ref wSUSCEPTIBLE)] [])) _
      refine XS.aload X20.here hx rfl (hb hby at_89) rfl rfl ?_
      show Steps p.tables e below (T20.setTop (mkF m 91 #[.val (.int p0), .val (.int p1), .val (.int i15), .val (.int (83 : Int32)), .val (.ref wSUSCEPTIBLE), .val (.ref wSUSCEPTIBLE)] [(.ref wSUSCEPTIBLE)])) _
      refine XS.aload X20.here hx rfl (hb hby at_91) rfl rfl ?_
      show Steps p.tables e below (T20.setTop (mkF m 93 #[.val (.int p0), .val (.int p1), .val (.int i15), .val (.int (83 : Int32)), .val (.ref wSUSCEPTIBLE), .val (.ref wSUSCEPTIBLE)] [(.ref wSUSCEPTIBLE), (.ref wSUSCEPTIBLE)])) _
      refine Jvm.RoadKit.acmp (g := (mkF m 93 #[.val (.int p0), .val (.int p1), .val (.int i15), .val (.int (83 : Int32)), .val (.ref wSUSCEPTIBLE), .val (.ref wSUSCEPTIBLE)] [(.ref wSUSCEPTIBLE), (.ref wSUSCEPTIBLE)])) X20 hx rfl rfl rfl (pc0 := 93) (pc' := 96) (same := true) rfl (hb hby at_93) rfl (decide_eq_true (congrArg Value.ref (rfl : wSUSCEPTIBLE = wSUSCEPTIBLE))) (by decide) (by decide) ?_
      show Steps p.tables e below (T20.setTop (mkF m 96 #[.val (.int p0), .val (.int p1), .val (.int i15), .val (.int (83 : Int32)), .val (.ref wSUSCEPTIBLE), .val (.ref wSUSCEPTIBLE)] [])) _
      refine XS.iconst X20.here hx rfl (hb hby at_96) ?_
      show Steps p.tables e below (T20.setTop (mkF m 97 #[.val (.int p0), .val (.int p1), .val (.int i15), .val (.int (83 : Int32)), .val (.ref wSUSCEPTIBLE), .val (.ref wSUSCEPTIBLE)] [(.int (1 : Int32))])) _
      refine XS.goto X20.here hx rfl (pc0 := 97) (pc' := 101) rfl (hb hby at_97) (by decide) (by decide) ?_
      show Steps p.tables e below (T20.setTop (mkF m 101 #[.val (.int p0), .val (.int p1), .val (.int i15), .val (.int (83 : Int32)), .val (.ref wSUSCEPTIBLE), .val (.ref wSUSCEPTIBLE)] [(.int (1 : Int32))])) _
      exact retN X20 hx (t := .boolean) Bd.returns (by simp) (hb hby at_101) hr
    · show Q0 Z p0 p1 wSTATES wSUSCEPTIBLE wINFECTED wRECOVERED kSTATES h0 n0 _ T20.heap _
      rw [e20]
      exact ⟨rfl, N18⟩
  · have k21 : ∀ t, Steps p.tables e below (s₁.setTop (mkF m 16 #[.val (.int p0), .val (.int p1), .val (.int i15), .unset, .unset, .unset] [(.int (1 : Int32)), (.int i15)])) t → Steps p.tables e below (s₁.setTop (entryFrame m #[(.int p0), (.int p1)] maxLocals)) t := fun t kt => k16 t (by
      show Steps p.tables e below (s₁.setTop (mkF m 5 #[.val (.int p0), .val (.int p1), .val (.int i15), .unset, .unset, .unset] [(.int i15)])) _
      refine XS.ifYes X0.here hx rfl (pc0 := 5) (pc' := 14) rfl (hb hby at_5) rfl ((if0 _ _).trans (feq (hc17 : ¬ (i15 = (0 : Int32)))).2) (by decide) (by decide) ?_
      show Steps p.tables e below (s₁.setTop (mkF m 14 #[.val (.int p0), .val (.int p1), .val (.int i15), .unset, .unset, .unset] [])) _
      refine XS.iloadN X0.here hx rfl (hb hby at_14) rfl ?_
      show Steps p.tables e below (s₁.setTop (mkF m 15 #[.val (.int p0), .val (.int p1), .val (.int i15), .unset, .unset, .unset] [(.int i15)])) _
      refine XS.iconst X0.here hx rfl (hb hby at_15) ?_
      exact kt)
    by_cases hc22 : i15 = (1 : Int32)
    · obtain ⟨_, _, ⟨T23, L23, k23, n23⟩, -, X23, ⟨Lc23, hQ23, l23, y23, z23⟩, st23⟩ := Jvm.LawKit.callS X0 hx (y := (⟨"com/example/rippletide/rippletide/model/State", "ofLetter", "(I)Lcom/example/rippletide/rippletide/model/State;"⟩ : MethodName)) hown (mvT hZ (hw _ (List.mem_of_getElem? (i := 0) rfl))) (mvT hZ (hw _ (List.mem_of_getElem? (i := 1) rfl))) (mvT hZ (hw _ (List.mem_of_getElem? (i := 2) rfl))) (mvT hZ (hw _ (List.mem_of_getElem? (i := 3) rfl))) (by decide) (backOf (W := 0) (rm1 l Z a0 hw [] (73 : Int32) wSTATES wSUSCEPTIBLE wINFECTED wRECOVERED kSTATES h0 n0 Z0 W0 ) hZ (hw _ (List.mem_of_getElem? (i := 3) rfl)) (hw _ (List.mem_of_getElem? (i := 2) rfl)) (by decide) (by decide)) (g := (mkF m 39 #[.val (.int p0), .val (.int p1), .val (.int i15), .val (.int (73 : Int32)), .unset, .unset] [(.int (73 : Int32))])) rfl (by rw [hml]; rfl) (argsL := [(.int (73 : Int32))]) (rest := []) (lenOf pd_0 rfl) rfl (by show 2 * 0 + _ ≤ _; exact Nat.le_of_eq rfl) (hb hby at_39) (fun _ _ => ⟨rfl, e0, (by decide : 0 + 0 ≤ _), (by decide : 0 + 0 ≤ _)⟩)
      dsimp only [Pt.U, Pt.locs, Pt.cells, Pt.slots] at X23 l23 y23 z23 st23 hQ23
      subst l23 y23 z23
      unfold Q1 at hQ23
      have k24 : ∀ t, Steps p.tables e below (s₁.setTop (mkF m 39 #[.val (.int p0), .val (.int p1), .val (.int i15), .val (.int (73 : Int32)), .unset, .unset] [(.int (73 : Int32))])) t → Steps p.tables e below (s₁.setTop (entryFrame m #[(.int p0), (.int p1)] maxLocals)) t := fun t kt => k21 t (by
        show Steps p.tables e below (s₁.setTop (mkF m 16 #[.val (.int p0), .val (.int p1), .val (.int i15), .unset, .unset, .unset] [(.int (1 : Int32)), (.int i15)])) _
        refine XS.icmpNo X0.here hx rfl (hb hby at_16) rfl (teq (hc22 : i15 = (1 : Int32))).2 ?_
        show Steps p.tables e below (s₁.setTop (mkF m 19 #[.val (.int p0), .val (.int p1), .val (.int i15), .unset, .unset, .unset] [])) _
        refine XS.bipush X0.here hx rfl (hb hby at_19) ?_
        show Steps p.tables e below (s₁.setTop (mkF m 21 #[.val (.int p0), .val (.int p1), .val (.int i15), .unset, .unset, .unset] [(.int (73 : Int32))])) _
        refine XS.istoreN X0.here hx rfl (hb hby at_21) rfl (l' := #[.val (.int p0), .val (.int p1), .val (.int i15), .val (.int (73 : Int32)), .unset, .unset]) rfl ?_
        show Steps p.tables e below (s₁.setTop (mkF m 22 #[.val (.int p0), .val (.int p1), .val (.int i15), .val (.int (73 : Int32)), .unset, .unset] [])) _
        refine XS.goto X0.here hx rfl (pc0 := 22) (pc' := 38) rfl (hb hby at_22) (by decide) (by decide) ?_
        show Steps p.tables e below (s₁.setTop (mkF m 38 #[.val (.int p0), .val (.int p1), .val (.int i15), .val (.int (73 : Int32)), .unset, .unset] [])) _
        refine XS.iloadN X0.here hx rfl (hb hby at_38) rfl ?_
        exact kt)
      rw [((by rw [f1, if_neg ((by decide) : ¬ ((83 : Int32) = (73 : Int32))), if_pos (rfl : (73 : Int32) = (73 : Int32))]) : (f1 (73 : Int32) wSTATES wSUSCEPTIBLE wINFECTED wRECOVERED kSTATES) = (.ref wINFECTED))] at hQ23
      obtain ⟨rfl, N23q, e23⟩ := hQ23
      have N23 := Fr.app N0 N23q
      obtain ⟨T25, X25, e25, st25⟩ := getS2 X23 hx hZ hown (host := "") (Or.inl (hw _ (List.mem_of_getElem? (i := 11) rfl))) Via.refl e23 SINFECTED (g := (mkF m 64 #[.val (.int p0), .val (.int p1), .val (.int i15), .val (.int (73 : Int32)), .val (.ref wINFECTED), .unset] [])) rfl (hb hby at_64)
      obtain ⟨fs, hr, hrun, hended, hW, hsame⟩ := X25.leave (v := some (.int (1 : Int32))) (fun h => by rw [Bd.returns] at h; cases h)
      refine ⟨_, _, k24 _ ?_, hrun, hended, _, _, rfl, ?_, ⟨_, rfl⟩, hW, hsame.mono (by decide) (by decide)⟩
      · show Steps p.tables e below (s₁.setTop (mkF m 39 #[.val (.int p0), .val (.int p1), .val (.int i15), .val (.int (73 : Int32)), .unset, .unset] [(.int (73 : Int32))])) _
        refine st23 _ ?_
        show Steps p.tables e below (T23.setTop (mkF m 42 #[.val (.int p0), .val (.int p1), .val (.int i15), .val (.int (73 : Int32)), .unset, .unset] [(.ref wINFECTED)])) _
        refine XS.astore X23.here hx rfl (hb hby at_42) rfl rfl (l' := #[.val (.int p0), .val (.int p1), .val (.int i15), .val (.int (73 : Int32)), .val (.ref wINFECTED), .unset]) rfl ?_
        show Steps p.tables e below (T23.setTop (mkF m 44 #[.val (.int p0), .val (.int p1), .val (.int i15), .val (.int (73 : Int32)), .val (.ref wINFECTED), .unset] [])) _
        refine XS.iloadN X23.here hx rfl (hb hby at_44) rfl ?_
        show Steps p.tables e below (T23.setTop (mkF m 45 #[.val (.int p0), .val (.int p1), .val (.int i15), .val (.int (73 : Int32)), .val (.ref wINFECTED), .unset] [(.int (73 : Int32))])) _
        refine XS.bipush X23.here hx rfl (hb hby at_45) ?_
        show Steps p.tables e below (T23.setTop (mkF m 47 #[.val (.int p0), .val (.int p1), .val (.int i15), .val (.int (73 : Int32)), .val (.ref wINFECTED), .unset] [(.int (83 : Int32)), (.int (73 : Int32))])) _
        refine XS.icmpYes X23.here hx rfl (pc0 := 47) (pc' := 58) rfl (hb hby at_47) rfl (feq ((by decide) : ¬ ((73 : Int32) = (83 : Int32)))).2 (by decide) (by decide) ?_
        show Steps p.tables e below (T23.setTop (mkF m 58 #[.val (.int p0), .val (.int p1), .val (.int i15), .val (.int (73 : Int32)), .val (.ref wINFECTED), .unset] [])) _
        refine XS.iloadN X23.here hx rfl (hb hby at_58) rfl ?_
        show Steps p.tables e below (T23.setTop (mkF m 59 #[.val (.int p0), .val (.int p1), .val (.int i15), .val (.int (73 : Int32)), .val (.ref wINFECTED), .unset] [(.int (73 : Int32))])) _
        refine XS.bipush X23.here hx rfl (hb hby at_59) ?_
        show Steps p.tables e below (T23.setTop (mkF m 61 #[.val (.int p0), .val (.int p1), .val (.int i15), .val (.int (73 : Int32)), .val (.ref wINFECTED), .unset] [(.int (73 : Int32)), (.int (73 : Int32))])) _
        refine XS.icmpNo X23.here hx rfl (hb hby at_61) rfl (teq (rfl : (73 : Int32) = (73 : Int32))).2 ?_
        show Steps p.tables e below (T23.setTop (mkF m 64 #[.val (.int p0), .val (.int p1), .val (.int i15), .val (.int (73 : Int32)), .val (.ref wINFECTED), .unset] [])) _
        refine st25 _ ?_
        show Steps p.tables e below (T25.setTop (mkF m 67 #[.val (.int p0), .val (.int p1), .val (.int i15), .val (.int (73 : Int32)), .val (.ref wINFECTED), .unset] [(.ref wINFECTED)])) _
        refine XS.astore X25.here hx rfl (hb hby at_67) rfl rfl (l' := #[.val (.int p0), .val (.int p1), .val (.int i15), .val (.int (73 : Int32)), .val (.ref wINFECTED), .val (.ref wINFECTED)]) rfl ?_
        show Steps p.tables e below (T25.setTop (mkF m 69 #[.val (.int p0), .val (.int p1), .val (.int i15), .val (.int (73 : Int32)), .val (.ref wINFECTED), .val (.ref wINFECTED)] [])) _
        refine XS.goto X25.here hx rfl (pc0 := 69) (pc' := 89) rfl (hb hby at_69) (by decide) (by decide) ?_
        show Steps p.tables e below (T25.setTop (mkF m 89 #[.val (.int p0), .val (.int p1), .val (.int i15), .val (.int (73 : Int32)), .val (.ref wINFECTED), .val (.ref wINFECTED)] [])) _
        refine XS.aload X25.here hx rfl (hb hby at_89) rfl rfl ?_
        show Steps p.tables e below (T25.setTop (mkF m 91 #[.val (.int p0), .val (.int p1), .val (.int i15), .val (.int (73 : Int32)), .val (.ref wINFECTED), .val (.ref wINFECTED)] [(.ref wINFECTED)])) _
        refine XS.aload X25.here hx rfl (hb hby at_91) rfl rfl ?_
        show Steps p.tables e below (T25.setTop (mkF m 93 #[.val (.int p0), .val (.int p1), .val (.int i15), .val (.int (73 : Int32)), .val (.ref wINFECTED), .val (.ref wINFECTED)] [(.ref wINFECTED), (.ref wINFECTED)])) _
        refine Jvm.RoadKit.acmp (g := (mkF m 93 #[.val (.int p0), .val (.int p1), .val (.int i15), .val (.int (73 : Int32)), .val (.ref wINFECTED), .val (.ref wINFECTED)] [(.ref wINFECTED), (.ref wINFECTED)])) X25 hx rfl rfl rfl (pc0 := 93) (pc' := 96) (same := true) rfl (hb hby at_93) rfl (decide_eq_true (congrArg Value.ref (rfl : wINFECTED = wINFECTED))) (by decide) (by decide) ?_
        show Steps p.tables e below (T25.setTop (mkF m 96 #[.val (.int p0), .val (.int p1), .val (.int i15), .val (.int (73 : Int32)), .val (.ref wINFECTED), .val (.ref wINFECTED)] [])) _
        refine XS.iconst X25.here hx rfl (hb hby at_96) ?_
        show Steps p.tables e below (T25.setTop (mkF m 97 #[.val (.int p0), .val (.int p1), .val (.int i15), .val (.int (73 : Int32)), .val (.ref wINFECTED), .val (.ref wINFECTED)] [(.int (1 : Int32))])) _
        refine XS.goto X25.here hx rfl (pc0 := 97) (pc' := 101) rfl (hb hby at_97) (by decide) (by decide) ?_
        show Steps p.tables e below (T25.setTop (mkF m 101 #[.val (.int p0), .val (.int p1), .val (.int i15), .val (.int (73 : Int32)), .val (.ref wINFECTED), .val (.ref wINFECTED)] [(.int (1 : Int32))])) _
        exact retN X25 hx (t := .boolean) Bd.returns (by simp) (hb hby at_101) hr
      · show Q0 Z p0 p1 wSTATES wSUSCEPTIBLE wINFECTED wRECOVERED kSTATES h0 n0 _ T25.heap _
        rw [e25]
        exact ⟨rfl, N23⟩
    · have k26 : ∀ t, Steps p.tables e below (s₁.setTop (mkF m 27 #[.val (.int p0), .val (.int p1), .val (.int i15), .unset, .unset, .unset] [(.int (2 : Int32)), (.int i15)])) t → Steps p.tables e below (s₁.setTop (entryFrame m #[(.int p0), (.int p1)] maxLocals)) t := fun t kt => k21 t (by
        show Steps p.tables e below (s₁.setTop (mkF m 16 #[.val (.int p0), .val (.int p1), .val (.int i15), .unset, .unset, .unset] [(.int (1 : Int32)), (.int i15)])) _
        refine XS.icmpYes X0.here hx rfl (pc0 := 16) (pc' := 25) rfl (hb hby at_16) rfl (feq (hc22 : ¬ (i15 = (1 : Int32)))).2 (by decide) (by decide) ?_
        show Steps p.tables e below (s₁.setTop (mkF m 25 #[.val (.int p0), .val (.int p1), .val (.int i15), .unset, .unset, .unset] [])) _
        refine XS.iloadN X0.here hx rfl (hb hby at_25) rfl ?_
        show Steps p.tables e below (s₁.setTop (mkF m 26 #[.val (.int p0), .val (.int p1), .val (.int i15), .unset, .unset, .unset] [(.int i15)])) _
        refine XS.iconst X0.here hx rfl (hb hby at_26) ?_
        exact kt)
      by_cases hc27 : i15 = (2 : Int32)
      · obtain ⟨_, _, ⟨T28, L28, k28, n28⟩, -, X28, ⟨Lc28, hQ28, l28, y28, z28⟩, st28⟩ := Jvm.LawKit.callS X0 hx (y := (⟨"com/example/rippletide/rippletide/model/State", "ofLetter", "(I)Lcom/example/rippletide/rippletide/model/State;"⟩ : MethodName)) hown (mvT hZ (hw _ (List.mem_of_getElem? (i := 0) rfl))) (mvT hZ (hw _ (List.mem_of_getElem? (i := 1) rfl))) (mvT hZ (hw _ (List.mem_of_getElem? (i := 2) rfl))) (mvT hZ (hw _ (List.mem_of_getElem? (i := 3) rfl))) (by decide) (backOf (W := 0) (rm1 l Z a0 hw [] (82 : Int32) wSTATES wSUSCEPTIBLE wINFECTED wRECOVERED kSTATES h0 n0 Z0 W0 ) hZ (hw _ (List.mem_of_getElem? (i := 3) rfl)) (hw _ (List.mem_of_getElem? (i := 2) rfl)) (by decide) (by decide)) (g := (mkF m 39 #[.val (.int p0), .val (.int p1), .val (.int i15), .val (.int (82 : Int32)), .unset, .unset] [(.int (82 : Int32))])) rfl (by rw [hml]; rfl) (argsL := [(.int (82 : Int32))]) (rest := []) (lenOf pd_0 rfl) rfl (by show 2 * 0 + _ ≤ _; exact Nat.le_of_eq rfl) (hb hby at_39) (fun _ _ => ⟨rfl, e0, (by decide : 0 + 0 ≤ _), (by decide : 0 + 0 ≤ _)⟩)
        dsimp only [Pt.U, Pt.locs, Pt.cells, Pt.slots] at X28 l28 y28 z28 st28 hQ28
        subst l28 y28 z28
        unfold Q1 at hQ28
        have k29 : ∀ t, Steps p.tables e below (s₁.setTop (mkF m 39 #[.val (.int p0), .val (.int p1), .val (.int i15), .val (.int (82 : Int32)), .unset, .unset] [(.int (82 : Int32))])) t → Steps p.tables e below (s₁.setTop (entryFrame m #[(.int p0), (.int p1)] maxLocals)) t := fun t kt => k26 t (by
          show Steps p.tables e below (s₁.setTop (mkF m 27 #[.val (.int p0), .val (.int p1), .val (.int i15), .unset, .unset, .unset] [(.int (2 : Int32)), (.int i15)])) _
          refine XS.icmpNo X0.here hx rfl (hb hby at_27) rfl (teq (hc27 : i15 = (2 : Int32))).2 ?_
          show Steps p.tables e below (s₁.setTop (mkF m 30 #[.val (.int p0), .val (.int p1), .val (.int i15), .unset, .unset, .unset] [])) _
          refine XS.bipush X0.here hx rfl (hb hby at_30) ?_
          show Steps p.tables e below (s₁.setTop (mkF m 32 #[.val (.int p0), .val (.int p1), .val (.int i15), .unset, .unset, .unset] [(.int (82 : Int32))])) _
          refine XS.istoreN X0.here hx rfl (hb hby at_32) rfl (l' := #[.val (.int p0), .val (.int p1), .val (.int i15), .val (.int (82 : Int32)), .unset, .unset]) rfl ?_
          show Steps p.tables e below (s₁.setTop (mkF m 33 #[.val (.int p0), .val (.int p1), .val (.int i15), .val (.int (82 : Int32)), .unset, .unset] [])) _
          refine XS.goto X0.here hx rfl (pc0 := 33) (pc' := 38) rfl (hb hby at_33) (by decide) (by decide) ?_
          show Steps p.tables e below (s₁.setTop (mkF m 38 #[.val (.int p0), .val (.int p1), .val (.int i15), .val (.int (82 : Int32)), .unset, .unset] [])) _
          refine XS.iloadN X0.here hx rfl (hb hby at_38) rfl ?_
          exact kt)
        rw [((by rw [f1, if_neg ((by decide) : ¬ ((83 : Int32) = (82 : Int32))), if_neg ((by decide) : ¬ ((73 : Int32) = (82 : Int32))), if_pos (rfl : (82 : Int32) = (82 : Int32))]) : (f1 (82 : Int32) wSTATES wSUSCEPTIBLE wINFECTED wRECOVERED kSTATES) = (.ref wRECOVERED))] at hQ28
        obtain ⟨rfl, N28q, e28⟩ := hQ28
        have N28 := Fr.app N0 N28q
        obtain ⟨T30, X30, e30, st30⟩ := getS2 X28 hx hZ hown (host := "") (Or.inl (hw _ (List.mem_of_getElem? (i := 13) rfl))) Via.refl e28 SRECOVERED (g := (mkF m 78 #[.val (.int p0), .val (.int p1), .val (.int i15), .val (.int (82 : Int32)), .val (.ref wRECOVERED), .unset] [])) rfl (hb hby at_78)
        obtain ⟨fs, hr, hrun, hended, hW, hsame⟩ := X30.leave (v := some (.int (1 : Int32))) (fun h => by rw [Bd.returns] at h; cases h)
        refine ⟨_, _, k29 _ ?_, hrun, hended, _, _, rfl, ?_, ⟨_, rfl⟩, hW, hsame.mono (by decide) (by decide)⟩
        · show Steps p.tables e below (s₁.setTop (mkF m 39 #[.val (.int p0), .val (.int p1), .val (.int i15), .val (.int (82 : Int32)), .unset, .unset] [(.int (82 : Int32))])) _
          refine st28 _ ?_
          show Steps p.tables e below (T28.setTop (mkF m 42 #[.val (.int p0), .val (.int p1), .val (.int i15), .val (.int (82 : Int32)), .unset, .unset] [(.ref wRECOVERED)])) _
          refine XS.astore X28.here hx rfl (hb hby at_42) rfl rfl (l' := #[.val (.int p0), .val (.int p1), .val (.int i15), .val (.int (82 : Int32)), .val (.ref wRECOVERED), .unset]) rfl ?_
          show Steps p.tables e below (T28.setTop (mkF m 44 #[.val (.int p0), .val (.int p1), .val (.int i15), .val (.int (82 : Int32)), .val (.ref wRECOVERED), .unset] [])) _
          refine XS.iloadN X28.here hx rfl (hb hby at_44) rfl ?_
          show Steps p.tables e below (T28.setTop (mkF m 45 #[.val (.int p0), .val (.int p1), .val (.int i15), .val (.int (82 : Int32)), .val (.ref wRECOVERED), .unset] [(.int (82 : Int32))])) _
          refine XS.bipush X28.here hx rfl (hb hby at_45) ?_
          show Steps p.tables e below (T28.setTop (mkF m 47 #[.val (.int p0), .val (.int p1), .val (.int i15), .val (.int (82 : Int32)), .val (.ref wRECOVERED), .unset] [(.int (83 : Int32)), (.int (82 : Int32))])) _
          refine XS.icmpYes X28.here hx rfl (pc0 := 47) (pc' := 58) rfl (hb hby at_47) rfl (feq ((by decide) : ¬ ((82 : Int32) = (83 : Int32)))).2 (by decide) (by decide) ?_
          show Steps p.tables e below (T28.setTop (mkF m 58 #[.val (.int p0), .val (.int p1), .val (.int i15), .val (.int (82 : Int32)), .val (.ref wRECOVERED), .unset] [])) _
          refine XS.iloadN X28.here hx rfl (hb hby at_58) rfl ?_
          show Steps p.tables e below (T28.setTop (mkF m 59 #[.val (.int p0), .val (.int p1), .val (.int i15), .val (.int (82 : Int32)), .val (.ref wRECOVERED), .unset] [(.int (82 : Int32))])) _
          refine XS.bipush X28.here hx rfl (hb hby at_59) ?_
          show Steps p.tables e below (T28.setTop (mkF m 61 #[.val (.int p0), .val (.int p1), .val (.int i15), .val (.int (82 : Int32)), .val (.ref wRECOVERED), .unset] [(.int (73 : Int32)), (.int (82 : Int32))])) _
          refine XS.icmpYes X28.here hx rfl (pc0 := 61) (pc' := 72) rfl (hb hby at_61) rfl (feq ((by decide) : ¬ ((82 : Int32) = (73 : Int32)))).2 (by decide) (by decide) ?_
          show Steps p.tables e below (T28.setTop (mkF m 72 #[.val (.int p0), .val (.int p1), .val (.int i15), .val (.int (82 : Int32)), .val (.ref wRECOVERED), .unset] [])) _
          refine XS.iloadN X28.here hx rfl (hb hby at_72) rfl ?_
          show Steps p.tables e below (T28.setTop (mkF m 73 #[.val (.int p0), .val (.int p1), .val (.int i15), .val (.int (82 : Int32)), .val (.ref wRECOVERED), .unset] [(.int (82 : Int32))])) _
          refine XS.bipush X28.here hx rfl (hb hby at_73) ?_
          show Steps p.tables e below (T28.setTop (mkF m 75 #[.val (.int p0), .val (.int p1), .val (.int i15), .val (.int (82 : Int32)), .val (.ref wRECOVERED), .unset] [(.int (82 : Int32)), (.int (82 : Int32))])) _
          refine XS.icmpNo X28.here hx rfl (hb hby at_75) rfl (teq (rfl : (82 : Int32) = (82 : Int32))).2 ?_
          show Steps p.tables e below (T28.setTop (mkF m 78 #[.val (.int p0), .val (.int p1), .val (.int i15), .val (.int (82 : Int32)), .val (.ref wRECOVERED), .unset] [])) _
          refine st30 _ ?_
          show Steps p.tables e below (T30.setTop (mkF m 81 #[.val (.int p0), .val (.int p1), .val (.int i15), .val (.int (82 : Int32)), .val (.ref wRECOVERED), .unset] [(.ref wRECOVERED)])) _
          refine XS.astore X30.here hx rfl (hb hby at_81) rfl rfl (l' := #[.val (.int p0), .val (.int p1), .val (.int i15), .val (.int (82 : Int32)), .val (.ref wRECOVERED), .val (.ref wRECOVERED)]) rfl ?_
          show Steps p.tables e below (T30.setTop (mkF m 83 #[.val (.int p0), .val (.int p1), .val (.int i15), .val (.int (82 : Int32)), .val (.ref wRECOVERED), .val (.ref wRECOVERED)] [])) _
          refine XS.goto X30.here hx rfl (pc0 := 83) (pc' := 89) rfl (hb hby at_83) (by decide) (by decide) ?_
          show Steps p.tables e below (T30.setTop (mkF m 89 #[.val (.int p0), .val (.int p1), .val (.int i15), .val (.int (82 : Int32)), .val (.ref wRECOVERED), .val (.ref wRECOVERED)] [])) _
          refine XS.aload X30.here hx rfl (hb hby at_89) rfl rfl ?_
          show Steps p.tables e below (T30.setTop (mkF m 91 #[.val (.int p0), .val (.int p1), .val (.int i15), .val (.int (82 : Int32)), .val (.ref wRECOVERED), .val (.ref wRECOVERED)] [(.ref wRECOVERED)])) _
          refine XS.aload X30.here hx rfl (hb hby at_91) rfl rfl ?_
          show Steps p.tables e below (T30.setTop (mkF m 93 #[.val (.int p0), .val (.int p1), .val (.int i15), .val (.int (82 : Int32)), .val (.ref wRECOVERED), .val (.ref wRECOVERED)] [(.ref wRECOVERED), (.ref wRECOVERED)])) _
          refine Jvm.RoadKit.acmp (g := (mkF m 93 #[.val (.int p0), .val (.int p1), .val (.int i15), .val (.int (82 : Int32)), .val (.ref wRECOVERED), .val (.ref wRECOVERED)] [(.ref wRECOVERED), (.ref wRECOVERED)])) X30 hx rfl rfl rfl (pc0 := 93) (pc' := 96) (same := true) rfl (hb hby at_93) rfl (decide_eq_true (congrArg Value.ref (rfl : wRECOVERED = wRECOVERED))) (by decide) (by decide) ?_
          show Steps p.tables e below (T30.setTop (mkF m 96 #[.val (.int p0), .val (.int p1), .val (.int i15), .val (.int (82 : Int32)), .val (.ref wRECOVERED), .val (.ref wRECOVERED)] [])) _
          refine XS.iconst X30.here hx rfl (hb hby at_96) ?_
          show Steps p.tables e below (T30.setTop (mkF m 97 #[.val (.int p0), .val (.int p1), .val (.int i15), .val (.int (82 : Int32)), .val (.ref wRECOVERED), .val (.ref wRECOVERED)] [(.int (1 : Int32))])) _
          refine XS.goto X30.here hx rfl (pc0 := 97) (pc' := 101) rfl (hb hby at_97) (by decide) (by decide) ?_
          show Steps p.tables e below (T30.setTop (mkF m 101 #[.val (.int p0), .val (.int p1), .val (.int i15), .val (.int (82 : Int32)), .val (.ref wRECOVERED), .val (.ref wRECOVERED)] [(.int (1 : Int32))])) _
          exact retN X30 hx (t := .boolean) Bd.returns (by simp) (hb hby at_101) hr
        · show Q0 Z p0 p1 wSTATES wSUSCEPTIBLE wINFECTED wRECOVERED kSTATES h0 n0 _ T30.heap _
          rw [e30]
          exact ⟨rfl, N28⟩
      · obtain ⟨_, _, ⟨T31, L31, k31, n31⟩, -, X31, ⟨Lc31, hQ31, l31, y31, z31⟩, st31⟩ := Jvm.LawKit.callS X0 hx (y := (⟨"com/example/rippletide/rippletide/model/State", "ofLetter", "(I)Lcom/example/rippletide/rippletide/model/State;"⟩ : MethodName)) hown (mvT hZ (hw _ (List.mem_of_getElem? (i := 0) rfl))) (mvT hZ (hw _ (List.mem_of_getElem? (i := 1) rfl))) (mvT hZ (hw _ (List.mem_of_getElem? (i := 2) rfl))) (mvT hZ (hw _ (List.mem_of_getElem? (i := 3) rfl))) (by decide) (backOf (W := 0) (rm1 l Z a0 hw [] p0 wSTATES wSUSCEPTIBLE wINFECTED wRECOVERED kSTATES h0 n0 Z0 W0 ) hZ (hw _ (List.mem_of_getElem? (i := 3) rfl)) (hw _ (List.mem_of_getElem? (i := 2) rfl)) (by decide) (by decide)) (g := (mkF m 39 #[.val (.int p0), .val (.int p1), .val (.int i15), .val (.int p0), .unset, .unset] [(.int p0)])) rfl (by rw [hml]; rfl) (argsL := [(.int p0)]) (rest := []) (lenOf pd_0 rfl) rfl (by show 2 * 0 + _ ≤ _; exact Nat.le_of_eq rfl) (hb hby at_39) (fun _ _ => ⟨rfl, e0, (by decide : 0 + 0 ≤ _), (by decide : 0 + 0 ≤ _)⟩)
        dsimp only [Pt.U, Pt.locs, Pt.cells, Pt.slots] at X31 l31 y31 z31 st31 hQ31
        subst l31 y31 z31
        unfold Q1 at hQ31
        have k32 : ∀ t, Steps p.tables e below (s₁.setTop (mkF m 39 #[.val (.int p0), .val (.int p1), .val (.int i15), .val (.int p0), .unset, .unset] [(.int p0)])) t → Steps p.tables e below (s₁.setTop (entryFrame m #[(.int p0), (.int p1)] maxLocals)) t := fun t kt => k26 t (by
          show Steps p.tables e below (s₁.setTop (mkF m 27 #[.val (.int p0), .val (.int p1), .val (.int i15), .unset, .unset, .unset] [(.int (2 : Int32)), (.int i15)])) _
          refine XS.icmpYes X0.here hx rfl (pc0 := 27) (pc' := 36) rfl (hb hby at_27) rfl (feq (hc27 : ¬ (i15 = (2 : Int32)))).2 (by decide) (by decide) ?_
          show Steps p.tables e below (s₁.setTop (mkF m 36 #[.val (.int p0), .val (.int p1), .val (.int i15), .unset, .unset, .unset] [])) _
          refine XS.iloadN X0.here hx rfl (hb hby at_36) rfl ?_
          show Steps p.tables e below (s₁.setTop (mkF m 37 #[.val (.int p0), .val (.int p1), .val (.int i15), .unset, .unset, .unset] [(.int p0)])) _
          refine XS.istoreN X0.here hx rfl (hb hby at_37) rfl (l' := #[.val (.int p0), .val (.int p1), .val (.int i15), .val (.int p0), .unset, .unset]) rfl ?_
          show Steps p.tables e below (s₁.setTop (mkF m 38 #[.val (.int p0), .val (.int p1), .val (.int i15), .val (.int p0), .unset, .unset] [])) _
          refine XS.iloadN X0.here hx rfl (hb hby at_38) rfl ?_
          exact kt)
        by_cases hc33 : (83 : Int32) = p0
        · rw [((by rw [f1, if_pos (hc33 : (83 : Int32) = p0)]) : (f1 p0 wSTATES wSUSCEPTIBLE wINFECTED wRECOVERED kSTATES) = (.ref wSUSCEPTIBLE))] at hQ31
          obtain ⟨rfl, N31q, e31⟩ := hQ31
          have N31 := Fr.app N0 N31q
          obtain ⟨T34, X34, e34, st34⟩ := getS2 X31 hx hZ hown (host := "") (Or.inl (hw _ (List.mem_of_getElem? (i := 12) rfl))) Via.refl e31 SSUSCEPTIBLE (g := (mkF m 50 #[.val (.int p0), .val (.int p1), .val (.int i15), .val (.int p0), .val (.ref wSUSCEPTIBLE), .unset] [])) rfl (hb hby at_50)
          obtain ⟨fs, hr, hrun, hended, hW, hsame⟩ := X34.leave (v := some (.int (1 : Int32))) (fun h => by rw [Bd.returns] at h; cases h)
          refine ⟨_, _, k32 _ ?_, hrun, hended, _, _, rfl, ?_, ⟨_, rfl⟩, hW, hsame.mono (by decide) (by decide)⟩
          · show Steps p.tables e below (s₁.setTop (mkF m 39 #[.val (.int p0), .val (.int p1), .val (.int i15), .val (.int p0), .unset, .unset] [(.int p0)])) _
            refine st31 _ ?_
            show Steps p.tables e below (T31.setTop (mkF m 42 #[.val (.int p0), .val (.int p1), .val (.int i15), .val (.int p0), .unset, .unset] [(.ref wSUSCEPTIBLE)])) _
            refine XS.astore X31.here hx rfl (hb hby at_42) rfl rfl (l' := #[.val (.int p0), .val (.int p1), .val (.int i15), .val (.int p0), .val (.ref wSUSCEPTIBLE), .unset]) rfl ?_
            show Steps p.tables e below (T31.setTop (mkF m 44 #[.val (.int p0), .val (.int p1), .val (.int i15), .val (.int p0), .val (.ref wSUSCEPTIBLE), .unset] [])) _
            refine XS.iloadN X31.here hx rfl (hb hby at_44) rfl ?_
            show Steps p.tables e below (T31.setTop (mkF m 45 #[.val (.int p0), .val (.int p1), .val (.int i15), .val (.int p0), .val (.ref wSUSCEPTIBLE), .unset] [(.int p0)])) _
            refine XS.bipush X31.here hx rfl (hb hby at_45) ?_
            show Steps p.tables e below (T31.setTop (mkF m 47 #[.val (.int p0), .val (.int p1), .val (.int i15), .val (.int p0), .val (.ref wSUSCEPTIBLE), .unset] [(.int (83 : Int32)), (.int p0)])) _
            refine XS.icmpNo X31.here hx rfl (hb hby at_47) rfl (teq ((Eq.symm hc33) : p0 = (83 : Int32))).2 ?_
            show Steps p.tables e below (T31.setTop (mkF m 50 #[.val (.int p0), .val (.int p1), .val (.int i15), .val (.int p0), .val (.ref wSUSCEPTIBLE), .unset] [])) _
            refine st34 _ ?_
            show Steps p.tables e below (T34.setTop (mkF m 53 #[.val (.int p0), .val (.int p1), .val (.int i15), .val (.int p0), .val (.ref wSUSCEPTIBLE), .unset] [(.ref wSUSCEPTIBLE)])) _
            refine XS.astore X34.here hx rfl (hb hby at_53) rfl rfl (l' := #[.val (.int p0), .val (.int p1), .val (.int i15), .val (.int p0), .val (.ref wSUSCEPTIBLE), .val (.ref wSUSCEPTIBLE)]) rfl ?_
            show Steps p.tables e below (T34.setTop (mkF m 55 #[.val (.int p0), .val (.int p1), .val (.int i15), .val (.int p0), .val (.ref wSUSCEPTIBLE), .val (.ref wSUSCEPTIBLE)] [])) _
            refine XS.goto X34.here hx rfl (pc0 := 55) (pc' := 89) rfl (hb hby at_55) (by decide) (by decide) ?_
            show Steps p.tables e below (T34.setTop (mkF m 89 #[.val (.int p0), .val (.int p1), .val (.int i15), .val (.int p0), .val (.ref wSUSCEPTIBLE), .val (.ref wSUSCEPTIBLE)] [])) _
            refine XS.aload X34.here hx rfl (hb hby at_89) rfl rfl ?_
            show Steps p.tables e below (T34.setTop (mkF m 91 #[.val (.int p0), .val (.int p1), .val (.int i15), .val (.int p0), .val (.ref wSUSCEPTIBLE), .val (.ref wSUSCEPTIBLE)] [(.ref wSUSCEPTIBLE)])) _
            refine XS.aload X34.here hx rfl (hb hby at_91) rfl rfl ?_
            show Steps p.tables e below (T34.setTop (mkF m 93 #[.val (.int p0), .val (.int p1), .val (.int i15), .val (.int p0), .val (.ref wSUSCEPTIBLE), .val (.ref wSUSCEPTIBLE)] [(.ref wSUSCEPTIBLE), (.ref wSUSCEPTIBLE)])) _
            refine Jvm.RoadKit.acmp (g := (mkF m 93 #[.val (.int p0), .val (.int p1), .val (.int i15), .val (.int p0), .val (.ref wSUSCEPTIBLE), .val (.ref wSUSCEPTIBLE)] [(.ref wSUSCEPTIBLE), (.ref wSUSCEPTIBLE)])) X34 hx rfl rfl rfl (pc0 := 93) (pc' := 96) (same := true) rfl (hb hby at_93) rfl (decide_eq_true (congrArg Value.ref (rfl : wSUSCEPTIBLE = wSUSCEPTIBLE))) (by decide) (by decide) ?_
            show Steps p.tables e below (T34.setTop (mkF m 96 #[.val (.int p0), .val (.int p1), .val (.int i15), .val (.int p0), .val (.ref wSUSCEPTIBLE), .val (.ref wSUSCEPTIBLE)] [])) _
            refine XS.iconst X34.here hx rfl (hb hby at_96) ?_
            show Steps p.tables e below (T34.setTop (mkF m 97 #[.val (.int p0), .val (.int p1), .val (.int i15), .val (.int p0), .val (.ref wSUSCEPTIBLE), .val (.ref wSUSCEPTIBLE)] [(.int (1 : Int32))])) _
            refine XS.goto X34.here hx rfl (pc0 := 97) (pc' := 101) rfl (hb hby at_97) (by decide) (by decide) ?_
            show Steps p.tables e below (T34.setTop (mkF m 101 #[.val (.int p0), .val (.int p1), .val (.int i15), .val (.int p0), .val (.ref wSUSCEPTIBLE), .val (.ref wSUSCEPTIBLE)] [(.int (1 : Int32))])) _
            exact retN X34 hx (t := .boolean) Bd.returns (by simp) (hb hby at_101) hr
          · show Q0 Z p0 p1 wSTATES wSUSCEPTIBLE wINFECTED wRECOVERED kSTATES h0 n0 _ T34.heap _
            rw [e34]
            exact ⟨rfl, N31⟩
        · by_cases hc35 : (73 : Int32) = p0
          · rw [((by rw [f1, if_neg (hc33 : ¬ ((83 : Int32) = p0)), if_pos (hc35 : (73 : Int32) = p0)]) : (f1 p0 wSTATES wSUSCEPTIBLE wINFECTED wRECOVERED kSTATES) = (.ref wINFECTED))] at hQ31
            obtain ⟨rfl, N31q, e31⟩ := hQ31
            have N31 := Fr.app N0 N31q
            obtain ⟨T36, X36, e36, st36⟩ := getS2 X31 hx hZ hown (host := "") (Or.inl (hw _ (List.mem_of_getElem? (i := 11) rfl))) Via.refl e31 SINFECTED (g := (mkF m 64 #[.val (.int p0), .val (.int p1), .val (.int i15), .val (.int p0), .val (.ref wINFECTED), .unset] [])) rfl (hb hby at_64)
            obtain ⟨fs, hr, hrun, hended, hW, hsame⟩ := X36.leave (v := some (.int (1 : Int32))) (fun h => by rw [Bd.returns] at h; cases h)
            refine ⟨_, _, k32 _ ?_, hrun, hended, _, _, rfl, ?_, ⟨_, rfl⟩, hW, hsame.mono (by decide) (by decide)⟩
            · show Steps p.tables e below (s₁.setTop (mkF m 39 #[.val (.int p0), .val (.int p1), .val (.int i15), .val (.int p0), .unset, .unset] [(.int p0)])) _
              refine st31 _ ?_
              show Steps p.tables e below (T31.setTop (mkF m 42 #[.val (.int p0), .val (.int p1), .val (.int i15), .val (.int p0), .unset, .unset] [(.ref wINFECTED)])) _
              refine XS.astore X31.here hx rfl (hb hby at_42) rfl rfl (l' := #[.val (.int p0), .val (.int p1), .val (.int i15), .val (.int p0), .val (.ref wINFECTED), .unset]) rfl ?_
              show Steps p.tables e below (T31.setTop (mkF m 44 #[.val (.int p0), .val (.int p1), .val (.int i15), .val (.int p0), .val (.ref wINFECTED), .unset] [])) _
              refine XS.iloadN X31.here hx rfl (hb hby at_44) rfl ?_
              show Steps p.tables e below (T31.setTop (mkF m 45 #[.val (.int p0), .val (.int p1), .val (.int i15), .val (.int p0), .val (.ref wINFECTED), .unset] [(.int p0)])) _
              refine XS.bipush X31.here hx rfl (hb hby at_45) ?_
              show Steps p.tables e below (T31.setTop (mkF m 47 #[.val (.int p0), .val (.int p1), .val (.int i15), .val (.int p0), .val (.ref wINFECTED), .unset] [(.int (83 : Int32)), (.int p0)])) _
              refine XS.icmpYes X31.here hx rfl (pc0 := 47) (pc' := 58) rfl (hb hby at_47) rfl (feq ((Ne.symm hc33) : ¬ (p0 = (83 : Int32)))).2 (by decide) (by decide) ?_
              show Steps p.tables e below (T31.setTop (mkF m 58 #[.val (.int p0), .val (.int p1), .val (.int i15), .val (.int p0), .val (.ref wINFECTED), .unset] [])) _
              refine XS.iloadN X31.here hx rfl (hb hby at_58) rfl ?_
              show Steps p.tables e below (T31.setTop (mkF m 59 #[.val (.int p0), .val (.int p1), .val (.int i15), .val (.int p0), .val (.ref wINFECTED), .unset] [(.int p0)])) _
              refine XS.bipush X31.here hx rfl (hb hby at_59) ?_
              show Steps p.tables e below (T31.setTop (mkF m 61 #[.val (.int p0), .val (.int p1), .val (.int i15), .val (.int p0), .val (.ref wINFECTED), .unset] [(.int (73 : Int32)), (.int p0)])) _
              refine XS.icmpNo X31.here hx rfl (hb hby at_61) rfl (teq ((Eq.symm hc35) : p0 = (73 : Int32))).2 ?_
              show Steps p.tables e below (T31.setTop (mkF m 64 #[.val (.int p0), .val (.int p1), .val (.int i15), .val (.int p0), .val (.ref wINFECTED), .unset] [])) _
              refine st36 _ ?_
              show Steps p.tables e below (T36.setTop (mkF m 67 #[.val (.int p0), .val (.int p1), .val (.int i15), .val (.int p0), .val (.ref wINFECTED), .unset] [(.ref wINFECTED)])) _
              refine XS.astore X36.here hx rfl (hb hby at_67) rfl rfl (l' := #[.val (.int p0), .val (.int p1), .val (.int i15), .val (.int p0), .val (.ref wINFECTED), .val (.ref wINFECTED)]) rfl ?_
              show Steps p.tables e below (T36.setTop (mkF m 69 #[.val (.int p0), .val (.int p1), .val (.int i15), .val (.int p0), .val (.ref wINFECTED), .val (.ref wINFECTED)] [])) _
              refine XS.goto X36.here hx rfl (pc0 := 69) (pc' := 89) rfl (hb hby at_69) (by decide) (by decide) ?_
              show Steps p.tables e below (T36.setTop (mkF m 89 #[.val (.int p0), .val (.int p1), .val (.int i15), .val (.int p0), .val (.ref wINFECTED), .val (.ref wINFECTED)] [])) _
              refine XS.aload X36.here hx rfl (hb hby at_89) rfl rfl ?_
              show Steps p.tables e below (T36.setTop (mkF m 91 #[.val (.int p0), .val (.int p1), .val (.int i15), .val (.int p0), .val (.ref wINFECTED), .val (.ref wINFECTED)] [(.ref wINFECTED)])) _
              refine XS.aload X36.here hx rfl (hb hby at_91) rfl rfl ?_
              show Steps p.tables e below (T36.setTop (mkF m 93 #[.val (.int p0), .val (.int p1), .val (.int i15), .val (.int p0), .val (.ref wINFECTED), .val (.ref wINFECTED)] [(.ref wINFECTED), (.ref wINFECTED)])) _
              refine Jvm.RoadKit.acmp (g := (mkF m 93 #[.val (.int p0), .val (.int p1), .val (.int i15), .val (.int p0), .val (.ref wINFECTED), .val (.ref wINFECTED)] [(.ref wINFECTED), (.ref wINFECTED)])) X36 hx rfl rfl rfl (pc0 := 93) (pc' := 96) (same := true) rfl (hb hby at_93) rfl (decide_eq_true (congrArg Value.ref (rfl : wINFECTED = wINFECTED))) (by decide) (by decide) ?_
              show Steps p.tables e below (T36.setTop (mkF m 96 #[.val (.int p0), .val (.int p1), .val (.int i15), .val (.int p0), .val (.ref wINFECTED), .val (.ref wINFECTED)] [])) _
              refine XS.iconst X36.here hx rfl (hb hby at_96) ?_
              show Steps p.tables e below (T36.setTop (mkF m 97 #[.val (.int p0), .val (.int p1), .val (.int i15), .val (.int p0), .val (.ref wINFECTED), .val (.ref wINFECTED)] [(.int (1 : Int32))])) _
              refine XS.goto X36.here hx rfl (pc0 := 97) (pc' := 101) rfl (hb hby at_97) (by decide) (by decide) ?_
              show Steps p.tables e below (T36.setTop (mkF m 101 #[.val (.int p0), .val (.int p1), .val (.int i15), .val (.int p0), .val (.ref wINFECTED), .val (.ref wINFECTED)] [(.int (1 : Int32))])) _
              exact retN X36 hx (t := .boolean) Bd.returns (by simp) (hb hby at_101) hr
            · show Q0 Z p0 p1 wSTATES wSUSCEPTIBLE wINFECTED wRECOVERED kSTATES h0 n0 _ T36.heap _
              rw [e36]
              exact ⟨rfl, N31⟩
          · by_cases hc37 : (82 : Int32) = p0
            · rw [((by rw [f1, if_neg (hc33 : ¬ ((83 : Int32) = p0)), if_neg (hc35 : ¬ ((73 : Int32) = p0)), if_pos (hc37 : (82 : Int32) = p0)]) : (f1 p0 wSTATES wSUSCEPTIBLE wINFECTED wRECOVERED kSTATES) = (.ref wRECOVERED))] at hQ31
              obtain ⟨rfl, N31q, e31⟩ := hQ31
              have N31 := Fr.app N0 N31q
              obtain ⟨T38, X38, e38, st38⟩ := getS2 X31 hx hZ hown (host := "") (Or.inl (hw _ (List.mem_of_getElem? (i := 13) rfl))) Via.refl e31 SRECOVERED (g := (mkF m 78 #[.val (.int p0), .val (.int p1), .val (.int i15), .val (.int p0), .val (.ref wRECOVERED), .unset] [])) rfl (hb hby at_78)
              obtain ⟨fs, hr, hrun, hended, hW, hsame⟩ := X38.leave (v := some (.int (1 : Int32))) (fun h => by rw [Bd.returns] at h; cases h)
              refine ⟨_, _, k32 _ ?_, hrun, hended, _, _, rfl, ?_, ⟨_, rfl⟩, hW, hsame.mono (by decide) (by decide)⟩
              · show Steps p.tables e below (s₁.setTop (mkF m 39 #[.val (.int p0), .val (.int p1), .val (.int i15), .val (.int p0), .unset, .unset] [(.int p0)])) _
                refine st31 _ ?_
                show Steps p.tables e below (T31.setTop (mkF m 42 #[.val (.int p0), .val (.int p1), .val (.int i15), .val (.int p0), .unset, .unset] [(.ref wRECOVERED)])) _
                refine XS.astore X31.here hx rfl (hb hby at_42) rfl rfl (l' := #[.val (.int p0), .val (.int p1), .val (.int i15), .val (.int p0), .val (.ref wRECOVERED), .unset]) rfl ?_
                show Steps p.tables e below (T31.setTop (mkF m 44 #[.val (.int p0), .val (.int p1), .val (.int i15), .val (.int p0), .val (.ref wRECOVERED), .unset] [])) _
                refine XS.iloadN X31.here hx rfl (hb hby at_44) rfl ?_
                show Steps p.tables e below (T31.setTop (mkF m 45 #[.val (.int p0), .val (.int p1), .val (.int i15), .val (.int p0), .val (.ref wRECOVERED), .unset] [(.int p0)])) _
                refine XS.bipush X31.here hx rfl (hb hby at_45) ?_
                show Steps p.tables e below (T31.setTop (mkF m 47 #[.val (.int p0), .val (.int p1), .val (.int i15), .val (.int p0), .val (.ref wRECOVERED), .unset] [(.int (83 : Int32)), (.int p0)])) _
                refine XS.icmpYes X31.here hx rfl (pc0 := 47) (pc' := 58) rfl (hb hby at_47) rfl (feq ((Ne.symm hc33) : ¬ (p0 = (83 : Int32)))).2 (by decide) (by decide) ?_
                show Steps p.tables e below (T31.setTop (mkF m 58 #[.val (.int p0), .val (.int p1), .val (.int i15), .val (.int p0), .val (.ref wRECOVERED), .unset] [])) _
                refine XS.iloadN X31.here hx rfl (hb hby at_58) rfl ?_
                show Steps p.tables e below (T31.setTop (mkF m 59 #[.val (.int p0), .val (.int p1), .val (.int i15), .val (.int p0), .val (.ref wRECOVERED), .unset] [(.int p0)])) _
                refine XS.bipush X31.here hx rfl (hb hby at_59) ?_
                show Steps p.tables e below (T31.setTop (mkF m 61 #[.val (.int p0), .val (.int p1), .val (.int i15), .val (.int p0), .val (.ref wRECOVERED), .unset] [(.int (73 : Int32)), (.int p0)])) _
                refine XS.icmpYes X31.here hx rfl (pc0 := 61) (pc' := 72) rfl (hb hby at_61) rfl (feq ((Ne.symm hc35) : ¬ (p0 = (73 : Int32)))).2 (by decide) (by decide) ?_
                show Steps p.tables e below (T31.setTop (mkF m 72 #[.val (.int p0), .val (.int p1), .val (.int i15), .val (.int p0), .val (.ref wRECOVERED), .unset] [])) _
                refine XS.iloadN X31.here hx rfl (hb hby at_72) rfl ?_
                show Steps p.tables e below (T31.setTop (mkF m 73 #[.val (.int p0), .val (.int p1), .val (.int i15), .val (.int p0), .val (.ref wRECOVERED), .unset] [(.int p0)])) _
                refine XS.bipush X31.here hx rfl (hb hby at_73) ?_
                show Steps p.tables e below (T31.setTop (mkF m 75 #[.val (.int p0), .val (.int p1), .val (.int i15), .val (.int p0), .val (.ref wRECOVERED), .unset] [(.int (82 : Int32)), (.int p0)])) _
                refine XS.icmpNo X31.here hx rfl (hb hby at_75) rfl (teq ((Eq.symm hc37) : p0 = (82 : Int32))).2 ?_
                show Steps p.tables e below (T31.setTop (mkF m 78 #[.val (.int p0), .val (.int p1), .val (.int i15), .val (.int p0), .val (.ref wRECOVERED), .unset] [])) _
                refine st38 _ ?_
                show Steps p.tables e below (T38.setTop (mkF m 81 #[.val (.int p0), .val (.int p1), .val (.int i15), .val (.int p0), .val (.ref wRECOVERED), .unset] [(.ref wRECOVERED)])) _
                refine XS.astore X38.here hx rfl (hb hby at_81) rfl rfl (l' := #[.val (.int p0), .val (.int p1), .val (.int i15), .val (.int p0), .val (.ref wRECOVERED), .val (.ref wRECOVERED)]) rfl ?_
                show Steps p.tables e below (T38.setTop (mkF m 83 #[.val (.int p0), .val (.int p1), .val (.int i15), .val (.int p0), .val (.ref wRECOVERED), .val (.ref wRECOVERED)] [])) _
                refine XS.goto X38.here hx rfl (pc0 := 83) (pc' := 89) rfl (hb hby at_83) (by decide) (by decide) ?_
                show Steps p.tables e below (T38.setTop (mkF m 89 #[.val (.int p0), .val (.int p1), .val (.int i15), .val (.int p0), .val (.ref wRECOVERED), .val (.ref wRECOVERED)] [])) _
                refine XS.aload X38.here hx rfl (hb hby at_89) rfl rfl ?_
                show Steps p.tables e below (T38.setTop (mkF m 91 #[.val (.int p0), .val (.int p1), .val (.int i15), .val (.int p0), .val (.ref wRECOVERED), .val (.ref wRECOVERED)] [(.ref wRECOVERED)])) _
                refine XS.aload X38.here hx rfl (hb hby at_91) rfl rfl ?_
                show Steps p.tables e below (T38.setTop (mkF m 93 #[.val (.int p0), .val (.int p1), .val (.int i15), .val (.int p0), .val (.ref wRECOVERED), .val (.ref wRECOVERED)] [(.ref wRECOVERED), (.ref wRECOVERED)])) _
                refine Jvm.RoadKit.acmp (g := (mkF m 93 #[.val (.int p0), .val (.int p1), .val (.int i15), .val (.int p0), .val (.ref wRECOVERED), .val (.ref wRECOVERED)] [(.ref wRECOVERED), (.ref wRECOVERED)])) X38 hx rfl rfl rfl (pc0 := 93) (pc' := 96) (same := true) rfl (hb hby at_93) rfl (decide_eq_true (congrArg Value.ref (rfl : wRECOVERED = wRECOVERED))) (by decide) (by decide) ?_
                show Steps p.tables e below (T38.setTop (mkF m 96 #[.val (.int p0), .val (.int p1), .val (.int i15), .val (.int p0), .val (.ref wRECOVERED), .val (.ref wRECOVERED)] [])) _
                refine XS.iconst X38.here hx rfl (hb hby at_96) ?_
                show Steps p.tables e below (T38.setTop (mkF m 97 #[.val (.int p0), .val (.int p1), .val (.int i15), .val (.int p0), .val (.ref wRECOVERED), .val (.ref wRECOVERED)] [(.int (1 : Int32))])) _
                refine XS.goto X38.here hx rfl (pc0 := 97) (pc' := 101) rfl (hb hby at_97) (by decide) (by decide) ?_
                show Steps p.tables e below (T38.setTop (mkF m 101 #[.val (.int p0), .val (.int p1), .val (.int i15), .val (.int p0), .val (.ref wRECOVERED), .val (.ref wRECOVERED)] [(.int (1 : Int32))])) _
                exact retN X38 hx (t := .boolean) Bd.returns (by simp) (hb hby at_101) hr
              · show Q0 Z p0 p1 wSTATES wSUSCEPTIBLE wINFECTED wRECOVERED kSTATES h0 n0 _ T38.heap _
                rw [e38]
                exact ⟨rfl, N31⟩
            · rw [((by rw [f1, if_neg (hc33 : ¬ ((83 : Int32) = p0)), if_neg (hc35 : ¬ ((73 : Int32) = p0)), if_neg (hc37 : ¬ ((82 : Int32) = p0))]) : (f1 p0 wSTATES wSUSCEPTIBLE wINFECTED wRECOVERED kSTATES) = .null)] at hQ31
              obtain ⟨rfl, N31q, e31⟩ := hQ31
              have N31 := Fr.app N0 N31q
              obtain ⟨fs, hr, hrun, hended, hW, hsame⟩ := X31.leave (v := some (.int (1 : Int32))) (fun h => by rw [Bd.returns] at h; cases h)
              refine ⟨_, _, k32 _ ?_, hrun, hended, _, _, rfl, ?_, ⟨_, rfl⟩, hW, hsame.mono (by decide) (by decide)⟩
              · show Steps p.tables e below (s₁.setTop (mkF m 39 #[.val (.int p0), .val (.int p1), .val (.int i15), .val (.int p0), .unset, .unset] [(.int p0)])) _
                refine st31 _ ?_
                show Steps p.tables e below (T31.setTop (mkF m 42 #[.val (.int p0), .val (.int p1), .val (.int i15), .val (.int p0), .unset, .unset] [.null])) _
                refine XS.astore X31.here hx rfl (hb hby at_42) rfl rfl (l' := #[.val (.int p0), .val (.int p1), .val (.int i15), .val (.int p0), .val .null, .unset]) rfl ?_
                show Steps p.tables e below (T31.setTop (mkF m 44 #[.val (.int p0), .val (.int p1), .val (.int i15), .val (.int p0), .val .null, .unset] [])) _
                refine XS.iloadN X31.here hx rfl (hb hby at_44) rfl ?_
                show Steps p.tables e below (T31.setTop (mkF m 45 #[.val (.int p0), .val (.int p1), .val (.int i15), .val (.int p0), .val .null, .unset] [(.int p0)])) _
                refine XS.bipush X31.here hx rfl (hb hby at_45) ?_
                show Steps p.tables e below (T31.setTop (mkF m 47 #[.val (.int p0), .val (.int p1), .val (.int i15), .val (.int p0), .val .null, .unset] [(.int (83 : Int32)), (.int p0)])) _
                refine XS.icmpYes X31.here hx rfl (pc0 := 47) (pc' := 58) rfl (hb hby at_47) rfl (feq ((Ne.symm hc33) : ¬ (p0 = (83 : Int32)))).2 (by decide) (by decide) ?_
                show Steps p.tables e below (T31.setTop (mkF m 58 #[.val (.int p0), .val (.int p1), .val (.int i15), .val (.int p0), .val .null, .unset] [])) _
                refine XS.iloadN X31.here hx rfl (hb hby at_58) rfl ?_
                show Steps p.tables e below (T31.setTop (mkF m 59 #[.val (.int p0), .val (.int p1), .val (.int i15), .val (.int p0), .val .null, .unset] [(.int p0)])) _
                refine XS.bipush X31.here hx rfl (hb hby at_59) ?_
                show Steps p.tables e below (T31.setTop (mkF m 61 #[.val (.int p0), .val (.int p1), .val (.int i15), .val (.int p0), .val .null, .unset] [(.int (73 : Int32)), (.int p0)])) _
                refine XS.icmpYes X31.here hx rfl (pc0 := 61) (pc' := 72) rfl (hb hby at_61) rfl (feq ((Ne.symm hc35) : ¬ (p0 = (73 : Int32)))).2 (by decide) (by decide) ?_
                show Steps p.tables e below (T31.setTop (mkF m 72 #[.val (.int p0), .val (.int p1), .val (.int i15), .val (.int p0), .val .null, .unset] [])) _
                refine XS.iloadN X31.here hx rfl (hb hby at_72) rfl ?_
                show Steps p.tables e below (T31.setTop (mkF m 73 #[.val (.int p0), .val (.int p1), .val (.int i15), .val (.int p0), .val .null, .unset] [(.int p0)])) _
                refine XS.bipush X31.here hx rfl (hb hby at_73) ?_
                show Steps p.tables e below (T31.setTop (mkF m 75 #[.val (.int p0), .val (.int p1), .val (.int i15), .val (.int p0), .val .null, .unset] [(.int (82 : Int32)), (.int p0)])) _
                refine XS.icmpYes X31.here hx rfl (pc0 := 75) (pc' := 86) rfl (hb hby at_75) rfl (feq ((Ne.symm hc37) : ¬ (p0 = (82 : Int32)))).2 (by decide) (by decide) ?_
                show Steps p.tables e below (T31.setTop (mkF m 86 #[.val (.int p0), .val (.int p1), .val (.int i15), .val (.int p0), .val .null, .unset] [])) _
                refine XS.aconstNull X31.here hx rfl (hb hby at_86) ?_
                show Steps p.tables e below (T31.setTop (mkF m 87 #[.val (.int p0), .val (.int p1), .val (.int i15), .val (.int p0), .val .null, .unset] [.null])) _
                refine XS.astore X31.here hx rfl (hb hby at_87) rfl rfl (l' := #[.val (.int p0), .val (.int p1), .val (.int i15), .val (.int p0), .val .null, .val .null]) rfl ?_
                show Steps p.tables e below (T31.setTop (mkF m 89 #[.val (.int p0), .val (.int p1), .val (.int i15), .val (.int p0), .val .null, .val .null] [])) _
                refine XS.aload X31.here hx rfl (hb hby at_89) rfl rfl ?_
                show Steps p.tables e below (T31.setTop (mkF m 91 #[.val (.int p0), .val (.int p1), .val (.int i15), .val (.int p0), .val .null, .val .null] [.null])) _
                refine XS.aload X31.here hx rfl (hb hby at_91) rfl rfl ?_
                show Steps p.tables e below (T31.setTop (mkF m 93 #[.val (.int p0), .val (.int p1), .val (.int i15), .val (.int p0), .val .null, .val .null] [.null, .null])) _
                refine Jvm.RoadKit.acmp (g := (mkF m 93 #[.val (.int p0), .val (.int p1), .val (.int i15), .val (.int p0), .val .null, .val .null] [.null, .null])) X31 hx rfl rfl rfl (pc0 := 93) (pc' := 96) (same := true) rfl (hb hby at_93) rfl (decide_eq_true rfl) (by decide) (by decide) ?_
                show Steps p.tables e below (T31.setTop (mkF m 96 #[.val (.int p0), .val (.int p1), .val (.int i15), .val (.int p0), .val .null, .val .null] [])) _
                refine XS.iconst X31.here hx rfl (hb hby at_96) ?_
                show Steps p.tables e below (T31.setTop (mkF m 97 #[.val (.int p0), .val (.int p1), .val (.int i15), .val (.int p0), .val .null, .val .null] [(.int (1 : Int32))])) _
                refine XS.goto X31.here hx rfl (pc0 := 97) (pc' := 101) rfl (hb hby at_97) (by decide) (by decide) ?_
                show Steps p.tables e below (T31.setTop (mkF m 101 #[.val (.int p0), .val (.int p1), .val (.int i15), .val (.int p0), .val .null, .val .null] [(.int (1 : Int32))])) _
                exact retN X31 hx (t := .boolean) Bd.returns (by simp) (hb hby at_101) hr
              · show Q0 Z p0 p1 wSTATES wSUSCEPTIBLE wINFECTED wRECOVERED kSTATES h0 n0 _ T31.heap _
                rw [e31]
                exact ⟨rfl, N31⟩
set_option maxRecDepth 65536 in
set_option maxHeartbeats 40000000 in
theorem comes_1 {Post : Tables → Env → Array Value → State → Outcome → State → Prop} (hpost : ∀ tb e args s v u, (limb_1_1.after args s (.returned v) u = true ∧ limb_1_2.after args s (.returned v) u = true ∧ True) → FrameEnd s (.returned v) u (Jvm.fieldLocs frame_1_writes args s ++ Jvm.arrayLocs frame_1_arrays args s ++ Jvm.staticLocs frame_1_statics s) 0 0 → Post tb e args s (.returned v) u) :
    ArmFor flags0 classFile x code maxLocals ret World_1 tables_1 room_1 Calls_1 rest_1 Pre_1 Post := by
  intro l hfl _ _ p e ha hc hk s m args below hf hA hF happ hP
  obtain ⟨hcalls, hrest, hpre⟩ := hP
  obtain ⟨-, -, -, hnamed, -, -, -, hat⟩ := (Spec.applies_iff hf).mp happ
  obtain ⟨hg, hn⟩ := and_e (Cond.before_iff.mp (show (Jvm.Cond.and given_1 narrow_1).before args s = true from hpre))
  obtain ⟨gc, gr0⟩ := and_e hg
  obtain ⟨ga0, ga1⟩ := and_e gr0
  obtain ⟨w0, w1, rfl⟩ : ∃ w0 w1 : Value, args = #[w0, w1] := by
    have hs : args.size = 2 := by simpa [Cond.value, given_1] using gc
    obtain ⟨L⟩ := args
    match L, hs with
    | [w0, w1], _ => exact ⟨w0, w1, rfl⟩
  have hw := fun d (hd : d ∈ tables_1) => atoms_spec (ws := Jvm.Cond.code x code maxLocals ret :: tables_1) hat d (List.mem_cons_of_mem _ hd)
  have hfit : Fit s := fun {y c} hc i hi => by
    obtain ⟨ha, rfl⟩ := Array.getElem?_eq_some_iff.mp hc
    have q := List.all_eq_true.mp ((Array.all_eq_true_iff_forall_mem.mp hF) _ (Array.getElem_mem ha)) i (List.mem_range.mpr hi)
    simpa [Array.getElem?_eq_getElem hi] using q
  obtain ⟨i0, ei0⟩ := is_v ga0
  obtain rfl : w0 = (.int i0) := Option.some.inj ei0
  obtain ⟨i1, ei1⟩ := is_v ga1
  obtain rfl : w1 = (.int i1) := Option.some.inj ei1
  obtain ⟨nr0, hn0⟩ := and_e hn
  obtain ⟨nr1, hn1⟩ := and_e hn0
  obtain ⟨nr2, hn2⟩ := and_e hn1
  obtain ⟨nr3, hn3⟩ := and_e hn2
  obtain ⟨nr4, hn4⟩ := and_e hn3
  obtain ⟨nr5, hn5⟩ := and_e hn4
  obtain ⟨nr6, hn6⟩ := and_e hn5
  obtain ⟨nr7, hn7⟩ := and_e hn6
  obtain ⟨nr8, hn8⟩ := and_e hn7
  obtain ⟨nr9, nr10⟩ := and_e hn8
  obtain ⟨wSTATES, evwSTATES⟩ := arr_v nr0
  have SSTATES : Sta s s.heap "com/example/rippletide/rippletide/model/State" "STATES" "[Lcom/example/rippletide/rippletide/model/State;" (.ref wSTATES) := Sta.start evwSTATES (Or.inr ⟨(hw _ (List.mem_of_getElem? (i := 2) rfl)), (hw _ (List.mem_of_getElem? (i := 5) rfl))⟩)
  obtain ⟨wSUSCEPTIBLE, evwSUSCEPTIBLE⟩ := exa_v nr2
  have SSUSCEPTIBLE : Sta s s.heap "com/example/rippletide/rippletide/model/State" "SUSCEPTIBLE" "Lcom/example/rippletide/rippletide/model/State;" (.ref wSUSCEPTIBLE) := Sta.start evwSUSCEPTIBLE (Or.inr ⟨(hw _ (List.mem_of_getElem? (i := 2) rfl)), (hw _ (List.mem_of_getElem? (i := 6) rfl))⟩)
  obtain ⟨wINFECTED, evwINFECTED⟩ := exa_v nr5
  have SINFECTED : Sta s s.heap "com/example/rippletide/rippletide/model/State" "INFECTED" "Lcom/example/rippletide/rippletide/model/State;" (.ref wINFECTED) := Sta.start evwINFECTED (Or.inr ⟨(hw _ (List.mem_of_getElem? (i := 2) rfl)), (hw _ (List.mem_of_getElem? (i := 9) rfl))⟩)
  obtain ⟨wRECOVERED, evwRECOVERED⟩ := exa_v nr8
  have SRECOVERED : Sta s s.heap "com/example/rippletide/rippletide/model/State" "RECOVERED" "Lcom/example/rippletide/rippletide/model/State;" (.ref wRECOVERED) := Sta.start evwRECOVERED (Or.inr ⟨(hw _ (List.mem_of_getElem? (i := 2) rfl)), (hw _ (List.mem_of_getElem? (i := 10) rfl))⟩)
  have ESUSCEPTIBLE : Exa s s.heap wSUSCEPTIBLE "com/example/rippletide/rippletide/model/State" := Exa.start evwSUSCEPTIBLE nr2
  have FSUSCEPTIBLE_letter : Fld s s.heap wSUSCEPTIBLE "com/example/rippletide/rippletide/model/State" "letter" "C" (.int (83 : Int32)) := own_fldI evwSUSCEPTIBLE nr4
  have EINFECTED : Exa s s.heap wINFECTED "com/example/rippletide/rippletide/model/State" := Exa.start evwINFECTED nr5
  have FINFECTED_letter : Fld s s.heap wINFECTED "com/example/rippletide/rippletide/model/State" "letter" "C" (.int (73 : Int32)) := own_fldI evwINFECTED nr7
  have ERECOVERED : Exa s s.heap wRECOVERED "com/example/rippletide/rippletide/model/State" := Exa.start evwRECOVERED nr8
  have FRECOVERED_letter : Fld s s.heap wRECOVERED "com/example/rippletide/rippletide/model/State" "letter" "C" (.int (82 : Int32)) := own_fldI evwRECOVERED nr10
  obtain ⟨clwSTATES, ArwSTATES⟩ := Arr.start evwSTATES nr0
  have elwSTATES_0 : clwSTATES.slots[0]? = some (.ref wSUSCEPTIBLE) := own_elR evwSTATES evwSUSCEPTIBLE ArwSTATES.1 nr3 rfl
  have elwSTATES_1 : clwSTATES.slots[1]? = some (.ref wINFECTED) := own_elR evwSTATES evwINFECTED ArwSTATES.1 nr6 rfl
  have elwSTATES_2 : clwSTATES.slots[2]? = some (.ref wRECOVERED) := own_elR evwSTATES evwRECOVERED ArwSTATES.1 nr9 rfl
  obtain ⟨qlwSTATES, zlwSTATES⟩ := own_len evwSTATES ArwSTATES nr1
  have ASTATES : Arv s s.heap wSTATES clwSTATES.cls (.object "com/example/rippletide/rippletide/model/State") (3 : Int32) [(.ref wSUSCEPTIBLE), (.ref wINFECTED), (.ref wRECOVERED)] .null := Arv.start hfit ArwSTATES qlwSTATES zlwSTATES (by decide) rfl ⟨elwSTATES_0, elwSTATES_1, elwSTATES_2, trivial⟩
  obtain ⟨n, o, h1, h2, h3, _, L, rfl, ⟨rfl, N⟩, hq⟩ := rm0 l s _ hw tables_1 i0 i1 wSTATES wSUSCEPTIBLE wINFECTED wRECOVERED clwSTATES.cls s.heap s.heap.size (Nat.le_refl _) ⟨SSTATES, SSUSCEPTIBLE, ESUSCEPTIBLE, FSUSCEPTIBLE_letter, SINFECTED, EINFECTED, FINFECTED_letter, SRECOVERED, ERECOVERED, FRECOVERED_letter, ASTATES, trivial⟩  p e ha hc hk s m _ below hf ((Spec.applies_iff_loose hf).mp happ).1 ⟨rfl, State.Warmed39.refl s, rfl⟩ trivial
  refine ⟨n, _, h1, h2, h3, hpost _ _ _ _ _ _ ⟨Cond.after_iff.mpr rfl, Cond.after_iff.mpr (eq_i res_at (Term.int_eval (1)) rfl), trivial⟩ ⟨hq.1, hq.2.1, (hq.2.2.sift fun y hy => Or.inr (N y hy)).mono (by decide) (by decide)⟩⟩
theorem main_1_1 : Claimed_1_1 := comes_1 fun _ _ _ _ _ _ h hF => ⟨h.1, hF⟩
theorem main_1_2 : Claimed_1_2 := comes_1 fun _ _ _ _ _ _ h hF => ⟨h.2.1, hF⟩
end Jvm.Pilot.@@N@@
namespace Jvm.Pilot.@@N@@
open Jvm Jvm.ClassFile Sem Op Lib Jvm.Free Jvm.Stand Jvm.Pilot.@@N@@.Jvm.D
/-! MADE BY PROGRAM (witnessworld.py) out of the Statement's table words and the real class files: 13 classes; the members and pool entries that the words name. The judged class is class 1, her method 1. -/
namespace start1
open Jvm.ClassFile
def u (s : String) : CpInfo := .utf8 (stringToUtf16 s)
/-- a pool by its gaps: so many unusable entries, then the entry; so many at the end -/
def gap : Nat → List CpInfo → List CpInfo
  | 0, r => r
  | n + 1, r => .unusable :: gap n r
def poolList (es : List (Nat × CpInfo)) (last : Nat) : List CpInfo := es.foldr (fun e r => gap e.1 (e.2 :: r)) (gap last [])
def pool (es : List (Nat × CpInfo)) (last : Nat) : Array CpInfo := ⟨poolList es last⟩
def fileOf (pool : Array CpInfo) (this : Nat) (attrs : Array Attribute := #[]) (ms : Array MethodInfo := #[]) (fl : Nat := 33) (sup : Nat := 0) (ifs : Array Nat := #[]) (fds : Array FieldInfo := #[]) : ClassFile where
  minorVersion := 0
  majorVersion := 65
  constantPool := pool
  accessFlags := fl
  thisClass := this
  superClass := sup
  interfaces := ifs
  fields := fds
  methods := ms
  attributes := attrs
def plain (name : String) (sup : Option ClassId) : Class where
  name := name
  kind := .ordinary
  loader := none
  accessFlags := 33
  super := sup
  interfaces := #[]
  cf := none
  fields := #[]
  methods := #[]
  instanceTypes := #[]
  staticTypes := #[]
  resolved := #[]
  callSites := []
  init := .initialized
  statics := none
  mirror := none

def pool0 : Array CpInfo := pool [(5, u "<init>"), (0, u "()V"), (1, .class_ 10), (1, u "java/lang/Object")] 113

def k0m0 : Method := { name := "<init>", desc := "()V", sig := { parameters := [], returnType := none }, accessFlags := 1, code := none }
/-- java/lang/Object -/
def k0 : Class := { plain "java/lang/Object" none with
  accessFlags := 33
  interfaces := #[]
  cf := some (fileOf pool0 8 #[] #[{ accessFlags := 1, nameIndex := 5, descriptorIndex := 6, attributes := #[] }] 33 0 #[] #[])
  fields := #[]
  methods := #[k0m0]
  instanceTypes := #[]
  staticTypes := #[]
  resolved := Array.replicate 124 none
  statics := none }

def pool1 : Array CpInfo := pool [(2, .class_ 4), (1, u "java/lang/Object"), (0, u "<init>"), (0, u "()V"), (0, .methodref 8 9), (0, .class_ 10), (0, .nameAndType 11 12), (0, u "com/example/rippletide/rippletide/model/State"), (0, u "ofLetter"), (0, u "(I)Lcom/example/rippletide/rippletide/model/State;"), (0, .fieldref 8 14), (0, .nameAndType 15 16), (0, u "SUSCEPTIBLE"), (0, u "Lcom/example/rippletide/rippletide/model/State;"), (0, .fieldref 8 18), (0, .nameAndType 19 16), (0, u "INFECTED"), (0, .fieldref 8 21), (0, .nameAndType 22 16), (0, u "RECOVERED"), (0, .class_ 24), (0, u "com/example/rippletide/rippletide/model/StateOfLetterPinLaw"), (2, u "law"), (0, u "(II)Z")] 3

def k1m0 : Method := { name := "<init>", desc := "()V", sig := { parameters := [], returnType := none }, accessFlags := 1, code := none }
def k1c1 : Code := { maxStack := 2, maxLocals := 6, code := code, exceptionTable := #[], attributes := #[] }
def k1m1 : Method := { name := "law", desc := "(II)Z", sig := { parameters := [.int, .int], returnType := some .boolean }, accessFlags := 9, code := some k1c1 }
/-- com/example/rippletide/rippletide/model/StateOfLetterPinLaw -/
def k1 : Class := { plain "com/example/rippletide/rippletide/model/StateOfLetterPinLaw" (some 0) with
  accessFlags := 49
  interfaces := #[]
  cf := some (fileOf pool1 23 #[] #[{ accessFlags := 1, nameIndex := 5, descriptorIndex := 6, attributes := #[] }, { accessFlags := 9, nameIndex := 27, descriptorIndex := 28, attributes := #[] }] 49 2 #[] #[])
  fields := #[]
  methods := #[k1m0, k1m1]
  instanceTypes := #[]
  staticTypes := #[]
  resolved := Array.replicate 32 none
  statics := none }

def pool2 : Array CpInfo := pool [(1, .class_ 2), (0, u "java/lang/constant/Constable"), (0, .class_ 4), (0, u "java/lang/Object")] 6

/-- java/lang/constant/Constable -/
def k2 : Class := { plain "java/lang/constant/Constable" (some 0) with
  accessFlags := 1537
  interfaces := #[]
  cf := some (fileOf pool2 1 #[] #[] 1537 3 #[] #[])
  fields := #[]
  methods := #[]
  instanceTypes := #[]
  staticTypes := #[]
  resolved := Array.replicate 11 none
  statics := none }

def pool3 : Array CpInfo := pool [(1, .class_ 2), (0, u "java/lang/Comparable"), (0, .class_ 4), (0, u "java/lang/Object")] 7

/-- java/lang/Comparable -/
def k3 : Class := { plain "java/lang/Comparable" (some 0) with
  accessFlags := 1537
  interfaces := #[]
  cf := some (fileOf pool3 1 #[] #[] 1537 3 #[] #[])
  fields := #[]
  methods := #[]
  instanceTypes := #[]
  staticTypes := #[]
  resolved := Array.replicate 12 none
  statics := none }

def pool4 : Array CpInfo := pool [(1, .class_ 2), (0, u "java/io/Serializable"), (0, .class_ 4), (0, u "java/lang/Object")] 2

/-- java/io/Serializable -/
def k4 : Class := { plain "java/io/Serializable" (some 0) with
  accessFlags := 1537
  interfaces := #[]
  cf := some (fileOf pool4 1 #[] #[] 1537 3 #[] #[])
  fields := #[]
  methods := #[]
  instanceTypes := #[]
  staticTypes := #[]
  resolved := Array.replicate 7 none
  statics := none }

def pool5 : Array CpInfo := pool [(2, .class_ 4), (1, u "java/lang/Enum"), (0, u "name"), (0, u "Ljava/lang/String;"), (2, u "ordinal"), (0, u "I"), (1, .class_ 14), (1, u "java/lang/Object"), (4, u "hash"), (86, .class_ 108), (1, u "java/lang/Enum$EnumDesc"), (2, .class_ 112), (0, u "java/lang/constant/Constable"), (0, .class_ 114), (0, u "java/lang/Comparable"), (0, .class_ 116), (0, u "java/io/Serializable")] 87

/-- java/lang/Enum -/
def k5 : Class := { plain "java/lang/Enum" (some 0) with
  accessFlags := 1057
  interfaces := #[2, 3, 4]
  cf := some (fileOf pool5 2 #[.nestMembers #[106]] #[] 1057 12 #[111, 113, 115] #[{ accessFlags := 18, nameIndex := 5, descriptorIndex := 6, attributes := #[] }, { accessFlags := 18, nameIndex := 9, descriptorIndex := 10, attributes := #[] }, { accessFlags := 2, nameIndex := 19, descriptorIndex := 10, attributes := #[] }])
  fields := #[{ name := "name", type := (.object "java/lang/String"), accessFlags := 18, slot := 0, constantValue := 0 }, { name := "ordinal", type := .int, accessFlags := 18, slot := 1, constantValue := 0 }, { name := "hash", type := .int, accessFlags := 2, slot := 2, constantValue := 0 }]
  methods := #[]
  instanceTypes := #[(.object "java/lang/String"), .int, .int]
  staticTypes := #[]
  resolved := Array.replicate 204 none
  statics := none }

def pool6 : Array CpInfo := pool [(1, .class_ 2), (0, u "com/example/rippletide/rippletide/model/State"), (2, u "SUSCEPTIBLE"), (0, u "Lcom/example/rippletide/rippletide/model/State;"), (2, u "INFECTED"), (2, u "RECOVERED"), (2, u "$VALUES"), (0, u "[Lcom/example/rippletide/rippletide/model/State;"), (6, .class_ 25), (1, u "java/lang/Enum"), (6, .fieldref 1 33), (0, .nameAndType 34 35), (0, u "letter"), (0, u "C"), (0, .fieldref 1 37), (0, .nameAndType 38 16), (0, u "STATES"), (20, u "ofLetter"), (0, u "(I)Lcom/example/rippletide/rippletide/model/State;")] 6

def k6c0 : Code := { maxStack := 2, maxLocals := 5, code := prog_37_method_5_code, exceptionTable := #[], attributes := #[] }
def k6m0 : Method := { name := "ofLetter", desc := "(I)Lcom/example/rippletide/rippletide/model/State;", sig := { parameters := [.int], returnType := some (.object "com/example/rippletide/rippletide/model/State") }, accessFlags := 9, code := some k6c0 }
/-- com/example/rippletide/rippletide/model/State -/
def k6 : Class := { plain "com/example/rippletide/rippletide/model/State" (some 5) with
  accessFlags := 16433
  interfaces := #[]
  cf := some (fileOf pool6 1 #[] #[{ accessFlags := 9, nameIndex := 59, descriptorIndex := 60, attributes := #[] }] 16433 23 #[] #[{ accessFlags := 16409, nameIndex := 5, descriptorIndex := 6, attributes := #[] }, { accessFlags := 16409, nameIndex := 9, descriptorIndex := 6, attributes := #[] }, { accessFlags := 16409, nameIndex := 12, descriptorIndex := 6, attributes := #[] }, { accessFlags := 26, nameIndex := 38, descriptorIndex := 16, attributes := #[] }, { accessFlags := 18, nameIndex := 34, descriptorIndex := 35, attributes := #[] }, { accessFlags := 4122, nameIndex := 15, descriptorIndex := 16, attributes := #[] }])
  fields := #[{ name := "SUSCEPTIBLE", type := (.object "com/example/rippletide/rippletide/model/State"), accessFlags := 16409, slot := 0, constantValue := 0 }, { name := "INFECTED", type := (.object "com/example/rippletide/rippletide/model/State"), accessFlags := 16409, slot := 1, constantValue := 0 }, { name := "RECOVERED", type := (.object "com/example/rippletide/rippletide/model/State"), accessFlags := 16409, slot := 2, constantValue := 0 }, { name := "STATES", type := (.array (.object "com/example/rippletide/rippletide/model/State")), accessFlags := 26, slot := 3, constantValue := 0 }, { name := "letter", type := .char, accessFlags := 18, slot := 3, constantValue := 0 }, { name := "$VALUES", type := (.array (.object "com/example/rippletide/rippletide/model/State")), accessFlags := 4122, slot := 4, constantValue := 0 }]
  methods := #[k6m0]
  instanceTypes := #[(.object "java/lang/String"), .int, .int, .char]
  staticTypes := #[(.object "com/example/rippletide/rippletide/model/State"), (.object "com/example/rippletide/rippletide/model/State"), (.object "com/example/rippletide/rippletide/model/State"), (.array (.object "com/example/rippletide/rippletide/model/State")), (.array (.object "com/example/rippletide/rippletide/model/State"))]
  resolved := Array.replicate 67 none
  statics := some 0 }

def pool7 : Array CpInfo := pool [(1, u "java/lang/Cloneable"), (0, .class_ 1), (0, u "java/lang/Object"), (0, .class_ 3)] 3

/-- java/lang/Cloneable -/
def k7 : Class := { plain "java/lang/Cloneable" (some 0) with
  accessFlags := 1537
  interfaces := #[]
  cf := some (fileOf pool7 2 #[] #[] 1537 4 #[] #[])
  fields := #[]
  methods := #[]
  instanceTypes := #[]
  staticTypes := #[]
  resolved := Array.replicate 8 none
  statics := none }

/-- the primitive byte -/
def k8 : Class := { plain "byte" none with kind := .primitive 'B', accessFlags := 0x411 }
/-- [B -/
def k9 : Class := { plain "[B" (some 0) with kind := .array 8 .byte, interfaces := #[7, 4], accessFlags := 1041 }

/-- the primitive int -/
def k10 : Class := { plain "int" none with kind := .primitive 'I', accessFlags := 0x411 }
/-- [I -/
def k11 : Class := { plain "[I" (some 0) with kind := .array 10 .int, interfaces := #[7, 4], accessFlags := 1041 }

/-- [Lcom/example/rippletide/rippletide/model/State; -/
def k12 : Class := { plain "[Lcom/example/rippletide/rippletide/model/State;" (some 0) with kind := .array 6 (.object "com/example/rippletide/rippletide/model/State"), interfaces := #[7, 4], accessFlags := 1041 }

def heap : Heap := #[{ cls := 6, slots := #[.ref 2, .ref 3, .ref 4, .ref 1, .null], vm := .statics 6 },
  { cls := 12, slots := #[.ref 2, .ref 3, .ref 4], vm := .none },
  { cls := 6, slots := #[.null, .int 0, .int 0, .int 83], vm := .none },
  { cls := 6, slots := #[.null, .int 0, .int 0, .int 73], vm := .none },
  { cls := 6, slots := #[.null, .int 0, .int 0, .int 82], vm := .none }]
def classes : Array Class := #[k0, k1, k2, k3, k4, k5, k6, k7, k8, k9, k10, k11, k12]
def interned : List (Array UInt16 × Addr) := []
def slotsUsed : Nat := 20
def theMethod : MethodId := ⟨1, 1⟩
def args0 : Array Value := #[.int 5, .int 7]
def aboutOver (below : List Frame) : State where
  vm := { classes := classes, interned := interned.toArray }
  heap := heap
  slotsUsed := slotsUsed
  threads := #[{ frames := .invoking theMethod args0 :: below }]
def below0 : List Frame := [.native { method := ⟨0, 0⟩, args := #[] }]
def about1 : State := aboutOver below0
def p0 : Program := .bare "" "" ""
def e0 : Env := launch0.env 0 0 0
theorem w_frames : about1.frames = Frame.invoking theMethod args0 :: below0 := rfl
set_option maxRecDepth 65536 in
theorem w_args : argsFit about1.vm theMethod args0 = true := by decide +kernel
set_option maxRecDepth 65536 in
theorem w_heap : heapFits about1 = true := by decide +kernel
set_option maxRecDepth 65536 in
theorem w_runnable : about1.curStatus? = some .runnable := by decide +kernel
set_option maxRecDepth 65536 in
theorem w_alone : about1.alone = true := by decide +kernel
set_option maxRecDepth 65536 in
theorem w_named : about1.methodNamed? x = some theMethod := by decide +kernel
set_option maxRecDepth 65536 in
theorem w_hears : about1.hears theMethod below0 = true := by decide +kernel
set_option maxRecDepth 65536 in
theorem w_ripe : about1.ripe theMethod args0 below0 = true := by decide +kernel
theorem w_running : about1.status = .running := rfl
set_option maxRecDepth 65536 in
theorem w_room : about1.hasRoom e0.platform room_1 = true :=
  launch0.hasRoom_least _ room_1 (by decide +kernel) (by decide +kernel) (by decide +kernel) (by decide +kernel) (by decide +kernel) (by decide +kernel)
theorem allAtoms_all (ts : List Jvm.Cond) (a : Array Jvm.Value) (st : Jvm.State) : (allAtoms ts).before a st = ts.all (fun c => c.before a st) := by
  induction ts with
  | nil => rfl
  | cons c t ih =>
    show (Jvm.Cond.and c (allAtoms t)).before a st = _
    rw [Jvm.Cond.before_and, ih, List.all_cons]
def words1 : List Jvm.Cond := Jvm.Cond.code x code maxLocals ret :: tables_1
/-- a 'code' word, met by the world's own term for the bytes: nothing is compared byte by byte -/
theorem code_word {y : MethodName} {bytes : ByteArray} {mx : Nat} {rt : Option FieldType} {a : Array Value} {s : State} {m : MethodId} {meth : Method} {c : Code} (h1 : s.methodNamed? y = some m) (h2 : s.vm.method? m = some meth) (h3 : meth.code = some c) (h4 : c.code = bytes)
    (h5 : (c.maxLocals == mx && c.exceptionTable.isEmpty && decide (c.maxStack ≤ mostOperands) && decide (meth.sig.returnType = rt) && !meth.locks && decide (parseMethodDescriptor y.desc = some meth.sig)) = true) : (Jvm.Cond.code y bytes mx rt).before a s = true := by
  simp only [Bool.and_eq_true, beq_iff_eq, Bool.not_eq_true', decide_eq_true_eq] at h5
  obtain ⟨⟨⟨⟨⟨g1, g2⟩, g3⟩, g4⟩, g5⟩, g6⟩ := h5
  simp [Cond.before, Cond.holds, Cond.value, h1, h2, h3, h4, g1, g2, g3, g4, g5, g6]
def isCode : Jvm.Cond → Bool
  | .code _ _ _ _ => true
  | _ => false
theorem all_split {L : List Jvm.Cond} {P : Jvm.Cond → Bool} (h1 : L.all (fun c => isCode c || P c) = true) (h2 : ∀ c ∈ L.filter isCode, P c = true) : L.all P = true := by
  refine List.all_eq_true.mpr fun c hc => ?_
  have h := List.all_eq_true.mp h1 c hc
  rcases Bool.eq_false_or_eq_true (isCode c) with hi | hi
  · exact h2 c (List.mem_filter.mpr ⟨hc, hi⟩)
  · simpa [hi] using h
set_option maxRecDepth 65536 in
theorem w_c0 : (Jvm.Cond.code x code maxLocals ret).before args0 about1 = true := code_word (m := ⟨1, 1⟩) (meth := k1m1) (c := k1c1) (by decide +kernel) rfl rfl rfl (by decide +kernel)
set_option maxRecDepth 65536 in
theorem w_c1 : (Jvm.Cond.code ({ cls := "com/example/rippletide/rippletide/model/State", name := "ofLetter", desc := "(I)Lcom/example/rippletide/rippletide/model/State;" } : Jvm.MethodName) prog_37_method_5_code (5 : Nat) (Option.some (Jvm.ClassFile.FieldType.object "com/example/rippletide/rippletide/model/State"))).before args0 about1 = true := code_word (m := ⟨6, 0⟩) (meth := k6m0) (c := k6c0) (by decide +kernel) rfl rfl rfl (by decide +kernel)
def codes1 : List Jvm.Cond := [Jvm.Cond.code x code maxLocals ret, Jvm.Cond.code ({ cls := "com/example/rippletide/rippletide/model/State", name := "ofLetter", desc := "(I)Lcom/example/rippletide/rippletide/model/State;" } : Jvm.MethodName) prog_37_method_5_code (5 : Nat) (Option.some (Jvm.ClassFile.FieldType.object "com/example/rippletide/rippletide/model/State"))]
set_option maxRecDepth 65536 in
theorem codes_eq : words1.filter isCode = codes1 := rfl
theorem w_codes : ∀ c ∈ words1.filter isCode, c.before args0 about1 = true := by
  rw [codes_eq]
  intro c hc
  simp only [codes1, List.mem_cons, List.not_mem_nil, or_false] at hc
  rcases hc with rfl | rfl
  · exact w_c0
  · exact w_c1
set_option maxRecDepth 65536 in
theorem w_t1 : words1.all (fun c => isCode c || c.before args0 about1) = true := by decide +kernel
theorem w_tables : (allAtoms (Jvm.Cond.code x code maxLocals ret :: tables_1)).before args0 about1 = true := by
  rw [allAtoms_all]
  show words1.all (fun c => c.before args0 about1) = true
  refine all_split ?_ w_codes
  rw [w_t1]
set_option maxRecDepth 65536 in
theorem w_case : (Jvm.Cond.and given_1 narrow_1).before args0 about1 = true := by decide +kernel
theorem w_applies : (headSpec (Jvm.Cond.code x code maxLocals ret :: tables_1) room_1).applies x e0.platform about1 = true :=
  (Spec.applies_iff w_frames).mpr ⟨w_running, w_runnable, w_alone, w_named, w_hears, w_ripe, w_room, w_tables⟩
theorem atStart : AtStart classFile x code maxLocals ret World_1 tables_1 room_1 Calls_1 rest_1 Pre_1 launch0 p0 e0 about1 theMethod args0 below0 :=
  ⟨lists_1, trivial, launch0.admits_env _ _ _, launch0.least_env, fairChoices_fair.cas, fairChoices_fair.clock, w_frames, w_args, w_heap, w_applies, trivial, trivial, w_case⟩
end start1
theorem witness_1 : WitnessClaimed_1 := ⟨start1.p0, start1.e0, start1.about1, start1.theMethod, start1.args0, start1.below0, start1.atStart⟩
end Jvm.Pilot.@@N@@
