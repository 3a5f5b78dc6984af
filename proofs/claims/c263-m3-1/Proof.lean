import JvmDerived
import JvmDerived.Pilot.@@N@@Statement
import JvmDerived.Pilot.@@N@@Code
set_option linter.unusedVariables false
set_option linter.unusedSimpArgs false
namespace Jvm.RoadKit
open Sem ClassFile Op Lib Jvm.Stand Jvm.Free Jvm.LawKit
section New
variable {p : Program} {l : Launch} {e : Env} {R : Room} {s : State} {m : MethodId} {args : Array Value} {below : List Frame} {meth : Method} {c : Code} {T : State} {locs : List Loc} {cells slots : Nat}
theorem own_retI (X : Stand p l e R s m args below meth c T locs cells slots) (hx : p.tables.exec = Jvm.exec) {pc : Nat} {Ls : Array Slot} {z : Int32} {rest : List Value} (hret : meth.sig.returnType = some .int) (hd : decode c.code pc = .ok (.ireturn, 1)) {fs : List Frame}
    (hl : ∀ (f : JFrame) (acts : List Action), f.method = m → f.locked = none → f.entered = [] → (doReturn e (T.setTop f) acts (some (.int z))).1 = T.setFrames fs) : Steps p.tables e below (T.setTop (mkF m pc Ls (.int z :: rest))) (T.setFrames fs) :=
  retOut X hx hret rfl (Or.inl ⟨rfl, Or.inl rfl, z, rfl⟩) hd hl
theorem own_retL (X : Stand p l e R s m args below meth c T locs cells slots) (hx : p.tables.exec = Jvm.exec) {pc : Nat} {Ls : Array Slot} {z : Int64} {rest : List Value} (hret : meth.sig.returnType = some .long) (hd : decode c.code pc = .ok (.lreturn, 1)) {fs : List Frame}
    (hl : ∀ (f : JFrame) (acts : List Action), f.method = m → f.locked = none → f.entered = [] → (doReturn e (T.setTop f) acts (some (.long z))).1 = T.setFrames fs) : Steps p.tables e below (T.setTop (mkF m pc Ls (.long z :: rest))) (T.setFrames fs) :=
  retOut X hx hret rfl (Or.inr (Or.inl ⟨rfl, rfl, z, rfl⟩)) hd hl
theorem own_retA (X : Stand p l e R s m args below meth c T locs cells slots) (hx : p.tables.exec = Jvm.exec) {pc : Nat} {Ls : Array Slot} {w : Value} {t : FieldType} {rest : List Value} (hret : meth.sig.returnType = some t) (ht : t.isReference = true) (hw : w.isRef = true) (hd : decode c.code pc = .ok (.areturn, 1)) {fs : List Frame}
    (hl : ∀ (f : JFrame) (acts : List Action), f.method = m → f.locked = none → f.entered = [] → (doReturn e (T.setTop f) acts (some w)).1 = T.setFrames fs) : Steps p.tables e below (T.setTop (mkF m pc Ls (w :: rest))) (T.setFrames fs) :=
  retOut X hx hret (by cases t <;> cases w <;> simp_all [narrow, Value.isRef, FieldType.isReference]) (Or.inr (Or.inr (Or.inr (Or.inr ⟨rfl, ht, hw⟩)))) hd hl
end New
end Jvm.RoadKit
namespace Jvm.Pilot.@@N@@
open Jvm Jvm.ClassFile Sem Op Lib Jvm.Free Jvm.Stand Jvm.LawKit Jvm.RoadKit Bundle Jvm.Pilot.@@N@@.Jvm.D
theorem own_lcEt {x y : Int64} (h : x = y) : lcmpW x y = (0 : Int32) := by rw [lcW]; exact (lc_eq x y).mpr h
theorem own_lcEf {x y : Int64} (h : ¬ (x = y)) : ¬ (lcmpW x y = (0 : Int32)) := by rw [lcW]; exact fun q => h ((lc_eq x y).mp q)
theorem own_lcLt {x y : Int64} (h : x < y) : lcmpW x y < (0 : Int32) := by rw [lcW]; exact (lc_lt x y).mpr h
theorem own_lcLf {x y : Int64} (h : ¬ (x < y)) : ¬ (lcmpW x y < (0 : Int32)) := by rw [lcW]; exact fun q => h ((lc_lt x y).mp q)
theorem own_lcGt {x y : Int64} (h : y < x) : (0 : Int32) < lcmpW x y := by rw [lcW]; exact (lc_gt x y).mpr h
theorem own_lcGf {x y : Int64} (h : ¬ (y < x)) : ¬ ((0 : Int32) < lcmpW x y) := by rw [lcW]; exact fun q => h ((lc_gt x y).mp q)
theorem own_ext_refl (h : Heap) : Ext h h := ⟨Nat.le_refl _, fun _ _ q => q⟩
theorem own_ext_trans {h h' h'' : Heap} (E : Ext h h') (F : Ext h' h'') : Ext h h'' := ⟨Nat.le_trans E.1 F.1, fun a c q => F.2 a c (E.2 a c q)⟩
theorem own_ext_wr {h h' h'' : Heap} {a : Addr} {sl : Nat} {v : Value} (E : Ext h h') (W : Wr h' h'' a sl v) (q : h.size ≤ a) : Ext h h'' := by
  obtain ⟨cell, -, -, -, rfl⟩ := W
  refine ⟨by simpa using E.1, fun b c r => ?_⟩
  have hb : b < h.size := (Array.getElem?_eq_some_iff.mp r).1
  rw [Array.getElem?_setIfInBounds_ne (Nat.ne_of_gt (Nat.lt_of_lt_of_le hb q))]
  exact E.2 b c r
theorem own_fldI {args : Array Value} {s : State} {t : Term} {a : Addr} {C n d : String} {k : Int32} (ev : t.eval args s none [] s = some (.ref a)) (h : (Cond.eq (.field t C n d) (.int k)).value args s none s [] = some true) : Fld s s.heap a C n d (.int k) := by
  obtain ⟨u, v, h1, h2, -, k2⟩ := cmp_v (Or.inl h)
  have e2 : (Term.int k).eval args s none [] s = some (.int k) := rfl
  cases e2.symm.trans h2
  obtain ⟨z, rfl⟩ := k2
  have q : z = k := by simpa [Cond.value, h1, e2] using h
  subst q
  exact Fld.start ((fld_at ev).symm.trans h1)
theorem own_fldJ {args : Array Value} {s : State} {t : Term} {a : Addr} {C n d : String} {k : Int64} (ev : t.eval args s none [] s = some (.ref a)) (h : (Cond.eq (.field t C n d) (.long k)).value args s none s [] = some true) : Fld s s.heap a C n d (.long k) := by
  obtain ⟨u, v, h1, h2, -, k2⟩ := cmp_v (Or.inl h)
  have e2 : (Term.long k).eval args s none [] s = some (.long k) := rfl
  cases e2.symm.trans h2
  obtain ⟨z, rfl⟩ := k2
  have q : z = k := by simpa [Cond.value, h1, e2] using h
  subst q
  exact Fld.start ((fld_at ev).symm.trans h1)
theorem own_fldN {args : Array Value} {s : State} {t : Term} {a : Addr} {C n d : String} (ev : t.eval args s none [] s = some (.ref a)) (h : (Cond.eq (.field t C n d) .null).value args s none s [] = some true) : Fld s s.heap a C n d .null :=
  Fld.start ((fld_at ev).symm.trans (null_v h))
theorem own_eqR {args : Array Value} {s : State} {t u : Term} {b : Addr} (eu : u.eval args s none [] s = some (.ref b)) (h : (Cond.eq t u).value args s none s [] = some true) : t.eval args s none [] s = some (.ref b) := by
  obtain ⟨x, y, h1, h2, k1, k2⟩ := cmp_v (Or.inl h)
  cases eu.symm.trans h2
  have hx : x.isRef = true := k2.2
  have q := gotT (eq_R h1 h2 hx rfl) h
  rw [h1, q]
theorem own_fldR {args : Array Value} {s : State} {t u : Term} {a b : Addr} {C n d : String} (ev : t.eval args s none [] s = some (.ref a)) (eu : u.eval args s none [] s = some (.ref b)) (h : (Cond.eq (.field t C n d) u).value args s none s [] = some true) : Fld s s.heap a C n d (.ref b) :=
  Fld.start ((fld_at ev).symm.trans (own_eqR eu h))
theorem own_elI {args : Array Value} {s : State} {t : Term} {a : Addr} {cl : Cell} {j k : Int32} {i : Nat} (ev : t.eval args s none [] s = some (.ref a)) (hc : s.heap[a]? = some cl) (h : (Cond.eq (.elem t (.int j)) (.int k)).value args s none s [] = some true) (hj : j.toNatClampNeg = i) : cl.slots[i]? = some (.int k) := by
  obtain ⟨u, v, h1, h2, -, k2⟩ := cmp_v (Or.inl h)
  have e2 : (Term.int k).eval args s none [] s = some (.int k) := rfl
  cases e2.symm.trans h2
  obtain ⟨z, rfl⟩ := k2
  have q : z = k := by simpa [Cond.value, h1, e2] using h
  subst q hj
  exact (elem_in h1 ev (rfl : (Term.int j).eval args s none [] s = some (.int j)) hc).2
theorem own_elR {args : Array Value} {s : State} {t u : Term} {a b : Addr} {cl : Cell} {j : Int32} {i : Nat} (ev : t.eval args s none [] s = some (.ref a)) (eu : u.eval args s none [] s = some (.ref b)) (hc : s.heap[a]? = some cl) (h : (Cond.eq (.elem t (.int j)) u).value args s none s [] = some true) (hj : j.toNatClampNeg = i) : cl.slots[i]? = some (.ref b) := by
  subst hj
  exact (elem_in (own_eqR eu h) ev (rfl : (Term.int j).eval args s none [] s = some (.int j)) hc).2
theorem own_len {args : Array Value} {s : State} {t : Term} {a : Addr} {cl : Cell} {ty : FieldType} {k : Int32} (ev : t.eval args s none [] s = some (.ref a)) (A : Arr s s.heap a cl ty) (h : (Cond.eq (.length t) (.int k)).value args s none s [] = some true) : cl.slots.size < 2 ^ 31 ∧ cl.slots.size.toInt32 = k := by
  obtain ⟨u, v, h1, h2, -, k2⟩ := cmp_v (Or.inl h)
  have e2 : (Term.int k).eval args s none [] s = some (.int k) := rfl
  cases e2.symm.trans h2
  obtain ⟨z, rfl⟩ := k2
  have q : z = k := by simpa [Cond.value, h1, e2] using h
  subst q
  have ha := A.fin (Vm.Alike.refl _)
  simp only [Term.eval, ev, ha, Option.bind_eq_bind, Option.bind_some] at h1
  split at h1
  · rename_i q
    exact ⟨q, by simpa using h1⟩
  · cases h1
def World (Z : State) (h : Heap) (wREQUESTING : Addr) (wEND : Addr) (wDENIED : Addr) (wREVOKED : Addr) (wONADAPTING : Addr) (wPREADAPTING : Addr) (wACCESSING : Addr) : Prop := Sta Z h "com/example/ongoing_grant/ongoinggrant/engine/State" "REQUESTING" "Lcom/example/ongoing_grant/ongoinggrant/engine/State;" (.ref wREQUESTING) ∧ Exa Z h wREQUESTING "com/example/ongoing_grant/ongoinggrant/engine/State" ∧ Sta Z h "com/example/ongoing_grant/ongoinggrant/engine/State" "END" "Lcom/example/ongoing_grant/ongoinggrant/engine/State;" (.ref wEND) ∧ Exa Z h wEND "com/example/ongoing_grant/ongoinggrant/engine/State" ∧ Fld Z h wREQUESTING "java/lang/Enum" "ordinal" "I" (.int (0 : Int32)) ∧ Fld Z h wEND "java/lang/Enum" "ordinal" "I" (.int (4 : Int32)) ∧ Sta Z h "com/example/ongoing_grant/ongoinggrant/engine/State" "DENIED" "Lcom/example/ongoing_grant/ongoinggrant/engine/State;" (.ref wDENIED) ∧ Exa Z h wDENIED "com/example/ongoing_grant/ongoinggrant/engine/State" ∧ Fld Z h wDENIED "java/lang/Enum" "ordinal" "I" (.int (5 : Int32)) ∧ Sta Z h "com/example/ongoing_grant/ongoinggrant/engine/State" "REVOKED" "Lcom/example/ongoing_grant/ongoinggrant/engine/State;" (.ref wREVOKED) ∧ Exa Z h wREVOKED "com/example/ongoing_grant/ongoinggrant/engine/State" ∧ Fld Z h wREVOKED "java/lang/Enum" "ordinal" "I" (.int (6 : Int32)) ∧ Sta Z h "com/example/ongoing_grant/ongoinggrant/engine/State" "ONADAPTING" "Lcom/example/ongoing_grant/ongoinggrant/engine/State;" (.ref wONADAPTING) ∧ Exa Z h wONADAPTING "com/example/ongoing_grant/ongoinggrant/engine/State" ∧ Fld Z h wONADAPTING "java/lang/Enum" "ordinal" "I" (.int (3 : Int32)) ∧ Sta Z h "com/example/ongoing_grant/ongoinggrant/engine/State" "PREADAPTING" "Lcom/example/ongoing_grant/ongoinggrant/engine/State;" (.ref wPREADAPTING) ∧ Exa Z h wPREADAPTING "com/example/ongoing_grant/ongoinggrant/engine/State" ∧ Fld Z h wPREADAPTING "java/lang/Enum" "ordinal" "I" (.int (2 : Int32)) ∧ Sta Z h "com/example/ongoing_grant/ongoinggrant/engine/State" "ACCESSING" "Lcom/example/ongoing_grant/ongoinggrant/engine/State;" (.ref wACCESSING) ∧ Exa Z h wACCESSING "com/example/ongoing_grant/ongoinggrant/engine/State" ∧ Fld Z h wACCESSING "java/lang/Enum" "ordinal" "I" (.int (1 : Int32)) ∧ True
theorem World.ext {Z : State} {h h' : Heap} {wREQUESTING : Addr} {wEND : Addr} {wDENIED : Addr} {wREVOKED : Addr} {wONADAPTING : Addr} {wPREADAPTING : Addr} {wACCESSING : Addr} (W : World Z h wREQUESTING wEND wDENIED wREVOKED wONADAPTING wPREADAPTING wACCESSING) (E : Ext h h') : World Z h' wREQUESTING wEND wDENIED wREVOKED wONADAPTING wPREADAPTING wACCESSING := by
  obtain ⟨SREQUESTING, EREQUESTING, SEND, EEND, FREQUESTING_ordinal, FEND_ordinal, SDENIED, EDENIED, FDENIED_ordinal, SREVOKED, EREVOKED, FREVOKED_ordinal, SONADAPTING, EONADAPTING, FONADAPTING_ordinal, SPREADAPTING, EPREADAPTING, FPREADAPTING_ordinal, SACCESSING, EACCESSING, FACCESSING_ordinal, -⟩ := W
  exact ⟨SREQUESTING.ext E, EREQUESTING.ext E, SEND.ext E, EEND.ext E, FREQUESTING_ordinal.ext E, FEND_ordinal.ext E, SDENIED.ext E, EDENIED.ext E, FDENIED_ordinal.ext E, SREVOKED.ext E, EREVOKED.ext E, FREVOKED_ordinal.ext E, SONADAPTING.ext E, EONADAPTING.ext E, FONADAPTING_ordinal.ext E, SPREADAPTING.ext E, EPREADAPTING.ext E, FPREADAPTING_ordinal.ext E, SACCESSING.ext E, EACCESSING.ext E, FACCESSING_ordinal.ext E, trivial⟩
theorem d1_0 : decode prog_45_method_4_code 0 = .ok (.aload_n 0, 1) := by decide +kernel
theorem d1_1 : decode prog_45_method_4_code 1 = .ok (.getstatic 16, 3) := by decide +kernel
theorem d1_4 : decode prog_45_method_4_code 4 = .ok (.if_acmp .eq 17, 3) := by decide +kernel
theorem d1_21 : decode prog_45_method_4_code 21 = .ok (.iconst 1, 1) := by decide +kernel
theorem d1_22 : decode prog_45_method_4_code 22 = .ok (.goto 4, 3) := by decide +kernel
theorem d1_26 : decode prog_45_method_4_code 26 = .ok (.ireturn, 1) := by decide +kernel
theorem d1_7 : decode prog_45_method_4_code 7 = .ok (.aload_n 0, 1) := by decide +kernel
theorem d1_8 : decode prog_45_method_4_code 8 = .ok (.getstatic 19, 3) := by decide +kernel
theorem d1_11 : decode prog_45_method_4_code 11 = .ok (.if_acmp .eq 10, 3) := by decide +kernel
theorem d1_14 : decode prog_45_method_4_code 14 = .ok (.aload_n 0, 1) := by decide +kernel
theorem d1_15 : decode prog_45_method_4_code 15 = .ok (.getstatic 22, 3) := by decide +kernel
theorem d1_18 : decode prog_45_method_4_code 18 = .ok (.if_acmp .ne 7, 3) := by decide +kernel
theorem d1_25 : decode prog_45_method_4_code 25 = .ok (.iconst 0, 1) := by decide +kernel
theorem pn_0 : plainName "com/example/ongoing_grant/ongoinggrant/engine/State" = true := by first | (simp [plainName, overriddenIn]; done) | decide +kernel
def f1 (p0 : Addr) (wREQUESTING : Addr) (wEND : Addr) (wDENIED : Addr) (wREVOKED : Addr) (wONADAPTING : Addr) (wPREADAPTING : Addr) (wACCESSING : Addr) : Int32 := if p0 = wEND then (1 : Int32) else if p0 = wDENIED then (1 : Int32) else if p0 = wREVOKED then (1 : Int32) else (0 : Int32)
theorem ef_1 (m : MethodId) (p0 : Addr) : entryFrame m #[(.ref p0)] 1 = mkF m 0 #[.val (.ref p0)] [] := by first | (simp [entryFrame, mkF, argsToLocals, Value.category]; done) | rfl
def Q1 (Z : State) (p0 : Addr) (wREQUESTING : Addr) (wEND : Addr) (wDENIED : Addr) (wREVOKED : Addr) (wONADAPTING : Addr) (wPREADAPTING : Addr) (wACCESSING : Addr) (h0 : Heap) (n0 : Nat) (v : Option Value) (h : Heap) (L : List Loc) : Prop := v = some (.int (f1 p0 wREQUESTING wEND wDENIED wREVOKED wONADAPTING wPREADAPTING wACCESSING)) ∧ Fr n0 L ∧ h = h0
set_option maxRecDepth 65536 in
set_option maxHeartbeats 40000000 in
theorem rm1 (l : Launch) (Z : State) (a0 : Array Value) (hw : ∀ d ∈ tables_1, d.before a0 Z = true) (ws : List Jvm.Cond) (p0 : Addr) (wREQUESTING : Addr) (wEND : Addr) (wDENIED : Addr) (wREVOKED : Addr) (wONADAPTING : Addr) (wPREADAPTING : Addr) (wACCESSING : Addr) (h0 : Heap) (n0 : Nat) (Z0 : n0 ≤ h0.size) (W0 : World Z h0 wREQUESTING wEND wDENIED wREVOKED wONADAPTING wPREADAPTING wACCESSING) :
    MetFree l (⟨"com/example/ongoing_grant/ongoinggrant/engine/State", "isFinal", "()Z"⟩ : MethodName) (head1 (Jvm.Cond.code (⟨"com/example/ongoing_grant/ongoinggrant/engine/State", "isFinal", "()Z"⟩ : MethodName) prog_45_method_4_code 1 (some .boolean) :: ws) ({ frames := 0, cells := 0, slots := 0, locals := 0 } : Room)) (fun a U => a = #[(.ref p0)] ∧ Z.Warmed39 U.vm ∧ U.heap = h0) (fun _ _ _ _ _ => True) (fun _ U o U' => ∃ v L, o = .returned v ∧ Q1 Z p0 wREQUESTING wEND wDENIED wREVOKED wONADAPTING wPREADAPTING wACCESSING h0 n0 v U'.heap L ∧ FrameEnd U o U' L ({ frames := 0, cells := 0, slots := 0, locals := 0 } : Room).cells ({ frames := 0, cells := 0, slots := 0, locals := 0 } : Room).slots) := by
  refine MetFree.of_bodySF (plainFor_of_name pn_0) hisR ?_
  intro p e s m args below meth c s₁ Bd hml0 hP hK
  obtain ⟨rfl, hZ, hh⟩ := hP
  have hx := Bd.exec
  have hby := Bd.bytes
  have hml : c.maxLocals = 1 := hml0
  have hown : s.vm.findClass "com/example/ongoing_grant/ongoinggrant/engine/State" = some m.cls := findClass_of_methodNamed Bd.named
  have X0 : Stand p l e ({ frames := 0, cells := 0, slots := 0, locals := 0 } : Room) s m #[(.ref p0)] below meth c s₁ [] 0 0 := Stand.of_body Bd
  have e0 : s₁.heap = h0 := by rw [← hh, Bd.state]; rfl
  have N0 := Fr.nil n0
  have W1 := W0
  obtain ⟨SREQUESTING, EREQUESTING, SEND, EEND, FREQUESTING_ordinal, FEND_ordinal, SDENIED, EDENIED, FDENIED_ordinal, SREVOKED, EREVOKED, FREVOKED_ordinal, SONADAPTING, EONADAPTING, FONADAPTING_ordinal, SPREADAPTING, EPREADAPTING, FPREADAPTING_ordinal, SACCESSING, EACCESSING, FACCESSING_ordinal, -⟩ := W1
  have pre0 : ∀ t, Steps p.tables e below (s₁.setTop (mkF m 0 #[.val (.ref p0)] [])) t → Steps p.tables e below (s₁.setTop (entryFrame m #[(.ref p0)] 1)) t := fun t k => castTop (ef_1 m p0) k
  obtain ⟨T1, X1, e1, st1⟩ := getS2 X0 hx hZ hown (host := "") (Or.inl (hw _ (List.mem_of_getElem? (i := 9) rfl))) Via.refl e0 SEND (g := (mkF m 1 #[.val (.ref p0)] [(.ref p0)])) rfl (hb hby d1_1)
  have k2 : ∀ t, Steps p.tables e below (T1.setTop (mkF m 4 #[.val (.ref p0)] [(.ref wEND), (.ref p0)])) t → Steps p.tables e below (s₁.setTop (entryFrame m #[(.ref p0)] 1)) t := fun t kt => pre0 t (by
    show Steps p.tables e below (s₁.setTop (mkF m 0 #[.val (.ref p0)] [])) _
    refine XS.aloadN X0.here hx rfl (hb hby d1_0) rfl rfl ?_
    show Steps p.tables e below (s₁.setTop (mkF m 1 #[.val (.ref p0)] [(.ref p0)])) _
    refine st1 _ ?_
    exact kt)
  by_cases hc3 : p0 = wEND
  · obtain ⟨fs, hr, hrun, hended, hW, hsame⟩ := X1.leave (v := some (.int (1 : Int32))) (fun h => by rw [Bd.returns] at h; cases h)
    refine ⟨_, _, k2 _ ?_, hrun, hended, _, _, rfl, ?_, ⟨_, rfl⟩, hW, hsame.mono (by decide) (by decide)⟩
    · show Steps p.tables e below (T1.setTop (mkF m 4 #[.val (.ref p0)] [(.ref wEND), (.ref p0)])) _
      refine Jvm.RoadKit.acmp (g := (mkF m 4 #[.val (.ref p0)] [(.ref wEND), (.ref p0)])) X1 hx rfl rfl rfl (pc0 := 4) (pc' := 21) (same := true) rfl (hb hby d1_4) rfl (decide_eq_true (congrArg Value.ref (hc3 : p0 = wEND))) (by decide) (by decide) ?_
      show Steps p.tables e below (T1.setTop (mkF m 21 #[.val (.ref p0)] [])) _
      refine XS.iconst X1.here hx rfl (hb hby d1_21) ?_
      show Steps p.tables e below (T1.setTop (mkF m 22 #[.val (.ref p0)] [(.int (1 : Int32))])) _
      refine XS.goto X1.here hx rfl (pc0 := 22) (pc' := 26) rfl (hb hby d1_22) (by decide) (by decide) ?_
      show Steps p.tables e below (T1.setTop (mkF m 26 #[.val (.ref p0)] [(.int (1 : Int32))])) _
      exact retN X1 hx (t := .boolean) Bd.returns (by simp) (hb hby d1_26) hr
    · show Q1 Z p0 wREQUESTING wEND wDENIED wREVOKED wONADAPTING wPREADAPTING wACCESSING h0 n0 _ T1.heap _
      rw [e1]
      exact ⟨by rw [f1, if_pos hc3], N0, rfl⟩
  · obtain ⟨T4, X4, e4, st4⟩ := getS2 X1 hx hZ hown (host := "") (Or.inl (hw _ (List.mem_of_getElem? (i := 11) rfl))) Via.refl e1 SDENIED (g := (mkF m 8 #[.val (.ref p0)] [(.ref p0)])) rfl (hb hby d1_8)
    have k5 : ∀ t, Steps p.tables e below (T4.setTop (mkF m 11 #[.val (.ref p0)] [(.ref wDENIED), (.ref p0)])) t → Steps p.tables e below (s₁.setTop (entryFrame m #[(.ref p0)] 1)) t := fun t kt => k2 t (by
      show Steps p.tables e below (T1.setTop (mkF m 4 #[.val (.ref p0)] [(.ref wEND), (.ref p0)])) _
      refine Jvm.RoadKit.acmp (g := (mkF m 4 #[.val (.ref p0)] [(.ref wEND), (.ref p0)])) X1 hx rfl rfl rfl (pc0 := 4) (pc' := 7) (same := false) rfl (hb hby d1_4) rfl (decide_eq_false fun q => (hc3 : ¬ (p0 = wEND)) (Value.ref.inj q)) (by decide) (by decide) ?_
      show Steps p.tables e below (T1.setTop (mkF m 7 #[.val (.ref p0)] [])) _
      refine XS.aloadN X1.here hx rfl (hb hby d1_7) rfl rfl ?_
      show Steps p.tables e below (T1.setTop (mkF m 8 #[.val (.ref p0)] [(.ref p0)])) _
      refine st4 _ ?_
      exact kt)
    by_cases hc6 : p0 = wDENIED
    · obtain ⟨fs, hr, hrun, hended, hW, hsame⟩ := X4.leave (v := some (.int (1 : Int32))) (fun h => by rw [Bd.returns] at h; cases h)
      refine ⟨_, _, k5 _ ?_, hrun, hended, _, _, rfl, ?_, ⟨_, rfl⟩, hW, hsame.mono (by decide) (by decide)⟩
      · show Steps p.tables e below (T4.setTop (mkF m 11 #[.val (.ref p0)] [(.ref wDENIED), (.ref p0)])) _
        refine Jvm.RoadKit.acmp (g := (mkF m 11 #[.val (.ref p0)] [(.ref wDENIED), (.ref p0)])) X4 hx rfl rfl rfl (pc0 := 11) (pc' := 21) (same := true) rfl (hb hby d1_11) rfl (decide_eq_true (congrArg Value.ref (hc6 : p0 = wDENIED))) (by decide) (by decide) ?_
        show Steps p.tables e below (T4.setTop (mkF m 21 #[.val (.ref p0)] [])) _
        refine XS.iconst X4.here hx rfl (hb hby d1_21) ?_
        show Steps p.tables e below (T4.setTop (mkF m 22 #[.val (.ref p0)] [(.int (1 : Int32))])) _
        refine XS.goto X4.here hx rfl (pc0 := 22) (pc' := 26) rfl (hb hby d1_22) (by decide) (by decide) ?_
        show Steps p.tables e below (T4.setTop (mkF m 26 #[.val (.ref p0)] [(.int (1 : Int32))])) _
        exact retN X4 hx (t := .boolean) Bd.returns (by simp) (hb hby d1_26) hr
      · show Q1 Z p0 wREQUESTING wEND wDENIED wREVOKED wONADAPTING wPREADAPTING wACCESSING h0 n0 _ T4.heap _
        rw [e4]
        exact ⟨by rw [f1, if_neg hc3, if_pos hc6], N0, rfl⟩
    · obtain ⟨T7, X7, e7, st7⟩ := getS2 X4 hx hZ hown (host := "") (Or.inl (hw _ (List.mem_of_getElem? (i := 13) rfl))) Via.refl e4 SREVOKED (g := (mkF m 15 #[.val (.ref p0)] [(.ref p0)])) rfl (hb hby d1_15)
      have k8 : ∀ t, Steps p.tables e below (T7.setTop (mkF m 18 #[.val (.ref p0)] [(.ref wREVOKED), (.ref p0)])) t → Steps p.tables e below (s₁.setTop (entryFrame m #[(.ref p0)] 1)) t := fun t kt => k5 t (by
        show Steps p.tables e below (T4.setTop (mkF m 11 #[.val (.ref p0)] [(.ref wDENIED), (.ref p0)])) _
        refine Jvm.RoadKit.acmp (g := (mkF m 11 #[.val (.ref p0)] [(.ref wDENIED), (.ref p0)])) X4 hx rfl rfl rfl (pc0 := 11) (pc' := 14) (same := false) rfl (hb hby d1_11) rfl (decide_eq_false fun q => (hc6 : ¬ (p0 = wDENIED)) (Value.ref.inj q)) (by decide) (by decide) ?_
        show Steps p.tables e below (T4.setTop (mkF m 14 #[.val (.ref p0)] [])) _
        refine XS.aloadN X4.here hx rfl (hb hby d1_14) rfl rfl ?_
        show Steps p.tables e below (T4.setTop (mkF m 15 #[.val (.ref p0)] [(.ref p0)])) _
        refine st7 _ ?_
        exact kt)
      by_cases hc9 : p0 = wREVOKED
      · obtain ⟨fs, hr, hrun, hended, hW, hsame⟩ := X7.leave (v := some (.int (1 : Int32))) (fun h => by rw [Bd.returns] at h; cases h)
        refine ⟨_, _, k8 _ ?_, hrun, hended, _, _, rfl, ?_, ⟨_, rfl⟩, hW, hsame.mono (by decide) (by decide)⟩
        · show Steps p.tables e below (T7.setTop (mkF m 18 #[.val (.ref p0)] [(.ref wREVOKED), (.ref p0)])) _
          refine Jvm.RoadKit.acmp (g := (mkF m 18 #[.val (.ref p0)] [(.ref wREVOKED), (.ref p0)])) X7 hx rfl rfl rfl (pc0 := 18) (pc' := 21) (same := true) rfl (hb hby d1_18) rfl (decide_eq_true (congrArg Value.ref (hc9 : p0 = wREVOKED))) (by decide) (by decide) ?_
          show Steps p.tables e below (T7.setTop (mkF m 21 #[.val (.ref p0)] [])) _
          refine XS.iconst X7.here hx rfl (hb hby d1_21) ?_
          show Steps p.tables e below (T7.setTop (mkF m 22 #[.val (.ref p0)] [(.int (1 : Int32))])) _
          refine XS.goto X7.here hx rfl (pc0 := 22) (pc' := 26) rfl (hb hby d1_22) (by decide) (by decide) ?_
          show Steps p.tables e below (T7.setTop (mkF m 26 #[.val (.ref p0)] [(.int (1 : Int32))])) _
          exact retN X7 hx (t := .boolean) Bd.returns (by simp) (hb hby d1_26) hr
        · show Q1 Z p0 wREQUESTING wEND wDENIED wREVOKED wONADAPTING wPREADAPTING wACCESSING h0 n0 _ T7.heap _
          rw [e7]
          exact ⟨by rw [f1, if_neg hc3, if_neg hc6, if_pos hc9], N0, rfl⟩
      · obtain ⟨fs, hr, hrun, hended, hW, hsame⟩ := X7.leave (v := some (.int (0 : Int32))) (fun h => by rw [Bd.returns] at h; cases h)
        refine ⟨_, _, k8 _ ?_, hrun, hended, _, _, rfl, ?_, ⟨_, rfl⟩, hW, hsame.mono (by decide) (by decide)⟩
        · show Steps p.tables e below (T7.setTop (mkF m 18 #[.val (.ref p0)] [(.ref wREVOKED), (.ref p0)])) _
          refine Jvm.RoadKit.acmp (g := (mkF m 18 #[.val (.ref p0)] [(.ref wREVOKED), (.ref p0)])) X7 hx rfl rfl rfl (pc0 := 18) (pc' := 25) (same := false) rfl (hb hby d1_18) rfl (decide_eq_false fun q => (hc9 : ¬ (p0 = wREVOKED)) (Value.ref.inj q)) (by decide) (by decide) ?_
          show Steps p.tables e below (T7.setTop (mkF m 25 #[.val (.ref p0)] [])) _
          refine XS.iconst X7.here hx rfl (hb hby d1_25) ?_
          show Steps p.tables e below (T7.setTop (mkF m 26 #[.val (.ref p0)] [(.int (0 : Int32))])) _
          exact retN X7 hx (t := .boolean) Bd.returns (by simp) (hb hby d1_26) hr
        · show Q1 Z p0 wREQUESTING wEND wDENIED wREVOKED wONADAPTING wPREADAPTING wACCESSING h0 n0 _ T7.heap _
          rw [e7]
          exact ⟨by rw [f1, if_neg hc3, if_neg hc6, if_neg hc9], N0, rfl⟩
theorem pd_0 : parseMethodDescriptor "()Z" = some ⟨[], some .boolean⟩ := by decide +kernel
theorem pn_1 : plainName "com/example/ongoing_grant/ongoinggrant/engine/StateIsFinalPinLaw" = true := by first | (simp [plainName, overriddenIn]; done) | decide +kernel
theorem ef_0 (m : MethodId) (p0 : Int32) : entryFrame m #[(.int p0)] maxLocals = mkF m 0 #[.val (.int p0), .unset, .unset, .unset] [] := by first | (simp [entryFrame, mkF, argsToLocals, Value.category, maxLocals]; done) | rfl
def Q0 (Z : State) (p0 : Int32) (wREQUESTING : Addr) (wEND : Addr) (wDENIED : Addr) (wREVOKED : Addr) (wONADAPTING : Addr) (wPREADAPTING : Addr) (wACCESSING : Addr) (h0 : Heap) (n0 : Nat) (v : Option Value) (h : Heap) (L : List Loc) : Prop := v = some (.int 1) ∧ Fr n0 L
set_option maxRecDepth 65536 in
set_option maxHeartbeats 40000000 in
theorem rm0 (l : Launch) (Z : State) (a0 : Array Value) (hw : ∀ d ∈ tables_1, d.before a0 Z = true) (ws : List Jvm.Cond) (p0 : Int32) (wREQUESTING : Addr) (wEND : Addr) (wDENIED : Addr) (wREVOKED : Addr) (wONADAPTING : Addr) (wPREADAPTING : Addr) (wACCESSING : Addr) (h0 : Heap) (n0 : Nat) (Z0 : n0 ≤ h0.size) (W0 : World Z h0 wREQUESTING wEND wDENIED wREVOKED wONADAPTING wPREADAPTING wACCESSING) :
    MetFree l x (head1 (Jvm.Cond.code x code maxLocals ret :: ws) room_1) (fun a U => a = #[(.int p0)] ∧ Z.Warmed39 U.vm ∧ U.heap = h0) (fun _ _ _ _ _ => True) (fun _ U o U' => ∃ v L, o = .returned v ∧ Q0 Z p0 wREQUESTING wEND wDENIED wREVOKED wONADAPTING wPREADAPTING wACCESSING h0 n0 v U'.heap L ∧ FrameEnd U o U' L room_1.cells room_1.slots) := by
  refine MetFree.of_bodySF (plainFor_of_name pn_1) hisR ?_
  intro p e s m args below meth c s₁ Bd hml0 hP hK
  obtain ⟨rfl, hZ, hh⟩ := hP
  have hx := Bd.exec
  have hby := Bd.bytes
  have hml : c.maxLocals = 4 := hml0
  have hown : s.vm.findClass "com/example/ongoing_grant/ongoinggrant/engine/StateIsFinalPinLaw" = some m.cls := findClass_of_methodNamed Bd.named
  have X0 : Stand p l e room_1 s m #[(.int p0)] below meth c s₁ [] 0 0 := Stand.of_body Bd
  have e0 : s₁.heap = h0 := by rw [← hh, Bd.state]; rfl
  have N0 := Fr.nil n0
  have W1 := W0
  obtain ⟨SREQUESTING, EREQUESTING, SEND, EEND, FREQUESTING_ordinal, FEND_ordinal, SDENIED, EDENIED, FDENIED_ordinal, SREVOKED, EREVOKED, FREVOKED_ordinal, SONADAPTING, EONADAPTING, FONADAPTING_ordinal, SPREADAPTING, EPREADAPTING, FPREADAPTING_ordinal, SACCESSING, EACCESSING, FACCESSING_ordinal, -⟩ := W1
  have pre0 : ∀ t, Steps p.tables e below (s₁.setTop (mkF m 0 #[.val (.int p0), .unset, .unset, .unset] [])) t → Steps p.tables e below (s₁.setTop (entryFrame m #[(.int p0)] maxLocals)) t := fun t k => castTop (ef_0 m p0) k
  obtain ⟨i10, hi10⟩ : ∃ z, z = ((p0 &&& (2147483647 : Int32)) % (7 : Int32)) := ⟨_, rfl⟩
  have k11 : ∀ t, Steps p.tables e below (s₁.setTop (mkF m 9 #[.val (.int p0), .val (.int i10), .unset, .unset] [(.int i10)])) t → Steps p.tables e below (s₁.setTop (entryFrame m #[(.int p0)] maxLocals)) t := fun t kt => pre0 t (by
    show Steps p.tables e below (s₁.setTop (mkF m 0 #[.val (.int p0), .unset, .unset, .unset] [])) _
    refine XS.iloadN X0.here hx rfl (hb hby at_0) rfl ?_
    show Steps p.tables e below (s₁.setTop (mkF m 1 #[.val (.int p0), .unset, .unset, .unset] [(.int p0)])) _
    refine X0.ldcInt hx hown (mvT hZ (hw _ (List.mem_of_getElem? (i := 0) rfl))) (g := (mkF m 1 #[.val (.int p0), .unset, .unset, .unset] [(.int p0)])) rfl (hb hby at_1) _ ?_
    show Steps p.tables e below (s₁.setTop (mkF m 3 #[.val (.int p0), .unset, .unset, .unset] [(.int (2147483647 : Int32)), (.int p0)])) _
    refine XS.iand X0.here hx rfl (hb hby at_3) rfl ?_
    show Steps p.tables e below (s₁.setTop (mkF m 4 #[.val (.int p0), .unset, .unset, .unset] [(.int (p0 &&& (2147483647 : Int32)))])) _
    refine XS.bipush X0.here hx rfl (hb hby at_4) ?_
    show Steps p.tables e below (s₁.setTop (mkF m 6 #[.val (.int p0), .unset, .unset, .unset] [(.int (7 : Int32)), (.int (p0 &&& (2147483647 : Int32)))])) _
    refine iremM X0 hx rfl (hb hby at_6) rfl (by decide) ?_
    rw [← hi10]
    show Steps p.tables e below (s₁.setTop (mkF m 7 #[.val (.int p0), .unset, .unset, .unset] [(.int i10)])) _
    refine XS.istoreN X0.here hx rfl (hb hby at_7) rfl (l' := #[.val (.int p0), .val (.int i10), .unset, .unset]) rfl ?_
    show Steps p.tables e below (s₁.setTop (mkF m 8 #[.val (.int p0), .val (.int i10), .unset, .unset] [])) _
    refine XS.iloadN X0.here hx rfl (hb hby at_8) rfl ?_
    exact kt)
  by_cases hc12 : i10 = (0 : Int32)
  · obtain ⟨T13, X13, e13, st13⟩ := getS2 X0 hx hZ hown (host := "") (Or.inl (hw _ (List.mem_of_getElem? (i := 1) rfl))) Via.refl e0 SREQUESTING (g := (mkF m 12 #[.val (.int p0), .val (.int i10), .unset, .unset] [])) rfl (hb hby at_12)
    obtain ⟨cq14, kq14, q14a, q14b, q14c⟩ := isOf hZ e13 EREQUESTING
    obtain ⟨_, _, ⟨T14, L14, k14, n14⟩, -, X14, ⟨Lc14, hQ14, l14, y14, z14⟩, st14⟩ := X13.virtualBack hx (y := (⟨"com/example/ongoing_grant/ongoinggrant/engine/State", "isFinal", "()Z"⟩ : MethodName)) (z := (⟨"com/example/ongoing_grant/ongoinggrant/engine/State", "isFinal", "()Z"⟩ : MethodName)) hown (mvT hZ (hw _ (List.mem_of_getElem? (i := 4) rfl))) (mvT hZ (hw _ (List.mem_of_getElem? (i := 5) rfl))) (notFace_of_selects (args := #[]) (mvT hZ (hw _ (List.mem_of_getElem? (i := 7) rfl)))) (mvT hZ (hw _ (List.mem_of_getElem? (i := 7) rfl))) (mvT hZ (hw _ (List.mem_of_getElem? (i := 6) rfl))) (by decide) (backOf (W := 0) (rm1 l Z a0 hw [] wREQUESTING wREQUESTING wEND wDENIED wREVOKED wONADAPTING wPREADAPTING wACCESSING h0 n0 Z0 W0 ) hZ (hw _ (List.mem_of_getElem? (i := 8) rfl)) (hw _ (List.mem_of_getElem? (i := 2) rfl)) (by decide) (by decide)) q14a q14c (g := (mkF m 98 #[.val (.int p0), .val (.int i10), .val (.ref wREQUESTING), .val (.int (0 : Int32))] [(.ref wREQUESTING)])) rfl (by rw [hml]; rfl) (Steps.refl _) (argsL := []) (rest := []) (lenOf pd_0 rfl) rfl (by show 2 * 0 + _ ≤ _; exact Nat.le_of_eq rfl) (hb hby at_98) (fun _ _ => ⟨rfl, e13, (by decide : 0 + 0 ≤ _), (by decide : 0 + 0 ≤ _)⟩)
    dsimp only [Pt.U, Pt.locs, Pt.cells, Pt.slots] at X14 l14 y14 z14 st14 hQ14
    subst l14 y14 z14
    unfold Q1 at hQ14
    have k15 : ∀ t, Steps p.tables e below (T13.setTop (mkF m 98 #[.val (.int p0), .val (.int i10), .val (.ref wREQUESTING), .val (.int (0 : Int32))] [(.ref wREQUESTING)])) t → Steps p.tables e below (s₁.setTop (entryFrame m #[(.int p0)] maxLocals)) t := fun t kt => k11 t (by
      show Steps p.tables e below (s₁.setTop (mkF m 9 #[.val (.int p0), .val (.int i10), .unset, .unset] [(.int i10)])) _
      refine XS.ifNo X0.here hx rfl (hb hby at_9) rfl ((if0 _ _).trans (teq (hc12 : i10 = (0 : Int32))).2) ?_
      show Steps p.tables e below (s₁.setTop (mkF m 12 #[.val (.int p0), .val (.int i10), .unset, .unset] [])) _
      refine st13 _ ?_
      show Steps p.tables e below (T13.setTop (mkF m 15 #[.val (.int p0), .val (.int i10), .unset, .unset] [(.ref wREQUESTING)])) _
      refine XS.astoreN X13.here hx rfl (hb hby at_15) rfl rfl (l' := #[.val (.int p0), .val (.int i10), .val (.ref wREQUESTING), .unset]) rfl ?_
      show Steps p.tables e below (T13.setTop (mkF m 16 #[.val (.int p0), .val (.int i10), .val (.ref wREQUESTING), .unset] [])) _
      refine XS.iconst X13.here hx rfl (hb hby at_16) ?_
      show Steps p.tables e below (T13.setTop (mkF m 17 #[.val (.int p0), .val (.int i10), .val (.ref wREQUESTING), .unset] [(.int (0 : Int32))])) _
      refine XS.istoreN X13.here hx rfl (hb hby at_17) rfl (l' := #[.val (.int p0), .val (.int i10), .val (.ref wREQUESTING), .val (.int (0 : Int32))]) rfl ?_
      show Steps p.tables e below (T13.setTop (mkF m 18 #[.val (.int p0), .val (.int i10), .val (.ref wREQUESTING), .val (.int (0 : Int32))] [])) _
      refine XS.goto X13.here hx rfl (pc0 := 18) (pc' := 97) rfl (hb hby at_18) (by decide) (by decide) ?_
      show Steps p.tables e below (T13.setTop (mkF m 97 #[.val (.int p0), .val (.int i10), .val (.ref wREQUESTING), .val (.int (0 : Int32))] [])) _
      refine XS.aloadN X13.here hx rfl (hb hby at_97) rfl rfl ?_
      exact kt)
    rw [((by rw [f1, if_neg ((Fld.ne FREQUESTING_ordinal FEND_ordinal (by decide)) : ¬ (wREQUESTING = wEND)), if_neg ((Fld.ne FREQUESTING_ordinal FDENIED_ordinal (by decide)) : ¬ (wREQUESTING = wDENIED)), if_neg ((Fld.ne FREQUESTING_ordinal FREVOKED_ordinal (by decide)) : ¬ (wREQUESTING = wREVOKED))]) : (f1 wREQUESTING wREQUESTING wEND wDENIED wREVOKED wONADAPTING wPREADAPTING wACCESSING) = (0 : Int32))] at hQ14
    obtain ⟨rfl, N14q, e14⟩ := hQ14
    have N14 := Fr.app N0 N14q
    obtain ⟨fs, hr, hrun, hended, hW, hsame⟩ := X14.leave (v := some (.int (1 : Int32))) (fun h => by rw [Bd.returns] at h; cases h)
    refine ⟨_, _, k15 _ ?_, hrun, hended, _, _, rfl, ?_, ⟨_, rfl⟩, hW, hsame.mono (by decide) (by decide)⟩
    · show Steps p.tables e below (T13.setTop (mkF m 98 #[.val (.int p0), .val (.int i10), .val (.ref wREQUESTING), .val (.int (0 : Int32))] [(.ref wREQUESTING)])) _
      refine st14.trans ?_
      show Steps p.tables e below (T14.setTop (mkF m 101 #[.val (.int p0), .val (.int i10), .val (.ref wREQUESTING), .val (.int (0 : Int32))] [(.int (0 : Int32))])) _
      refine XS.iloadN X14.here hx rfl (hb hby at_101) rfl ?_
      show Steps p.tables e below (T14.setTop (mkF m 102 #[.val (.int p0), .val (.int i10), .val (.ref wREQUESTING), .val (.int (0 : Int32))] [(.int (0 : Int32)), (.int (0 : Int32))])) _
      refine XS.icmpNo X14.here hx rfl (hb hby at_102) rfl (teq (rfl : (0 : Int32) = (0 : Int32))).2 ?_
      show Steps p.tables e below (T14.setTop (mkF m 105 #[.val (.int p0), .val (.int i10), .val (.ref wREQUESTING), .val (.int (0 : Int32))] [])) _
      refine XS.iconst X14.here hx rfl (hb hby at_105) ?_
      show Steps p.tables e below (T14.setTop (mkF m 106 #[.val (.int p0), .val (.int i10), .val (.ref wREQUESTING), .val (.int (0 : Int32))] [(.int (1 : Int32))])) _
      refine XS.goto X14.here hx rfl (pc0 := 106) (pc' := 110) rfl (hb hby at_106) (by decide) (by decide) ?_
      show Steps p.tables e below (T14.setTop (mkF m 110 #[.val (.int p0), .val (.int i10), .val (.ref wREQUESTING), .val (.int (0 : Int32))] [(.int (1 : Int32))])) _
      exact retN X14 hx (t := .boolean) Bd.returns (by simp) (hb hby at_110) hr
    · show Q0 Z p0 wREQUESTING wEND wDENIED wREVOKED wONADAPTING wPREADAPTING wACCESSING h0 n0 _ T14.heap _
      rw [e14]
      exact ⟨rfl, N14⟩
  · have k16 : ∀ t, Steps p.tables e below (s₁.setTop (mkF m 23 #[.val (.int p0), .val (.int i10), .unset, .unset] [(.int (1 : Int32)), (.int i10)])) t → Steps p.tables e below (s₁.setTop (entryFrame m #[(.int p0)] maxLocals)) t := fun t kt => k11 t (by
      show Steps p.tables e below (s₁.setTop (mkF m 9 #[.val (.int p0), .val (.int i10), .unset, .unset] [(.int i10)])) _
      refine XS.ifYes X0.here hx rfl (pc0 := 9) (pc' := 21) rfl (hb hby at_9) rfl ((if0 _ _).trans (feq (hc12 : ¬ (i10 = (0 : Int32)))).2) (by decide) (by decide) ?_
      show Steps p.tables e below (s₁.setTop (mkF m 21 #[.val (.int p0), .val (.int i10), .unset, .unset] [])) _
      refine XS.iloadN X0.here hx rfl (hb hby at_21) rfl ?_
      show Steps p.tables e below (s₁.setTop (mkF m 22 #[.val (.int p0), .val (.int i10), .unset, .unset] [(.int i10)])) _
      refine XS.iconst X0.here hx rfl (hb hby at_22) ?_
      exact kt)
    by_cases hc17 : i10 = (1 : Int32)
    · obtain ⟨T18, X18, e18, st18⟩ := getS2 X0 hx hZ hown (host := "") (Or.inl (hw _ (List.mem_of_getElem? (i := 22) rfl))) Via.refl e0 SACCESSING (g := (mkF m 26 #[.val (.int p0), .val (.int i10), .unset, .unset] [])) rfl (hb hby at_26)
      obtain ⟨cq19, kq19, q19a, q19b, q19c⟩ := isOf hZ e18 EACCESSING
      obtain ⟨_, _, ⟨T19, L19, k19, n19⟩, -, X19, ⟨Lc19, hQ19, l19, y19, z19⟩, st19⟩ := X18.virtualBack hx (y := (⟨"com/example/ongoing_grant/ongoinggrant/engine/State", "isFinal", "()Z"⟩ : MethodName)) (z := (⟨"com/example/ongoing_grant/ongoinggrant/engine/State", "isFinal", "()Z"⟩ : MethodName)) hown (mvT hZ (hw _ (List.mem_of_getElem? (i := 4) rfl))) (mvT hZ (hw _ (List.mem_of_getElem? (i := 5) rfl))) (notFace_of_selects (args := #[]) (mvT hZ (hw _ (List.mem_of_getElem? (i := 7) rfl)))) (mvT hZ (hw _ (List.mem_of_getElem? (i := 7) rfl))) (mvT hZ (hw _ (List.mem_of_getElem? (i := 6) rfl))) (by decide) (backOf (W := 0) (rm1 l Z a0 hw [] wACCESSING wREQUESTING wEND wDENIED wREVOKED wONADAPTING wPREADAPTING wACCESSING h0 n0 Z0 W0 ) hZ (hw _ (List.mem_of_getElem? (i := 8) rfl)) (hw _ (List.mem_of_getElem? (i := 2) rfl)) (by decide) (by decide)) q19a q19c (g := (mkF m 98 #[.val (.int p0), .val (.int i10), .val (.ref wACCESSING), .val (.int (0 : Int32))] [(.ref wACCESSING)])) rfl (by rw [hml]; rfl) (Steps.refl _) (argsL := []) (rest := []) (lenOf pd_0 rfl) rfl (by show 2 * 0 + _ ≤ _; exact Nat.le_of_eq rfl) (hb hby at_98) (fun _ _ => ⟨rfl, e18, (by decide : 0 + 0 ≤ _), (by decide : 0 + 0 ≤ _)⟩)
      dsimp only [Pt.U, Pt.locs, Pt.cells, Pt.slots] at X19 l19 y19 z19 st19 hQ19
      subst l19 y19 z19
      unfold Q1 at hQ19
      have k20 : ∀ t, Steps p.tables e below (T18.setTop (mkF m 98 #[.val (.int p0), .val (.int i10), .val (.ref wACCESSING), .val (.int (0 : Int32))] [(.ref wACCESSING)])) t → Steps p.tables e below (s₁.setTop (entryFrame m #[(.int p0)] maxLocals)) t := fun t kt => k16 t (by
        show Steps p.tables e below (s₁.setTop (mkF m 23 #[.val (.int p0), .val (.int i10), .unset, .unset] [(.int (1 : Int32)), (.int i10)])) _
        refine XS.icmpNo X0.here hx rfl (hb hby at_23) rfl (teq (hc17 : i10 = (1 : Int32))).2 ?_
        show Steps p.tables e below (s₁.setTop (mkF m 26 #[.val (.int p0), .val (.int i10), .unset, .unset] [])) _
        refine st18 _ ?_
        show Steps p.tables e below (T18.setTop (mkF m 29 #[.val (.int p0), .val (.int i10), .unset, .unset] [(.ref wACCESSING)])) _
        refine XS.astoreN X18.here hx rfl (hb hby at_29) rfl rfl (l' := #[.val (.int p0), .val (.int i10), .val (.ref wACCESSING), .unset]) rfl ?_
        show Steps p.tables e below (T18.setTop (mkF m 30 #[.val (.int p0), .val (.int i10), .val (.ref wACCESSING), .unset] [])) _
        refine XS.iconst X18.here hx rfl (hb hby at_30) ?_
        show Steps p.tables e below (T18.setTop (mkF m 31 #[.val (.int p0), .val (.int i10), .val (.ref wACCESSING), .unset] [(.int (0 : Int32))])) _
        refine XS.istoreN X18.here hx rfl (hb hby at_31) rfl (l' := #[.val (.int p0), .val (.int i10), .val (.ref wACCESSING), .val (.int (0 : Int32))]) rfl ?_
        show Steps p.tables e below (T18.setTop (mkF m 32 #[.val (.int p0), .val (.int i10), .val (.ref wACCESSING), .val (.int (0 : Int32))] [])) _
        refine XS.goto X18.here hx rfl (pc0 := 32) (pc' := 97) rfl (hb hby at_32) (by decide) (by decide) ?_
        show Steps p.tables e below (T18.setTop (mkF m 97 #[.val (.int p0), .val (.int i10), .val (.ref wACCESSING), .val (.int (0 : Int32))] [])) _
        refine XS.aloadN X18.here hx rfl (hb hby at_97) rfl rfl ?_
        exact kt)
      rw [((by rw [f1, if_neg ((Fld.ne FACCESSING_ordinal FEND_ordinal (by decide)) : ¬ (wACCESSING = wEND)), if_neg ((Fld.ne FACCESSING_ordinal FDENIED_ordinal (by decide)) : ¬ (wACCESSING = wDENIED)), if_neg ((Fld.ne FACCESSING_ordinal FREVOKED_ordinal (by decide)) : ¬ (wACCESSING = wREVOKED))]) : (f1 wACCESSING wREQUESTING wEND wDENIED wREVOKED wONADAPTING wPREADAPTING wACCESSING) = (0 : Int32))] at hQ19
      obtain ⟨rfl, N19q, e19⟩ := hQ19
      have N19 := Fr.app N0 N19q
      obtain ⟨fs, hr, hrun, hended, hW, hsame⟩ := X19.leave (v := some (.int (1 : Int32))) (fun h => by rw [Bd.returns] at h; cases h)
      refine ⟨_, _, k20 _ ?_, hrun, hended, _, _, rfl, ?_, ⟨_, rfl⟩, hW, hsame.mono (by decide) (by decide)⟩
      · show Steps p.tables e below (T18.setTop (mkF m 98 #[.val (.int p0), .val (.int i10), .val (.ref wACCESSING), .val (.int (0 : Int32))] [(.ref wACCESSING)])) _
        refine st19.trans ?_
        show Steps p.tables e below (T19.setTop (mkF m 101 #[.val (.int p0), .val (.int i10), .val (.ref wACCESSING), .val (.int (0 : Int32))] [(.int (0 : Int32))])) _
        refine XS.iloadN X19.here hx rfl (hb hby at_101) rfl ?_
        show Steps p.tables e below (T19.setTop (mkF m 102 #[.val (.int p0), .val (.int i10), .val (.ref wACCESSING), .val (.int (0 : Int32))] [(.int (0 : Int32)), (.int (0 : Int32))])) _
        refine XS.icmpNo X19.here hx rfl (hb hby at_102) rfl (teq (rfl : (0 : Int32) = (0 : Int32))).2 ?_
        show Steps p.tables e below (T19.setTop (mkF m 105 #[.val (.int p0), .val (.int i10), .val (.ref wACCESSING), .val (.int (0 : Int32))] [])) _
        refine XS.iconst X19.here hx rfl (hb hby at_105) ?_
        show Steps p.tables e below (T19.setTop (mkF m 106 #[.val (.int p0), .val (.int i10), .val (.ref wACCESSING), .val (.int (0 : Int32))] [(.int (1 : Int32))])) _
        refine XS.goto X19.here hx rfl (pc0 := 106) (pc' := 110) rfl (hb hby at_106) (by decide) (by decide) ?_
        show Steps p.tables e below (T19.setTop (mkF m 110 #[.val (.int p0), .val (.int i10), .val (.ref wACCESSING), .val (.int (0 : Int32))] [(.int (1 : Int32))])) _
        exact retN X19 hx (t := .boolean) Bd.returns (by simp) (hb hby at_110) hr
      · show Q0 Z p0 wREQUESTING wEND wDENIED wREVOKED wONADAPTING wPREADAPTING wACCESSING h0 n0 _ T19.heap _
        rw [e19]
        exact ⟨rfl, N19⟩
    · have k21 : ∀ t, Steps p.tables e below (s₁.setTop (mkF m 37 #[.val (.int p0), .val (.int i10), .unset, .unset] [(.int (2 : Int32)), (.int i10)])) t → Steps p.tables e below (s₁.setTop (entryFrame m #[(.int p0)] maxLocals)) t := fun t kt => k16 t (by
        show Steps p.tables e below (s₁.setTop (mkF m 23 #[.val (.int p0), .val (.int i10), .unset, .unset] [(.int (1 : Int32)), (.int i10)])) _
        refine XS.icmpYes X0.here hx rfl (pc0 := 23) (pc' := 35) rfl (hb hby at_23) rfl (feq (hc17 : ¬ (i10 = (1 : Int32)))).2 (by decide) (by decide) ?_
        show Steps p.tables e below (s₁.setTop (mkF m 35 #[.val (.int p0), .val (.int i10), .unset, .unset] [])) _
        refine XS.iloadN X0.here hx rfl (hb hby at_35) rfl ?_
        show Steps p.tables e below (s₁.setTop (mkF m 36 #[.val (.int p0), .val (.int i10), .unset, .unset] [(.int i10)])) _
        refine XS.iconst X0.here hx rfl (hb hby at_36) ?_
        exact kt)
      by_cases hc22 : i10 = (2 : Int32)
      · obtain ⟨T23, X23, e23, st23⟩ := getS2 X0 hx hZ hown (host := "") (Or.inl (hw _ (List.mem_of_getElem? (i := 20) rfl))) Via.refl e0 SPREADAPTING (g := (mkF m 40 #[.val (.int p0), .val (.int i10), .unset, .unset] [])) rfl (hb hby at_40)
        obtain ⟨cq24, kq24, q24a, q24b, q24c⟩ := isOf hZ e23 EPREADAPTING
        obtain ⟨_, _, ⟨T24, L24, k24, n24⟩, -, X24, ⟨Lc24, hQ24, l24, y24, z24⟩, st24⟩ := X23.virtualBack hx (y := (⟨"com/example/ongoing_grant/ongoinggrant/engine/State", "isFinal", "()Z"⟩ : MethodName)) (z := (⟨"com/example/ongoing_grant/ongoinggrant/engine/State", "isFinal", "()Z"⟩ : MethodName)) hown (mvT hZ (hw _ (List.mem_of_getElem? (i := 4) rfl))) (mvT hZ (hw _ (List.mem_of_getElem? (i := 5) rfl))) (notFace_of_selects (args := #[]) (mvT hZ (hw _ (List.mem_of_getElem? (i := 7) rfl)))) (mvT hZ (hw _ (List.mem_of_getElem? (i := 7) rfl))) (mvT hZ (hw _ (List.mem_of_getElem? (i := 6) rfl))) (by decide) (backOf (W := 0) (rm1 l Z a0 hw [] wPREADAPTING wREQUESTING wEND wDENIED wREVOKED wONADAPTING wPREADAPTING wACCESSING h0 n0 Z0 W0 ) hZ (hw _ (List.mem_of_getElem? (i := 8) rfl)) (hw _ (List.mem_of_getElem? (i := 2) rfl)) (by decide) (by decide)) q24a q24c (g := (mkF m 98 #[.val (.int p0), .val (.int i10), .val (.ref wPREADAPTING), .val (.int (0 : Int32))] [(.ref wPREADAPTING)])) rfl (by rw [hml]; rfl) (Steps.refl _) (argsL := []) (rest := []) (lenOf pd_0 rfl) rfl (by show 2 * 0 + _ ≤ _; exact Nat.le_of_eq rfl) (hb hby at_98) (fun _ _ => ⟨rfl, e23, (by decide : 0 + 0 ≤ _), (by decide : 0 + 0 ≤ _)⟩)
        dsimp only [Pt.U, Pt.locs, Pt.cells, Pt.slots] at X24 l24 y24 z24 st24 hQ24
        subst l24 y24 z24
        unfold Q1 at hQ24
        have k25 : ∀ t, Steps p.tables e below (T23.setTop (mkF m 98 #[.val (.int p0), .val (.int i10), .val (.ref wPREADAPTING), .val (.int (0 : Int32))] [(.ref wPREADAPTING)])) t → Steps p.tables e below (s₁.setTop (entryFrame m #[(.int p0)] maxLocals)) t := fun t kt => k21 t (by
          show Steps p.tables e below (s₁.setTop (mkF m 37 #[.val (.int p0), .val (.int i10), .unset, .unset] [(.int (2 : Int32)), (.int i10)])) _
          refine XS.icmpNo X0.here hx rfl (hb hby at_37) rfl (teq (hc22 : i10 = (2 : Int32))).2 ?_
          show Steps p.tables e below (s₁.setTop (mkF m 40 #[.val (.int p0), .val (.int i10), .unset, .unset] [])) _
          refine st23 _ ?_
          show Steps p.tables e below (T23.setTop (mkF m 43 #[.val (.int p0), .val (.int i10), .unset, .unset] [(.ref wPREADAPTING)])) _
          refine XS.astoreN X23.here hx rfl (hb hby at_43) rfl rfl (l' := #[.val (.int p0), .val (.int i10), .val (.ref wPREADAPTING), .unset]) rfl ?_
          show Steps p.tables e below (T23.setTop (mkF m 44 #[.val (.int p0), .val (.int i10), .val (.ref wPREADAPTING), .unset] [])) _
          refine XS.iconst X23.here hx rfl (hb hby at_44) ?_
          show Steps p.tables e below (T23.setTop (mkF m 45 #[.val (.int p0), .val (.int i10), .val (.ref wPREADAPTING), .unset] [(.int (0 : Int32))])) _
          refine XS.istoreN X23.here hx rfl (hb hby at_45) rfl (l' := #[.val (.int p0), .val (.int i10), .val (.ref wPREADAPTING), .val (.int (0 : Int32))]) rfl ?_
          show Steps p.tables e below (T23.setTop (mkF m 46 #[.val (.int p0), .val (.int i10), .val (.ref wPREADAPTING), .val (.int (0 : Int32))] [])) _
          refine XS.goto X23.here hx rfl (pc0 := 46) (pc' := 97) rfl (hb hby at_46) (by decide) (by decide) ?_
          show Steps p.tables e below (T23.setTop (mkF m 97 #[.val (.int p0), .val (.int i10), .val (.ref wPREADAPTING), .val (.int (0 : Int32))] [])) _
          refine XS.aloadN X23.here hx rfl (hb hby at_97) rfl rfl ?_
          exact kt)
        rw [((by rw [f1, if_neg ((Fld.ne FPREADAPTING_ordinal FEND_ordinal (by decide)) : ¬ (wPREADAPTING = wEND)), if_neg ((Fld.ne FPREADAPTING_ordinal FDENIED_ordinal (by decide)) : ¬ (wPREADAPTING = wDENIED)), if_neg ((Fld.ne FPREADAPTING_ordinal FREVOKED_ordinal (by decide)) : ¬ (wPREADAPTING = wREVOKED))]) : (f1 wPREADAPTING wREQUESTING wEND wDENIED wREVOKED wONADAPTING wPREADAPTING wACCESSING) = (0 : Int32))] at hQ24
        obtain ⟨rfl, N24q, e24⟩ := hQ24
        have N24 := Fr.app N0 N24q
        obtain ⟨fs, hr, hrun, hended, hW, hsame⟩ := X24.leave (v := some (.int (1 : Int32))) (fun h => by rw [Bd.returns] at h; cases h)
        refine ⟨_, _, k25 _ ?_, hrun, hended, _, _, rfl, ?_, ⟨_, rfl⟩, hW, hsame.mono (by decide) (by decide)⟩
        · show Steps p.tables e below (T23.setTop (mkF m 98 #[.val (.int p0), .val (.int i10), .val (.ref wPREADAPTING), .val (.int (0 : Int32))] [(.ref wPREADAPTING)])) _
          refine st24.trans ?_
          show Steps p.tables e below (T24.setTop (mkF m 101 #[.val (.int p0), .val (.int i10), .val (.ref wPREADAPTING), .val (.int (0 : Int32))] [(.int (0 : Int32))])) _
          refine XS.iloadN X24.here hx rfl (hb hby at_101) rfl ?_
          show Steps p.tables e below (T24.setTop (mkF m 102 #[.val (.int p0), .val (.int i10), .val (.ref wPREADAPTING), .val (.int (0 : Int32))] [(.int (0 : Int32)), (.int (0 : Int32))])) _
          refine XS.icmpNo X24.here hx rfl (hb hby at_102) rfl (teq (rfl : (0 : Int32) = (0 : Int32))).2 ?_
          show Steps p.tables e below (T24.setTop (mkF m 105 #[.val (.int p0), .val (.int i10), .val (.ref wPREADAPTING), .val (.int (0 : Int32))] [])) _
          refine XS.iconst X24.here hx rfl (hb hby at_105) ?_
          show Steps p.tables e below (T24.setTop (mkF m 106 #[.val (.int p0), .val (.int i10), .val (.ref wPREADAPTING), .val (.int (0 : Int32))] [(.int (1 : Int32))])) _
          refine XS.goto X24.here hx rfl (pc0 := 106) (pc' := 110) rfl (hb hby at_106) (by decide) (by decide) ?_
          show Steps p.tables e below (T24.setTop (mkF m 110 #[.val (.int p0), .val (.int i10), .val (.ref wPREADAPTING), .val (.int (0 : Int32))] [(.int (1 : Int32))])) _
          exact retN X24 hx (t := .boolean) Bd.returns (by simp) (hb hby at_110) hr
        · show Q0 Z p0 wREQUESTING wEND wDENIED wREVOKED wONADAPTING wPREADAPTING wACCESSING h0 n0 _ T24.heap _
          rw [e24]
          exact ⟨rfl, N24⟩
      · have k26 : ∀ t, Steps p.tables e below (s₁.setTop (mkF m 51 #[.val (.int p0), .val (.int i10), .unset, .unset] [(.int (3 : Int32)), (.int i10)])) t → Steps p.tables e below (s₁.setTop (entryFrame m #[(.int p0)] maxLocals)) t := fun t kt => k21 t (by
          show Steps p.tables e below (s₁.setTop (mkF m 37 #[.val (.int p0), .val (.int i10), .unset, .unset] [(.int (2 : Int32)), (.int i10)])) _
          refine XS.icmpYes X0.here hx rfl (pc0 := 37) (pc' := 49) rfl (hb hby at_37) rfl (feq (hc22 : ¬ (i10 = (2 : Int32)))).2 (by decide) (by decide) ?_
          show Steps p.tables e below (s₁.setTop (mkF m 49 #[.val (.int p0), .val (.int i10), .unset, .unset] [])) _
          refine XS.iloadN X0.here hx rfl (hb hby at_49) rfl ?_
          show Steps p.tables e below (s₁.setTop (mkF m 50 #[.val (.int p0), .val (.int i10), .unset, .unset] [(.int i10)])) _
          refine XS.iconst X0.here hx rfl (hb hby at_50) ?_
          exact kt)
        by_cases hc27 : i10 = (3 : Int32)
        · obtain ⟨T28, X28, e28, st28⟩ := getS2 X0 hx hZ hown (host := "") (Or.inl (hw _ (List.mem_of_getElem? (i := 15) rfl))) Via.refl e0 SONADAPTING (g := (mkF m 54 #[.val (.int p0), .val (.int i10), .unset, .unset] [])) rfl (hb hby at_54)
          obtain ⟨cq29, kq29, q29a, q29b, q29c⟩ := isOf hZ e28 EONADAPTING
          obtain ⟨_, _, ⟨T29, L29, k29, n29⟩, -, X29, ⟨Lc29, hQ29, l29, y29, z29⟩, st29⟩ := X28.virtualBack hx (y := (⟨"com/example/ongoing_grant/ongoinggrant/engine/State", "isFinal", "()Z"⟩ : MethodName)) (z := (⟨"com/example/ongoing_grant/ongoinggrant/engine/State", "isFinal", "()Z"⟩ : MethodName)) hown (mvT hZ (hw _ (List.mem_of_getElem? (i := 4) rfl))) (mvT hZ (hw _ (List.mem_of_getElem? (i := 5) rfl))) (notFace_of_selects (args := #[]) (mvT hZ (hw _ (List.mem_of_getElem? (i := 7) rfl)))) (mvT hZ (hw _ (List.mem_of_getElem? (i := 7) rfl))) (mvT hZ (hw _ (List.mem_of_getElem? (i := 6) rfl))) (by decide) (backOf (W := 0) (rm1 l Z a0 hw [] wONADAPTING wREQUESTING wEND wDENIED wREVOKED wONADAPTING wPREADAPTING wACCESSING h0 n0 Z0 W0 ) hZ (hw _ (List.mem_of_getElem? (i := 8) rfl)) (hw _ (List.mem_of_getElem? (i := 2) rfl)) (by decide) (by decide)) q29a q29c (g := (mkF m 98 #[.val (.int p0), .val (.int i10), .val (.ref wONADAPTING), .val (.int (0 : Int32))] [(.ref wONADAPTING)])) rfl (by rw [hml]; rfl) (Steps.refl _) (argsL := []) (rest := []) (lenOf pd_0 rfl) rfl (by show 2 * 0 + _ ≤ _; exact Nat.le_of_eq rfl) (hb hby at_98) (fun _ _ => ⟨rfl, e28, (by decide : 0 + 0 ≤ _), (by decide : 0 + 0 ≤ _)⟩)
          dsimp only [Pt.U, Pt.locs, Pt.cells, Pt.slots] at X29 l29 y29 z29 st29 hQ29
          subst l29 y29 z29
          unfold Q1 at hQ29
          have k30 : ∀ t, Steps p.tables e below (T28.setTop (mkF m 98 #[.val (.int p0), .val (.int i10), .val (.ref wONADAPTING), .val (.int (0 : Int32))] [(.ref wONADAPTING)])) t → Steps p.tables e below (s₁.setTop (entryFrame m #[(.int p0)] maxLocals)) t := fun t kt => k26 t (by
            show Steps p.tables e below (s₁.setTop (mkF m 51 #[.val (.int p0), .val (.int i10), .unset, .unset] [(.int (3 : Int32)), (.int i10)])) _
            refine XS.icmpNo X0.here hx rfl (hb hby at_51) rfl (teq (hc27 : i10 = (3 : Int32))).2 ?_
            show Steps p.tables e below (s₁.setTop (mkF m 54 #[.val (.int p0), .val (.int i10), .unset, .unset] [])) _
            refine st28 _ ?_
            show Steps p.tables e below (T28.setTop (mkF m 57 #[.val (.int p0), .val (.int i10), .unset, .unset] [(.ref wONADAPTING)])) _
            refine XS.astoreN X28.here hx rfl (hb hby at_57) rfl rfl (l' := #[.val (.int p0), .val (.int i10), .val (.ref wONADAPTING), .unset]) rfl ?_
            show Steps p.tables e below (T28.setTop (mkF m 58 #[.val (.int p0), .val (.int i10), .val (.ref wONADAPTING), .unset] [])) _
            refine XS.iconst X28.here hx rfl (hb hby at_58) ?_
            show Steps p.tables e below (T28.setTop (mkF m 59 #[.val (.int p0), .val (.int i10), .val (.ref wONADAPTING), .unset] [(.int (0 : Int32))])) _
            refine XS.istoreN X28.here hx rfl (hb hby at_59) rfl (l' := #[.val (.int p0), .val (.int i10), .val (.ref wONADAPTING), .val (.int (0 : Int32))]) rfl ?_
            show Steps p.tables e below (T28.setTop (mkF m 60 #[.val (.int p0), .val (.int i10), .val (.ref wONADAPTING), .val (.int (0 : Int32))] [])) _
            refine XS.goto X28.here hx rfl (pc0 := 60) (pc' := 97) rfl (hb hby at_60) (by decide) (by decide) ?_
            show Steps p.tables e below (T28.setTop (mkF m 97 #[.val (.int p0), .val (.int i10), .val (.ref wONADAPTING), .val (.int (0 : Int32))] [])) _
            refine XS.aloadN X28.here hx rfl (hb hby at_97) rfl rfl ?_
            exact kt)
          rw [((by rw [f1, if_neg ((Fld.ne FONADAPTING_ordinal FEND_ordinal (by decide)) : ¬ (wONADAPTING = wEND)), if_neg ((Fld.ne FONADAPTING_ordinal FDENIED_ordinal (by decide)) : ¬ (wONADAPTING = wDENIED)), if_neg ((Fld.ne FONADAPTING_ordinal FREVOKED_ordinal (by decide)) : ¬ (wONADAPTING = wREVOKED))]) : (f1 wONADAPTING wREQUESTING wEND wDENIED wREVOKED wONADAPTING wPREADAPTING wACCESSING) = (0 : Int32))] at hQ29
          obtain ⟨rfl, N29q, e29⟩ := hQ29
          have N29 := Fr.app N0 N29q
          obtain ⟨fs, hr, hrun, hended, hW, hsame⟩ := X29.leave (v := some (.int (1 : Int32))) (fun h => by rw [Bd.returns] at h; cases h)
          refine ⟨_, _, k30 _ ?_, hrun, hended, _, _, rfl, ?_, ⟨_, rfl⟩, hW, hsame.mono (by decide) (by decide)⟩
          · show Steps p.tables e below (T28.setTop (mkF m 98 #[.val (.int p0), .val (.int i10), .val (.ref wONADAPTING), .val (.int (0 : Int32))] [(.ref wONADAPTING)])) _
            refine st29.trans ?_
            show Steps p.tables e below (T29.setTop (mkF m 101 #[.val (.int p0), .val (.int i10), .val (.ref wONADAPTING), .val (.int (0 : Int32))] [(.int (0 : Int32))])) _
            refine XS.iloadN X29.here hx rfl (hb hby at_101) rfl ?_
            show Steps p.tables e below (T29.setTop (mkF m 102 #[.val (.int p0), .val (.int i10), .val (.ref wONADAPTING), .val (.int (0 : Int32))] [(.int (0 : Int32)), (.int (0 : Int32))])) _
            refine XS.icmpNo X29.here hx rfl (hb hby at_102) rfl (teq (rfl : (0 : Int32) = (0 : Int32))).2 ?_
            show Steps p.tables e below (T29.setTop (mkF m 105 #[.val (.int p0), .val (.int i10), .val (.ref wONADAPTING), .val (.int (0 : Int32))] [])) _
            refine XS.iconst X29.here hx rfl (hb hby at_105) ?_
            show Steps p.tables e below (T29.setTop (mkF m 106 #[.val (.int p0), .val (.int i10), .val (.ref wONADAPTING), .val (.int (0 : Int32))] [(.int (1 : Int32))])) _
            refine XS.goto X29.here hx rfl (pc0 := 106) (pc' := 110) rfl (hb hby at_106) (by decide) (by decide) ?_
            show Steps p.tables e below (T29.setTop (mkF m 110 #[.val (.int p0), .val (.int i10), .val (.ref wONADAPTING), .val (.int (0 : Int32))] [(.int (1 : Int32))])) _
            exact retN X29 hx (t := .boolean) Bd.returns (by simp) (hb hby at_110) hr
          · show Q0 Z p0 wREQUESTING wEND wDENIED wREVOKED wONADAPTING wPREADAPTING wACCESSING h0 n0 _ T29.heap _
            rw [e29]
            exact ⟨rfl, N29⟩
        · have k31 : ∀ t, Steps p.tables e below (s₁.setTop (mkF m 65 #[.val (.int p0), .val (.int i10), .unset, .unset] [(.int (4 : Int32)), (.int i10)])) t → Steps p.tables e below (s₁.setTop (entryFrame m #[(.int p0)] maxLocals)) t := fun t kt => k26 t (by
            show Steps p.tables e below (s₁.setTop (mkF m 51 #[.val (.int p0), .val (.int i10), .unset, .unset] [(.int (3 : Int32)), (.int i10)])) _
            refine XS.icmpYes X0.here hx rfl (pc0 := 51) (pc' := 63) rfl (hb hby at_51) rfl (feq (hc27 : ¬ (i10 = (3 : Int32)))).2 (by decide) (by decide) ?_
            show Steps p.tables e below (s₁.setTop (mkF m 63 #[.val (.int p0), .val (.int i10), .unset, .unset] [])) _
            refine XS.iloadN X0.here hx rfl (hb hby at_63) rfl ?_
            show Steps p.tables e below (s₁.setTop (mkF m 64 #[.val (.int p0), .val (.int i10), .unset, .unset] [(.int i10)])) _
            refine XS.iconst X0.here hx rfl (hb hby at_64) ?_
            exact kt)
          by_cases hc32 : i10 = (4 : Int32)
          · obtain ⟨T33, X33, e33, st33⟩ := getS2 X0 hx hZ hown (host := "") (Or.inl (hw _ (List.mem_of_getElem? (i := 19) rfl))) Via.refl e0 SEND (g := (mkF m 68 #[.val (.int p0), .val (.int i10), .unset, .unset] [])) rfl (hb hby at_68)
            obtain ⟨cq34, kq34, q34a, q34b, q34c⟩ := isOf hZ e33 EEND
            obtain ⟨_, _, ⟨T34, L34, k34, n34⟩, -, X34, ⟨Lc34, hQ34, l34, y34, z34⟩, st34⟩ := X33.virtualBack hx (y := (⟨"com/example/ongoing_grant/ongoinggrant/engine/State", "isFinal", "()Z"⟩ : MethodName)) (z := (⟨"com/example/ongoing_grant/ongoinggrant/engine/State", "isFinal", "()Z"⟩ : MethodName)) hown (mvT hZ (hw _ (List.mem_of_getElem? (i := 4) rfl))) (mvT hZ (hw _ (List.mem_of_getElem? (i := 5) rfl))) (notFace_of_selects (args := #[]) (mvT hZ (hw _ (List.mem_of_getElem? (i := 7) rfl)))) (mvT hZ (hw _ (List.mem_of_getElem? (i := 7) rfl))) (mvT hZ (hw _ (List.mem_of_getElem? (i := 6) rfl))) (by decide) (backOf (W := 0) (rm1 l Z a0 hw [] wEND wREQUESTING wEND wDENIED wREVOKED wONADAPTING wPREADAPTING wACCESSING h0 n0 Z0 W0 ) hZ (hw _ (List.mem_of_getElem? (i := 8) rfl)) (hw _ (List.mem_of_getElem? (i := 2) rfl)) (by decide) (by decide)) q34a q34c (g := (mkF m 98 #[.val (.int p0), .val (.int i10), .val (.ref wEND), .val (.int (1 : Int32))] [(.ref wEND)])) rfl (by rw [hml]; rfl) (Steps.refl _) (argsL := []) (rest := []) (lenOf pd_0 rfl) rfl (by show 2 * 0 + _ ≤ _; exact Nat.le_of_eq rfl) (hb hby at_98) (fun _ _ => ⟨rfl, e33, (by decide : 0 + 0 ≤ _), (by decide : 0 + 0 ≤ _)⟩)
            dsimp only [Pt.U, Pt.locs, Pt.cells, Pt.slots] at X34 l34 y34 z34 st34 hQ34
            subst l34 y34 z34
            unfold Q1 at hQ34
            have k35 : ∀ t, Steps p.tables e below (T33.setTop (mkF m 98 #[.val (.int p0), .val (.int i10), .val (.ref wEND), .val (.int (1 : Int32))] [(.ref wEND)])) t → Steps p.tables e below (s₁.setTop (entryFrame m #[(.int p0)] maxLocals)) t := fun t kt => k31 t (by
              show Steps p.tables e below (s₁.setTop (mkF m 65 #[.val (.int p0), .val (.int i10), .unset, .unset] [(.int (4 : Int32)), (.int i10)])) _
              refine XS.icmpNo X0.here hx rfl (hb hby at_65) rfl (teq (hc32 : i10 = (4 : Int32))).2 ?_
              show Steps p.tables e below (s₁.setTop (mkF m 68 #[.val (.int p0), .val (.int i10), .unset, .unset] [])) _
              refine st33 _ ?_
              show Steps p.tables e below (T33.setTop (mkF m 71 #[.val (.int p0), .val (.int i10), .unset, .unset] [(.ref wEND)])) _
              refine XS.astoreN X33.here hx rfl (hb hby at_71) rfl rfl (l' := #[.val (.int p0), .val (.int i10), .val (.ref wEND), .unset]) rfl ?_
              show Steps p.tables e below (T33.setTop (mkF m 72 #[.val (.int p0), .val (.int i10), .val (.ref wEND), .unset] [])) _
              refine XS.iconst X33.here hx rfl (hb hby at_72) ?_
              show Steps p.tables e below (T33.setTop (mkF m 73 #[.val (.int p0), .val (.int i10), .val (.ref wEND), .unset] [(.int (1 : Int32))])) _
              refine XS.istoreN X33.here hx rfl (hb hby at_73) rfl (l' := #[.val (.int p0), .val (.int i10), .val (.ref wEND), .val (.int (1 : Int32))]) rfl ?_
              show Steps p.tables e below (T33.setTop (mkF m 74 #[.val (.int p0), .val (.int i10), .val (.ref wEND), .val (.int (1 : Int32))] [])) _
              refine XS.goto X33.here hx rfl (pc0 := 74) (pc' := 97) rfl (hb hby at_74) (by decide) (by decide) ?_
              show Steps p.tables e below (T33.setTop (mkF m 97 #[.val (.int p0), .val (.int i10), .val (.ref wEND), .val (.int (1 : Int32))] [])) _
              refine XS.aloadN X33.here hx rfl (hb hby at_97) rfl rfl ?_
              exact kt)
            rw [((by rw [f1, if_pos (rfl : wEND = wEND)]) : (f1 wEND wREQUESTING wEND wDENIED wREVOKED wONADAPTING wPREADAPTING wACCESSING) = (1 : Int32))] at hQ34
            obtain ⟨rfl, N34q, e34⟩ := hQ34
            have N34 := Fr.app N0 N34q
            obtain ⟨fs, hr, hrun, hended, hW, hsame⟩ := X34.leave (v := some (.int (1 : Int32))) (fun h => by rw [Bd.returns] at h; cases h)
            refine ⟨_, _, k35 _ ?_, hrun, hended, _, _, rfl, ?_, ⟨_, rfl⟩, hW, hsame.mono (by decide) (by decide)⟩
            · show Steps p.tables e below (T33.setTop (mkF m 98 #[.val (.int p0), .val (.int i10), .val (.ref wEND), .val (.int (1 : Int32))] [(.ref wEND)])) _
              refine st34.trans ?_
              show Steps p.tables e below (T34.setTop (mkF m 101 #[.val (.int p0), .val (.int i10), .val (.ref wEND), .val (.int (1 : Int32))] [(.int (1 : Int32))])) _
              refine XS.iloadN X34.here hx rfl (hb hby at_101) rfl ?_
              show Steps p.tables e below (T34.setTop (mkF m 102 #[.val (.int p0), .val (.int i10), .val (.ref wEND), .val (.int (1 : Int32))] [(.int (1 : Int32)), (.int (1 : Int32))])) _
              refine XS.icmpNo X34.here hx rfl (hb hby at_102) rfl (teq (rfl : (1 : Int32) = (1 : Int32))).2 ?_
              show Steps p.tables e below (T34.setTop (mkF m 105 #[.val (.int p0), .val (.int i10), .val (.ref wEND), .val (.int (1 : Int32))] [])) _
              refine XS.iconst X34.here hx rfl (hb hby at_105) ?_
              show Steps p.tables e below (T34.setTop (mkF m 106 #[.val (.int p0), .val (.int i10), .val (.ref wEND), .val (.int (1 : Int32))] [(.int (1 : Int32))])) _
              refine XS.goto X34.here hx rfl (pc0 := 106) (pc' := 110) rfl (hb hby at_106) (by decide) (by decide) ?_
              show Steps p.tables e below (T34.setTop (mkF m 110 #[.val (.int p0), .val (.int i10), .val (.ref wEND), .val (.int (1 : Int32))] [(.int (1 : Int32))])) _
              exact retN X34 hx (t := .boolean) Bd.returns (by simp) (hb hby at_110) hr
            · show Q0 Z p0 wREQUESTING wEND wDENIED wREVOKED wONADAPTING wPREADAPTING wACCESSING h0 n0 _ T34.heap _
              rw [e34]
              exact ⟨rfl, N34⟩
          · have k36 : ∀ t, Steps p.tables e below (s₁.setTop (mkF m 79 #[.val (.int p0), .val (.int i10), .unset, .unset] [(.int (5 : Int32)), (.int i10)])) t → Steps p.tables e below (s₁.setTop (entryFrame m #[(.int p0)] maxLocals)) t := fun t kt => k31 t (by
              show Steps p.tables e below (s₁.setTop (mkF m 65 #[.val (.int p0), .val (.int i10), .unset, .unset] [(.int (4 : Int32)), (.int i10)])) _
              refine XS.icmpYes X0.here hx rfl (pc0 := 65) (pc' := 77) rfl (hb hby at_65) rfl (feq (hc32 : ¬ (i10 = (4 : Int32)))).2 (by decide) (by decide) ?_
              show Steps p.tables e below (s₁.setTop (mkF m 77 #[.val (.int p0), .val (.int i10), .unset, .unset] [])) _
              refine XS.iloadN X0.here hx rfl (hb hby at_77) rfl ?_
              show Steps p.tables e below (s₁.setTop (mkF m 78 #[.val (.int p0), .val (.int i10), .unset, .unset] [(.int i10)])) _
              refine XS.iconst X0.here hx rfl (hb hby at_78) ?_
              exact kt)
            by_cases hc37 : i10 = (5 : Int32)
            · obtain ⟨T38, X38, e38, st38⟩ := getS2 X0 hx hZ hown (host := "") (Or.inl (hw _ (List.mem_of_getElem? (i := 17) rfl))) Via.refl e0 SDENIED (g := (mkF m 82 #[.val (.int p0), .val (.int i10), .unset, .unset] [])) rfl (hb hby at_82)
              obtain ⟨cq39, kq39, q39a, q39b, q39c⟩ := isOf hZ e38 EDENIED
              obtain ⟨_, _, ⟨T39, L39, k39, n39⟩, -, X39, ⟨Lc39, hQ39, l39, y39, z39⟩, st39⟩ := X38.virtualBack hx (y := (⟨"com/example/ongoing_grant/ongoinggrant/engine/State", "isFinal", "()Z"⟩ : MethodName)) (z := (⟨"com/example/ongoing_grant/ongoinggrant/engine/State", "isFinal", "()Z"⟩ : MethodName)) hown (mvT hZ (hw _ (List.mem_of_getElem? (i := 4) rfl))) (mvT hZ (hw _ (List.mem_of_getElem? (i := 5) rfl))) (notFace_of_selects (args := #[]) (mvT hZ (hw _ (List.mem_of_getElem? (i := 7) rfl)))) (mvT hZ (hw _ (List.mem_of_getElem? (i := 7) rfl))) (mvT hZ (hw _ (List.mem_of_getElem? (i := 6) rfl))) (by decide) (backOf (W := 0) (rm1 l Z a0 hw [] wDENIED wREQUESTING wEND wDENIED wREVOKED wONADAPTING wPREADAPTING wACCESSING h0 n0 Z0 W0 ) hZ (hw _ (List.mem_of_getElem? (i := 8) rfl)) (hw _ (List.mem_of_getElem? (i := 2) rfl)) (by decide) (by decide)) q39a q39c (g := (mkF m 98 #[.val (.int p0), .val (.int i10), .val (.ref wDENIED), .val (.int (1 : Int32))] [(.ref wDENIED)])) rfl (by rw [hml]; rfl) (Steps.refl _) (argsL := []) (rest := []) (lenOf pd_0 rfl) rfl (by show 2 * 0 + _ ≤ _; exact Nat.le_of_eq rfl) (hb hby at_98) (fun _ _ => ⟨rfl, e38, (by decide : 0 + 0 ≤ _), (by decide : 0 + 0 ≤ _)⟩)
              dsimp only [Pt.U, Pt.locs, Pt.cells, Pt.slots] at X39 l39 y39 z39 st39 hQ39
              subst l39 y39 z39
              unfold Q1 at hQ39
              have k40 : ∀ t, Steps p.tables e below (T38.setTop (mkF m 98 #[.val (.int p0), .val (.int i10), .val (.ref wDENIED), .val (.int (1 : Int32))] [(.ref wDENIED)])) t → Steps p.tables e below (s₁.setTop (entryFrame m #[(.int p0)] maxLocals)) t := fun t kt => k36 t (by
                show Steps p.tables e below (s₁.setTop (mkF m 79 #[.val (.int p0), .val (.int i10), .unset, .unset] [(.int (5 : Int32)), (.int i10)])) _
                refine XS.icmpNo X0.here hx rfl (hb hby at_79) rfl (teq (hc37 : i10 = (5 : Int32))).2 ?_
                show Steps p.tables e below (s₁.setTop (mkF m 82 #[.val (.int p0), .val (.int i10), .unset, .unset] [])) _
                refine st38 _ ?_
                show Steps p.tables e below (T38.setTop (mkF m 85 #[.val (.int p0), .val (.int i10), .unset, .unset] [(.ref wDENIED)])) _
                refine XS.astoreN X38.here hx rfl (hb hby at_85) rfl rfl (l' := #[.val (.int p0), .val (.int i10), .val (.ref wDENIED), .unset]) rfl ?_
                show Steps p.tables e below (T38.setTop (mkF m 86 #[.val (.int p0), .val (.int i10), .val (.ref wDENIED), .unset] [])) _
                refine XS.iconst X38.here hx rfl (hb hby at_86) ?_
                show Steps p.tables e below (T38.setTop (mkF m 87 #[.val (.int p0), .val (.int i10), .val (.ref wDENIED), .unset] [(.int (1 : Int32))])) _
                refine XS.istoreN X38.here hx rfl (hb hby at_87) rfl (l' := #[.val (.int p0), .val (.int i10), .val (.ref wDENIED), .val (.int (1 : Int32))]) rfl ?_
                show Steps p.tables e below (T38.setTop (mkF m 88 #[.val (.int p0), .val (.int i10), .val (.ref wDENIED), .val (.int (1 : Int32))] [])) _
                refine XS.goto X38.here hx rfl (pc0 := 88) (pc' := 97) rfl (hb hby at_88) (by decide) (by decide) ?_
                show Steps p.tables e below (T38.setTop (mkF m 97 #[.val (.int p0), .val (.int i10), .val (.ref wDENIED), .val (.int (1 : Int32))] [])) _
                refine XS.aloadN X38.here hx rfl (hb hby at_97) rfl rfl ?_
                exact kt)
              rw [((by rw [f1, if_neg ((Fld.ne FDENIED_ordinal FEND_ordinal (by decide)) : ¬ (wDENIED = wEND)), if_pos (rfl : wDENIED = wDENIED)]) : (f1 wDENIED wREQUESTING wEND wDENIED wREVOKED wONADAPTING wPREADAPTING wACCESSING) = (1 : Int32))] at hQ39
              obtain ⟨rfl, N39q, e39⟩ := hQ39
              have N39 := Fr.app N0 N39q
              obtain ⟨fs, hr, hrun, hended, hW, hsame⟩ := X39.leave (v := some (.int (1 : Int32))) (fun h => by rw [Bd.returns] at h; cases h)
              refine ⟨_, _, k40 _ ?_, hrun, hended, _, _, rfl, ?_, ⟨_, rfl⟩, hW, hsame.mono (by decide) (by decide)⟩
              · show Steps p.tables e below (T38.setTop (mkF m 98 #[.val (.int p0), .val (.int i10), .val (.ref wDENIED), .val (.int (1 : Int32))] [(.ref wDENIED)])) _
                refine st39.trans ?_
                show Steps p.tables e below (T39.setTop (mkF m 101 #[.val (.int p0), .val (.int i10), .val (.ref wDENIED), .val (.int (1 : Int32))] [(.int (1 : Int32))])) _
                refine XS.iloadN X39.here hx rfl (hb hby at_101) rfl ?_
                show Steps p.tables e below (T39.setTop (mkF m 102 #[.val (.int p0), .val (.int i10), .val (.ref wDENIED), .val (.int (1 : Int32))] [(.int (1 : Int32)), (.int (1 : Int32))])) _
                refine XS.icmpNo X39.here hx rfl (hb hby at_102) rfl (teq (rfl : (1 : Int32) = (1 : Int32))).2 ?_
                show Steps p.tables e below (T39.setTop (mkF m 105 #[.val (.int p0), .val (.int i10), .val (.ref wDENIED), .val (.int (1 : Int32))] [])) _
                refine XS.iconst X39.here hx rfl (hb hby at_105) ?_
                show Steps p.tables e below (T39.setTop (mkF m 106 #[.val (.int p0), .val (.int i10), .val (.ref wDENIED), .val (.int (1 : Int32))] [(.int (1 : Int32))])) _
                refine XS.goto X39.here hx rfl (pc0 := 106) (pc' := 110) rfl (hb hby at_106) (by decide) (by decide) ?_
                show Steps p.tables e below (T39.setTop (mkF m 110 #[.val (.int p0), .val (.int i10), .val (.ref wDENIED), .val (.int (1 : Int32))] [(.int (1 : Int32))])) _
                exact retN X39 hx (t := .boolean) Bd.returns (by simp) (hb hby at_110) hr
              · show Q0 Z p0 wREQUESTING wEND wDENIED wREVOKED wONADAPTING wPREADAPTING wACCESSING h0 n0 _ T39.heap _
                rw [e39]
                exact ⟨rfl, N39⟩
            · obtain ⟨T41, X41, e41, st41⟩ := getS2 X0 hx hZ hown (host := "") (Or.inl (hw _ (List.mem_of_getElem? (i := 18) rfl))) Via.refl e0 SREVOKED (g := (mkF m 91 #[.val (.int p0), .val (.int i10), .unset, .unset] [])) rfl (hb hby at_91)
              obtain ⟨cq42, kq42, q42a, q42b, q42c⟩ := isOf hZ e41 EREVOKED
              obtain ⟨_, _, ⟨T42, L42, k42, n42⟩, -, X42, ⟨Lc42, hQ42, l42, y42, z42⟩, st42⟩ := X41.virtualBack hx (y := (⟨"com/example/ongoing_grant/ongoinggrant/engine/State", "isFinal", "()Z"⟩ : MethodName)) (z := (⟨"com/example/ongoing_grant/ongoinggrant/engine/State", "isFinal", "()Z"⟩ : MethodName)) hown (mvT hZ (hw _ (List.mem_of_getElem? (i := 4) rfl))) (mvT hZ (hw _ (List.mem_of_getElem? (i := 5) rfl))) (notFace_of_selects (args := #[]) (mvT hZ (hw _ (List.mem_of_getElem? (i := 7) rfl)))) (mvT hZ (hw _ (List.mem_of_getElem? (i := 7) rfl))) (mvT hZ (hw _ (List.mem_of_getElem? (i := 6) rfl))) (by decide) (backOf (W := 0) (rm1 l Z a0 hw [] wREVOKED wREQUESTING wEND wDENIED wREVOKED wONADAPTING wPREADAPTING wACCESSING h0 n0 Z0 W0 ) hZ (hw _ (List.mem_of_getElem? (i := 8) rfl)) (hw _ (List.mem_of_getElem? (i := 2) rfl)) (by decide) (by decide)) q42a q42c (g := (mkF m 98 #[.val (.int p0), .val (.int i10), .val (.ref wREVOKED), .val (.int (1 : Int32))] [(.ref wREVOKED)])) rfl (by rw [hml]; rfl) (Steps.refl _) (argsL := []) (rest := []) (lenOf pd_0 rfl) rfl (by show 2 * 0 + _ ≤ _; exact Nat.le_of_eq rfl) (hb hby at_98) (fun _ _ => ⟨rfl, e41, (by decide : 0 + 0 ≤ _), (by decide : 0 + 0 ≤ _)⟩)
              dsimp only [Pt.U, Pt.locs, Pt.cells, Pt.slots] at X42 l42 y42 z42 st42 hQ42
              subst l42 y42 z42
              unfold Q1 at hQ42
              have k43 : ∀ t, Steps p.tables e below (T41.setTop (mkF m 98 #[.val (.int p0), .val (.int i10), .val (.ref wREVOKED), .val (.int (1 : Int32))] [(.ref wREVOKED)])) t → Steps p.tables e below (s₁.setTop (entryFrame m #[(.int p0)] maxLocals)) t := fun t kt => k36 t (by
                show Steps p.tables e below (s₁.setTop (mkF m 79 #[.val (.int p0), .val (.int i10), .unset, .unset] [(.int (5 : Int32)), (.int i10)])) _
                refine XS.icmpYes X0.here hx rfl (pc0 := 79) (pc' := 91) rfl (hb hby at_79) rfl (feq (hc37 : ¬ (i10 = (5 : Int32)))).2 (by decide) (by decide) ?_
                show Steps p.tables e below (s₁.setTop (mkF m 91 #[.val (.int p0), .val (.int i10), .unset, .unset] [])) _
                refine st41 _ ?_
                show Steps p.tables e below (T41.setTop (mkF m 94 #[.val (.int p0), .val (.int i10), .unset, .unset] [(.ref wREVOKED)])) _
                refine XS.astoreN X41.here hx rfl (hb hby at_94) rfl rfl (l' := #[.val (.int p0), .val (.int i10), .val (.ref wREVOKED), .unset]) rfl ?_
                show Steps p.tables e below (T41.setTop (mkF m 95 #[.val (.int p0), .val (.int i10), .val (.ref wREVOKED), .unset] [])) _
                refine XS.iconst X41.here hx rfl (hb hby at_95) ?_
                show Steps p.tables e below (T41.setTop (mkF m 96 #[.val (.int p0), .val (.int i10), .val (.ref wREVOKED), .unset] [(.int (1 : Int32))])) _
                refine XS.istoreN X41.here hx rfl (hb hby at_96) rfl (l' := #[.val (.int p0), .val (.int i10), .val (.ref wREVOKED), .val (.int (1 : Int32))]) rfl ?_
                show Steps p.tables e below (T41.setTop (mkF m 97 #[.val (.int p0), .val (.int i10), .val (.ref wREVOKED), .val (.int (1 : Int32))] [])) _
                refine XS.aloadN X41.here hx rfl (hb hby at_97) rfl rfl ?_
                exact kt)
              rw [((by rw [f1, if_neg ((Fld.ne FREVOKED_ordinal FEND_ordinal (by decide)) : ¬ (wREVOKED = wEND)), if_neg ((Fld.ne FREVOKED_ordinal FDENIED_ordinal (by decide)) : ¬ (wREVOKED = wDENIED)), if_pos (rfl : wREVOKED = wREVOKED)]) : (f1 wREVOKED wREQUESTING wEND wDENIED wREVOKED wONADAPTING wPREADAPTING wACCESSING) = (1 : Int32))] at hQ42
              obtain ⟨rfl, N42q, e42⟩ := hQ42
              have N42 := Fr.app N0 N42q
              obtain ⟨fs, hr, hrun, hended, hW, hsame⟩ := X42.leave (v := some (.int (1 : Int32))) (fun h => by rw [Bd.returns] at h; cases h)
              refine ⟨_, _, k43 _ ?_, hrun, hended, _, _, rfl, ?_, ⟨_, rfl⟩, hW, hsame.mono (by decide) (by decide)⟩
              · show Steps p.tables e below (T41.setTop (mkF m 98 #[.val (.int p0), .val (.int i10), .val (.ref wREVOKED), .val (.int (1 : Int32))] [(.ref wREVOKED)])) _
                refine st42.trans ?_
                show Steps p.tables e below (T42.setTop (mkF m 101 #[.val (.int p0), .val (.int i10), .val (.ref wREVOKED), .val (.int (1 : Int32))] [(.int (1 : Int32))])) _
                refine XS.iloadN X42.here hx rfl (hb hby at_101) rfl ?_
                show Steps p.tables e below (T42.setTop (mkF m 102 #[.val (.int p0), .val (.int i10), .val (.ref wREVOKED), .val (.int (1 : Int32))] [(.int (1 : Int32)), (.int (1 : Int32))])) _
                refine XS.icmpNo X42.here hx rfl (hb hby at_102) rfl (teq (rfl : (1 : Int32) = (1 : Int32))).2 ?_
                show Steps p.tables e below (T42.setTop (mkF m 105 #[.val (.int p0), .val (.int i10), .val (.ref wREVOKED), .val (.int (1 : Int32))] [])) _
                refine XS.iconst X42.here hx rfl (hb hby at_105) ?_
                show Steps p.tables e below (T42.setTop (mkF m 106 #[.val (.int p0), .val (.int i10), .val (.ref wREVOKED), .val (.int (1 : Int32))] [(.int (1 : Int32))])) _
                refine XS.goto X42.here hx rfl (pc0 := 106) (pc' := 110) rfl (hb hby at_106) (by decide) (by decide) ?_
                show Steps p.tables e below (T42.setTop (mkF m 110 #[.val (.int p0), .val (.int i10), .val (.ref wREVOKED), .val (.int (1 : Int32))] [(.int (1 : Int32))])) _
                exact retN X42 hx (t := .boolean) Bd.returns (by simp) (hb hby at_110) hr
              · show Q0 Z p0 wREQUESTING wEND wDENIED wREVOKED wONADAPTING wPREADAPTING wACCESSING h0 n0 _ T42.heap _
                rw [e42]
                exact ⟨rfl, N42⟩
set_option maxRecDepth 65536 in
set_option maxHeartbeats 40000000 in
theorem comes_1 {Post : Tables → Env → Array Value → State → Outcome → State → Prop} (hpost : ∀ tb e args s v u, (limb_1_1.after args s (.returned v) u = true ∧ limb_1_2.after args s (.returned v) u = true ∧ True) → FrameEnd s (.returned v) u (Jvm.fieldLocs frame_1_writes args s ++ Jvm.arrayLocs frame_1_arrays args s ++ Jvm.staticLocs frame_1_statics s) 0 0 → Post tb e args s (.returned v) u) :
    ArmFor flags0 classFile x code maxLocals ret World_1 tables_1 room_1 Calls_1 rest_1 Pre_1 Post := by
  intro l hfl _ _ p e ha hc hk s m args below hf hA hF happ hP
  obtain ⟨hcalls, hrest, hpre⟩ := hP
  obtain ⟨-, -, -, hnamed, -, -, -, hat⟩ := (Spec.applies_iff hf).mp happ
  obtain ⟨hg, hn⟩ := and_e (Cond.before_iff.mp (show (Jvm.Cond.and given_1 narrow_1).before args s = true from hpre))
  obtain ⟨gc, ga0⟩ := and_e hg
  obtain ⟨w0, rfl⟩ : ∃ w0 : Value, args = #[w0] := by
    have hs : args.size = 1 := by simpa [Cond.value, given_1] using gc
    obtain ⟨L⟩ := args
    match L, hs with
    | [w0], _ => exact ⟨w0, rfl⟩
  have hw := fun d (hd : d ∈ tables_1) => atoms_spec (ws := Jvm.Cond.code x code maxLocals ret :: tables_1) hat d (List.mem_cons_of_mem _ hd)
  have hfit : Fit s := fun {y c} hc i hi => by
    obtain ⟨ha, rfl⟩ := Array.getElem?_eq_some_iff.mp hc
    have q := List.all_eq_true.mp ((Array.all_eq_true_iff_forall_mem.mp hF) _ (Array.getElem_mem ha)) i (List.mem_range.mpr hi)
    simpa [Array.getElem?_eq_getElem hi] using q
  obtain ⟨i0, ei0⟩ := is_v ga0
  obtain rfl : w0 = (.int i0) := Option.some.inj ei0
  obtain ⟨nr0, hn0⟩ := and_e hn
  obtain ⟨nr1, hn1⟩ := and_e hn0
  obtain ⟨nr2, hn2⟩ := and_e hn1
  obtain ⟨nr3, hn3⟩ := and_e hn2
  obtain ⟨nr4, hn4⟩ := and_e hn3
  obtain ⟨nr5, hn5⟩ := and_e hn4
  obtain ⟨nr6, hn6⟩ := and_e hn5
  obtain ⟨nr7, hn7⟩ := and_e hn6
  obtain ⟨nr8, hn8⟩ := and_e hn7
  obtain ⟨nr9, hn9⟩ := and_e hn8
  obtain ⟨nr10, hn10⟩ := and_e hn9
  obtain ⟨nr11, hn11⟩ := and_e hn10
  obtain ⟨nr12, nr13⟩ := and_e hn11
  obtain ⟨wREQUESTING, evwREQUESTING⟩ := exa_v nr0
  have SREQUESTING : Sta s s.heap "com/example/ongoing_grant/ongoinggrant/engine/State" "REQUESTING" "Lcom/example/ongoing_grant/ongoinggrant/engine/State;" (.ref wREQUESTING) := Sta.start evwREQUESTING (Or.inr ⟨(hw _ (List.mem_of_getElem? (i := 2) rfl)), (hw _ (List.mem_of_getElem? (i := 3) rfl))⟩)
  obtain ⟨wEND, evwEND⟩ := exa_v nr1
  have SEND : Sta s s.heap "com/example/ongoing_grant/ongoinggrant/engine/State" "END" "Lcom/example/ongoing_grant/ongoinggrant/engine/State;" (.ref wEND) := Sta.start evwEND (Or.inr ⟨(hw _ (List.mem_of_getElem? (i := 2) rfl)), (hw _ (List.mem_of_getElem? (i := 10) rfl))⟩)
  obtain ⟨wDENIED, evwDENIED⟩ := exa_v nr4
  have SDENIED : Sta s s.heap "com/example/ongoing_grant/ongoinggrant/engine/State" "DENIED" "Lcom/example/ongoing_grant/ongoinggrant/engine/State;" (.ref wDENIED) := Sta.start evwDENIED (Or.inr ⟨(hw _ (List.mem_of_getElem? (i := 2) rfl)), (hw _ (List.mem_of_getElem? (i := 12) rfl))⟩)
  obtain ⟨wREVOKED, evwREVOKED⟩ := exa_v nr6
  have SREVOKED : Sta s s.heap "com/example/ongoing_grant/ongoinggrant/engine/State" "REVOKED" "Lcom/example/ongoing_grant/ongoinggrant/engine/State;" (.ref wREVOKED) := Sta.start evwREVOKED (Or.inr ⟨(hw _ (List.mem_of_getElem? (i := 2) rfl)), (hw _ (List.mem_of_getElem? (i := 14) rfl))⟩)
  obtain ⟨wONADAPTING, evwONADAPTING⟩ := exa_v nr8
  have SONADAPTING : Sta s s.heap "com/example/ongoing_grant/ongoinggrant/engine/State" "ONADAPTING" "Lcom/example/ongoing_grant/ongoinggrant/engine/State;" (.ref wONADAPTING) := Sta.start evwONADAPTING (Or.inr ⟨(hw _ (List.mem_of_getElem? (i := 2) rfl)), (hw _ (List.mem_of_getElem? (i := 16) rfl))⟩)
  obtain ⟨wPREADAPTING, evwPREADAPTING⟩ := exa_v nr10
  have SPREADAPTING : Sta s s.heap "com/example/ongoing_grant/ongoinggrant/engine/State" "PREADAPTING" "Lcom/example/ongoing_grant/ongoinggrant/engine/State;" (.ref wPREADAPTING) := Sta.start evwPREADAPTING (Or.inr ⟨(hw _ (List.mem_of_getElem? (i := 2) rfl)), (hw _ (List.mem_of_getElem? (i := 21) rfl))⟩)
  obtain ⟨wACCESSING, evwACCESSING⟩ := exa_v nr12
  have SACCESSING : Sta s s.heap "com/example/ongoing_grant/ongoinggrant/engine/State" "ACCESSING" "Lcom/example/ongoing_grant/ongoinggrant/engine/State;" (.ref wACCESSING) := Sta.start evwACCESSING (Or.inr ⟨(hw _ (List.mem_of_getElem? (i := 2) rfl)), (hw _ (List.mem_of_getElem? (i := 23) rfl))⟩)
  have EREQUESTING : Exa s s.heap wREQUESTING "com/example/ongoing_grant/ongoinggrant/engine/State" := Exa.start evwREQUESTING nr0
  have EEND : Exa s s.heap wEND "com/example/ongoing_grant/ongoinggrant/engine/State" := Exa.start evwEND nr1
  have FREQUESTING_ordinal : Fld s s.heap wREQUESTING "java/lang/Enum" "ordinal" "I" (.int (0 : Int32)) := own_fldI evwREQUESTING nr2
  have FEND_ordinal : Fld s s.heap wEND "java/lang/Enum" "ordinal" "I" (.int (4 : Int32)) := own_fldI evwEND nr3
  have EDENIED : Exa s s.heap wDENIED "com/example/ongoing_grant/ongoinggrant/engine/State" := Exa.start evwDENIED nr4
  have FDENIED_ordinal : Fld s s.heap wDENIED "java/lang/Enum" "ordinal" "I" (.int (5 : Int32)) := own_fldI evwDENIED nr5
  have EREVOKED : Exa s s.heap wREVOKED "com/example/ongoing_grant/ongoinggrant/engine/State" := Exa.start evwREVOKED nr6
  have FREVOKED_ordinal : Fld s s.heap wREVOKED "java/lang/Enum" "ordinal" "I" (.int (6 : Int32)) := own_fldI evwREVOKED nr7
  have EONADAPTING : Exa s s.heap wONADAPTING "com/example/ongoing_grant/ongoinggrant/engine/State" := Exa.start evwONADAPTING nr8
  have FONADAPTING_ordinal : Fld s s.heap wONADAPTING "java/lang/Enum" "ordinal" "I" (.int (3 : Int32)) := own_fldI evwONADAPTING nr9
  have EPREADAPTING : Exa s s.heap wPREADAPTING "com/example/ongoing_grant/ongoinggrant/engine/State" := Exa.start evwPREADAPTING nr10
  have FPREADAPTING_ordinal : Fld s s.heap wPREADAPTING "java/lang/Enum" "ordinal" "I" (.int (2 : Int32)) := own_fldI evwPREADAPTING nr11
  have EACCESSING : Exa s s.heap wACCESSING "com/example/ongoing_grant/ongoinggrant/engine/State" := Exa.start evwACCESSING nr12
  have FACCESSING_ordinal : Fld s s.heap wACCESSING "java/lang/Enum" "ordinal" "I" (.int (1 : Int32)) := own_fldI evwACCESSING nr13
  obtain ⟨n, o, h1, h2, h3, _, L, rfl, ⟨rfl, N⟩, hq⟩ := rm0 l s _ hw tables_1 i0 wREQUESTING wEND wDENIED wREVOKED wONADAPTING wPREADAPTING wACCESSING s.heap s.heap.size (Nat.le_refl _) ⟨SREQUESTING, EREQUESTING, SEND, EEND, FREQUESTING_ordinal, FEND_ordinal, SDENIED, EDENIED, FDENIED_ordinal, SREVOKED, EREVOKED, FREVOKED_ordinal, SONADAPTING, EONADAPTING, FONADAPTING_ordinal, SPREADAPTING, EPREADAPTING, FPREADAPTING_ordinal, SACCESSING, EACCESSING, FACCESSING_ordinal, trivial⟩  p e ha hc hk s m _ below hf ((Spec.applies_iff_loose hf).mp happ).1 ⟨rfl, State.Warmed39.refl s, rfl⟩ trivial
  refine ⟨n, _, h1, h2, h3, hpost _ _ _ _ _ _ ⟨Cond.after_iff.mpr rfl, Cond.after_iff.mpr (eq_i res_at (Term.int_eval (1)) rfl), trivial⟩ ⟨hq.1, hq.2.1, (hq.2.2.sift fun y hy => Or.inr (N y hy)).mono (by decide) (by decide)⟩⟩
theorem main_1_1 : Claimed_1_1 := comes_1 fun _ _ _ _ _ _ h hF => ⟨h.1, hF⟩
theorem main_1_2 : Claimed_1_2 := comes_1 fun _ _ _ _ _ _ h hF => ⟨h.2.1, hF⟩
end Jvm.Pilot.@@N@@
namespace Jvm.Pilot.@@N@@
open Jvm Jvm.ClassFile Sem Op Lib Jvm.Free Jvm.Stand Jvm.Pilot.@@N@@.Jvm.D
/-! MADE BY PROGRAM (witnessworld.py) out of the Statement's table words and the real class files: 12 classes; the members and pool entries that the words name. The judged class is class 1, her method 1. -/
namespace start1
open Jvm.ClassFile
def u (s : String) : CpInfo := .utf8 (stringToUtf16 s)
/-- a pool by its gaps: so many unusable entries, then the entry; so many at the end -/
def gap : Nat → List CpInfo → List CpInfo
  | 0, r => r
  | n + 1, r => .unusable :: gap n r
def poolList (es : List (Nat × CpInfo)) (last : Nat) : List CpInfo := es.foldr (fun e r => gap e.1 (e.2 :: r)) (gap last [])
def pool (es : List (Nat × CpInfo)) (last : Nat) : Array CpInfo := ⟨poolList es last⟩
def fileOf (pool : Array CpInfo) (this : Nat) (attrs : Array Attribute := #[]) (ms : Array MethodInfo := #[]) (fl : Nat := 33) (sup : Nat := 0) (ifs : Array Nat := #[]) (fds : Array FieldInfo := #[]) : ClassFile where
  minorVersion := 0
  majorVersion := 65
  constantPool := pool
  accessFlags := fl
  thisClass := this
  superClass := sup
  interfaces := ifs
  fields := fds
  methods := ms
  attributes := attrs
def plain (name : String) (sup : Option ClassId) : Class where
  name := name
  kind := .ordinary
  loader := none
  accessFlags := 33
  super := sup
  interfaces := #[]
  cf := none
  fields := #[]
  methods := #[]
  instanceTypes := #[]
  staticTypes := #[]
  resolved := #[]
  callSites := []
  init := .initialized
  statics := none
  mirror := none

def pool0 : Array CpInfo := pool [(5, u "<init>"), (0, u "()V"), (1, .class_ 10), (1, u "java/lang/Object")] 113

def k0m0 : Method := { name := "<init>", desc := "()V", sig := { parameters := [], returnType := none }, accessFlags := 1, code := none }
/-- java/lang/Object -/
def k0 : Class := { plain "java/lang/Object" none with
  accessFlags := 33
  interfaces := #[]
  cf := some (fileOf pool0 8 #[] #[{ accessFlags := 1, nameIndex := 5, descriptorIndex := 6, attributes := #[] }] 33 0 #[] #[])
  fields := #[]
  methods := #[k0m0]
  instanceTypes := #[]
  staticTypes := #[]
  resolved := Array.replicate 124 none
  statics := none }

def pool1 : Array CpInfo := pool [(2, .class_ 4), (1, u "java/lang/Object"), (0, u "<init>"), (0, u "()V"), (0, .integer 2147483647), (0, .fieldref 9 10), (0, .class_ 11), (0, .nameAndType 12 13), (0, u "com/example/ongoing_grant/ongoinggrant/engine/State"), (0, u "REQUESTING"), (0, u "Lcom/example/ongoing_grant/ongoinggrant/engine/State;"), (0, .fieldref 9 15), (0, .nameAndType 16 13), (0, u "ACCESSING"), (0, .fieldref 9 18), (0, .nameAndType 19 13), (0, u "PREADAPTING"), (0, .fieldref 9 21), (0, .nameAndType 22 13), (0, u "ONADAPTING"), (0, .fieldref 9 24), (0, .nameAndType 25 13), (0, u "END"), (0, .fieldref 9 27), (0, .nameAndType 28 13), (0, u "DENIED"), (0, .fieldref 9 30), (0, .nameAndType 31 13), (0, u "REVOKED"), (0, .methodref 9 33), (0, .nameAndType 34 35), (0, u "isFinal"), (0, u "()Z"), (0, .class_ 37), (0, u "com/example/ongoing_grant/ongoinggrant/engine/StateIsFinalPinLaw"), (2, u "law"), (0, u "(I)Z")] 3

def k1m0 : Method := { name := "<init>", desc := "()V", sig := { parameters := [], returnType := none }, accessFlags := 1, code := none }
def k1c1 : Code := { maxStack := 2, maxLocals := 4, code := code, exceptionTable := #[], attributes := #[] }
def k1m1 : Method := { name := "law", desc := "(I)Z", sig := { parameters := [.int], returnType := some .boolean }, accessFlags := 9, code := some k1c1 }
/-- com/example/ongoing_grant/ongoinggrant/engine/StateIsFinalPinLaw -/
def k1 : Class := { plain "com/example/ongoing_grant/ongoinggrant/engine/StateIsFinalPinLaw" (some 0) with
  accessFlags := 49
  interfaces := #[]
  cf := some (fileOf pool1 36 #[] #[{ accessFlags := 1, nameIndex := 5, descriptorIndex := 6, attributes := #[] }, { accessFlags := 9, nameIndex := 40, descriptorIndex := 41, attributes := #[] }] 49 2 #[] #[])
  fields := #[]
  methods := #[k1m0, k1m1]
  instanceTypes := #[]
  staticTypes := #[]
  resolved := Array.replicate 45 none
  statics := none }

def pool2 : Array CpInfo := pool [(1, .class_ 2), (0, u "java/lang/constant/Constable"), (0, .class_ 4), (0, u "java/lang/Object")] 6

/-- java/lang/constant/Constable -/
def k2 : Class := { plain "java/lang/constant/Constable" (some 0) with
  accessFlags := 1537
  interfaces := #[]
  cf := some (fileOf pool2 1 #[] #[] 1537 3 #[] #[])
  fields := #[]
  methods := #[]
  instanceTypes := #[]
  staticTypes := #[]
  resolved := Array.replicate 11 none
  statics := none }

def pool3 : Array CpInfo := pool [(1, .class_ 2), (0, u "java/lang/Comparable"), (0, .class_ 4), (0, u "java/lang/Object")] 7

/-- java/lang/Comparable -/
def k3 : Class := { plain "java/lang/Comparable" (some 0) with
  accessFlags := 1537
  interfaces := #[]
  cf := some (fileOf pool3 1 #[] #[] 1537 3 #[] #[])
  fields := #[]
  methods := #[]
  instanceTypes := #[]
  staticTypes := #[]
  resolved := Array.replicate 12 none
  statics := none }

def pool4 : Array CpInfo := pool [(1, .class_ 2), (0, u "java/io/Serializable"), (0, .class_ 4), (0, u "java/lang/Object")] 2

/-- java/io/Serializable -/
def k4 : Class := { plain "java/io/Serializable" (some 0) with
  accessFlags := 1537
  interfaces := #[]
  cf := some (fileOf pool4 1 #[] #[] 1537 3 #[] #[])
  fields := #[]
  methods := #[]
  instanceTypes := #[]
  staticTypes := #[]
  resolved := Array.replicate 7 none
  statics := none }

def pool5 : Array CpInfo := pool [(2, .class_ 4), (1, u "java/lang/Enum"), (0, u "name"), (0, u "Ljava/lang/String;"), (2, u "ordinal"), (0, u "I"), (1, .class_ 14), (1, u "java/lang/Object"), (4, u "hash"), (86, .class_ 108), (1, u "java/lang/Enum$EnumDesc"), (2, .class_ 112), (0, u "java/lang/constant/Constable"), (0, .class_ 114), (0, u "java/lang/Comparable"), (0, .class_ 116), (0, u "java/io/Serializable")] 87

/-- java/lang/Enum -/
def k5 : Class := { plain "java/lang/Enum" (some 0) with
  accessFlags := 1057
  interfaces := #[2, 3, 4]
  cf := some (fileOf pool5 2 #[.nestMembers #[106]] #[] 1057 12 #[111, 113, 115] #[{ accessFlags := 18, nameIndex := 5, descriptorIndex := 6, attributes := #[] }, { accessFlags := 18, nameIndex := 9, descriptorIndex := 10, attributes := #[] }, { accessFlags := 2, nameIndex := 19, descriptorIndex := 10, attributes := #[] }])
  fields := #[{ name := "name", type := (.object "java/lang/String"), accessFlags := 18, slot := 0, constantValue := 0 }, { name := "ordinal", type := .int, accessFlags := 18, slot := 1, constantValue := 0 }, { name := "hash", type := .int, accessFlags := 2, slot := 2, constantValue := 0 }]
  methods := #[]
  instanceTypes := #[(.object "java/lang/String"), .int, .int]
  staticTypes := #[]
  resolved := Array.replicate 204 none
  statics := none }

def pool6 : Array CpInfo := pool [(1, .class_ 2), (0, u "com/example/ongoing_grant/ongoinggrant/engine/State"), (2, u "REQUESTING"), (0, u "Lcom/example/ongoing_grant/ongoinggrant/engine/State;"), (2, u "ACCESSING"), (2, u "PREADAPTING"), (2, u "ONADAPTING"), (0, .fieldref 1 17), (0, .nameAndType 18 6), (0, u "END"), (0, .fieldref 1 20), (0, .nameAndType 21 6), (0, u "DENIED"), (0, .fieldref 1 23), (0, .nameAndType 24 6), (0, u "REVOKED"), (2, u "$VALUES"), (0, u "[Lcom/example/ongoing_grant/ongoinggrant/engine/State;"), (6, .class_ 37), (1, u "java/lang/Enum"), (41, u "isFinal"), (0, u "()Z")] 6

def k6c0 : Code := { maxStack := 2, maxLocals := 1, code := prog_45_method_4_code, exceptionTable := #[], attributes := #[] }
def k6m0 : Method := { name := "isFinal", desc := "()Z", sig := { parameters := [], returnType := some .boolean }, accessFlags := 1, code := some k6c0 }
/-- com/example/ongoing_grant/ongoinggrant/engine/State -/
def k6 : Class := { plain "com/example/ongoing_grant/ongoinggrant/engine/State" (some 5) with
  accessFlags := 16433
  interfaces := #[]
  cf := some (fileOf pool6 1 #[] #[{ accessFlags := 1, nameIndex := 79, descriptorIndex := 80, attributes := #[] }] 16433 35 #[] #[{ accessFlags := 16409, nameIndex := 5, descriptorIndex := 6, attributes := #[] }, { accessFlags := 16409, nameIndex := 9, descriptorIndex := 6, attributes := #[] }, { accessFlags := 16409, nameIndex := 12, descriptorIndex := 6, attributes := #[] }, { accessFlags := 16409, nameIndex := 15, descriptorIndex := 6, attributes := #[] }, { accessFlags := 16409, nameIndex := 18, descriptorIndex := 6, attributes := #[] }, { accessFlags := 16409, nameIndex := 21, descriptorIndex := 6, attributes := #[] }, { accessFlags := 16409, nameIndex := 24, descriptorIndex := 6, attributes := #[] }, { accessFlags := 4122, nameIndex := 27, descriptorIndex := 28, attributes := #[] }])
  fields := #[{ name := "REQUESTING", type := (.object "com/example/ongoing_grant/ongoinggrant/engine/State"), accessFlags := 16409, slot := 0, constantValue := 0 }, { name := "ACCESSING", type := (.object "com/example/ongoing_grant/ongoinggrant/engine/State"), accessFlags := 16409, slot := 1, constantValue := 0 }, { name := "PREADAPTING", type := (.object "com/example/ongoing_grant/ongoinggrant/engine/State"), accessFlags := 16409, slot := 2, constantValue := 0 }, { name := "ONADAPTING", type := (.object "com/example/ongoing_grant/ongoinggrant/engine/State"), accessFlags := 16409, slot := 3, constantValue := 0 }, { name := "END", type := (.object "com/example/ongoing_grant/ongoinggrant/engine/State"), accessFlags := 16409, slot := 4, constantValue := 0 }, { name := "DENIED", type := (.object "com/example/ongoing_grant/ongoinggrant/engine/State"), accessFlags := 16409, slot := 5, constantValue := 0 }, { name := "REVOKED", type := (.object "com/example/ongoing_grant/ongoinggrant/engine/State"), accessFlags := 16409, slot := 6, constantValue := 0 }, { name := "$VALUES", type := (.array (.object "com/example/ongoing_grant/ongoinggrant/engine/State")), accessFlags := 4122, slot := 7, constantValue := 0 }]
  methods := #[k6m0]
  instanceTypes := #[(.object "java/lang/String"), .int, .int]
  staticTypes := #[(.object "com/example/ongoing_grant/ongoinggrant/engine/State"), (.object "com/example/ongoing_grant/ongoinggrant/engine/State"), (.object "com/example/ongoing_grant/ongoinggrant/engine/State"), (.object "com/example/ongoing_grant/ongoinggrant/engine/State"), (.object "com/example/ongoing_grant/ongoinggrant/engine/State"), (.object "com/example/ongoing_grant/ongoinggrant/engine/State"), (.object "com/example/ongoing_grant/ongoinggrant/engine/State"), (.array (.object "com/example/ongoing_grant/ongoinggrant/engine/State"))]
  resolved := Array.replicate 87 none
  statics := some 0 }

def pool7 : Array CpInfo := pool [(1, u "java/lang/Cloneable"), (0, .class_ 1), (0, u "java/lang/Object"), (0, .class_ 3)] 3

/-- java/lang/Cloneable -/
def k7 : Class := { plain "java/lang/Cloneable" (some 0) with
  accessFlags := 1537
  interfaces := #[]
  cf := some (fileOf pool7 2 #[] #[] 1537 4 #[] #[])
  fields := #[]
  methods := #[]
  instanceTypes := #[]
  staticTypes := #[]
  resolved := Array.replicate 8 none
  statics := none }

/-- the primitive byte -/
def k8 : Class := { plain "byte" none with kind := .primitive 'B', accessFlags := 0x411 }
/-- [B -/
def k9 : Class := { plain "[B" (some 0) with kind := .array 8 .byte, interfaces := #[7, 4], accessFlags := 1041 }

/-- the primitive int -/
def k10 : Class := { plain "int" none with kind := .primitive 'I', accessFlags := 0x411 }
/-- [I -/
def k11 : Class := { plain "[I" (some 0) with kind := .array 10 .int, interfaces := #[7, 4], accessFlags := 1041 }

def heap : Heap := #[{ cls := 6, slots := #[.ref 1, .ref 7, .ref 6, .ref 5, .ref 2, .ref 3, .ref 4, .null], vm := .statics 6 },
  { cls := 6, slots := #[.null, .int 0, .int 0], vm := .none },
  { cls := 6, slots := #[.null, .int 4, .int 0], vm := .none },
  { cls := 6, slots := #[.null, .int 5, .int 0], vm := .none },
  { cls := 6, slots := #[.null, .int 6, .int 0], vm := .none },
  { cls := 6, slots := #[.null, .int 3, .int 0], vm := .none },
  { cls := 6, slots := #[.null, .int 2, .int 0], vm := .none },
  { cls := 6, slots := #[.null, .int 1, .int 0], vm := .none }]
def classes : Array Class := #[k0, k1, k2, k3, k4, k5, k6, k7, k8, k9, k10, k11]
def interned : List (Array UInt16 × Addr) := []
def slotsUsed : Nat := 29
def theMethod : MethodId := ⟨1, 1⟩
def args0 : Array Value := #[.int 5]
def aboutOver (below : List Frame) : State where
  vm := { classes := classes, interned := interned.toArray }
  heap := heap
  slotsUsed := slotsUsed
  threads := #[{ frames := .invoking theMethod args0 :: below }]
def below0 : List Frame := [.native { method := ⟨0, 0⟩, args := #[] }]
def about1 : State := aboutOver below0
def p0 : Program := .bare "" "" ""
def e0 : Env := launch0.env 0 0 0
theorem w_frames : about1.frames = Frame.invoking theMethod args0 :: below0 := rfl
set_option maxRecDepth 65536 in
theorem w_args : argsFit about1.vm theMethod args0 = true := by decide +kernel
set_option maxRecDepth 65536 in
theorem w_heap : heapFits about1 = true := by decide +kernel
set_option maxRecDepth 65536 in
theorem w_runnable : about1.curStatus? = some .runnable := by decide +kernel
set_option maxRecDepth 65536 in
theorem w_alone : about1.alone = true := by decide +kernel
set_option maxRecDepth 65536 in
theorem w_named : about1.methodNamed? x = some theMethod := by decide +kernel
set_option maxRecDepth 65536 in
theorem w_hears : about1.hears theMethod below0 = true := by decide +kernel
set_option maxRecDepth 65536 in
theorem w_ripe : about1.ripe theMethod args0 below0 = true := by decide +kernel
theorem w_running : about1.status = .running := rfl
set_option maxRecDepth 65536 in
theorem w_room : about1.hasRoom e0.platform room_1 = true :=
  launch0.hasRoom_least _ room_1 (by decide +kernel) (by decide +kernel) (by decide +kernel) (by decide +kernel) (by decide +kernel) (by decide +kernel)
theorem allAtoms_all (ts : List Jvm.Cond) (a : Array Jvm.Value) (st : Jvm.State) : (allAtoms ts).before a st = ts.all (fun c => c.before a st) := by
  induction ts with
  | nil => rfl
  | cons c t ih =>
    show (Jvm.Cond.and c (allAtoms t)).before a st = _
    rw [Jvm.Cond.before_and, ih, List.all_cons]
def words1 : List Jvm.Cond := Jvm.Cond.code x code maxLocals ret :: tables_1
/-- a 'code' word, met by the world's own term for the bytes: nothing is compared byte by byte -/
theorem code_word {y : MethodName} {bytes : ByteArray} {mx : Nat} {rt : Option FieldType} {a : Array Value} {s : State} {m : MethodId} {meth : Method} {c : Code} (h1 : s.methodNamed? y = some m) (h2 : s.vm.method? m = some meth) (h3 : meth.code = some c) (h4 : c.code = bytes)
    (h5 : (c.maxLocals == mx && c.exceptionTable.isEmpty && decide (c.maxStack ≤ mostOperands) && decide (meth.sig.returnType = rt) && !meth.locks && decide (parseMethodDescriptor y.desc = some meth.sig)) = true) : (Jvm.Cond.code y bytes mx rt).before a s = true := by
  simp only [Bool.and_eq_true, beq_iff_eq, Bool.not_eq_true', decide_eq_true_eq] at h5
  obtain ⟨⟨⟨⟨⟨g1, g2⟩, g3⟩, g4⟩, g5⟩, g6⟩ := h5
  simp [Cond.before, Cond.holds, Cond.value, h1, h2, h3, h4, g1, g2, g3, g4, g5, g6]
def isCode : Jvm.Cond → Bool
  | .code _ _ _ _ => true
  | _ => false
theorem all_split {L : List Jvm.Cond} {P : Jvm.Cond → Bool} (h1 : L.all (fun c => isCode c || P c) = true) (h2 : ∀ c ∈ L.filter isCode, P c = true) : L.all P = true := by
  refine List.all_eq_true.mpr fun c hc => ?_
  have h := List.all_eq_true.mp h1 c hc
  rcases Bool.eq_false_or_eq_true (isCode c) with hi | hi
  · exact h2 c (List.mem_filter.mpr ⟨hc, hi⟩)
  · simpa [hi] using h
set_option maxRecDepth 65536 in
theorem w_c0 : (Jvm.Cond.code x code maxLocals ret).before args0 about1 = true := code_word (m := ⟨1, 1⟩) (meth := k1m1) (c := k1c1) (by decide +kernel) rfl rfl rfl (by decide +kernel)
set_option maxRecDepth 65536 in
theorem w_c1 : (Jvm.Cond.code ({ cls := "com/example/ongoing_grant/ongoinggrant/engine/State", name := "isFinal", desc := "()Z" } : Jvm.MethodName) prog_45_method_4_code (1 : Nat) (Option.some Jvm.ClassFile.FieldType.boolean)).before args0 about1 = true := code_word (m := ⟨6, 0⟩) (meth := k6m0) (c := k6c0) (by decide +kernel) rfl rfl rfl (by decide +kernel)
def codes1 : List Jvm.Cond := [Jvm.Cond.code x code maxLocals ret, Jvm.Cond.code ({ cls := "com/example/ongoing_grant/ongoinggrant/engine/State", name := "isFinal", desc := "()Z" } : Jvm.MethodName) prog_45_method_4_code (1 : Nat) (Option.some Jvm.ClassFile.FieldType.boolean)]
set_option maxRecDepth 65536 in
theorem codes_eq : words1.filter isCode = codes1 := rfl
theorem w_codes : ∀ c ∈ words1.filter isCode, c.before args0 about1 = true := by
  rw [codes_eq]
  intro c hc
  simp only [codes1, List.mem_cons, List.not_mem_nil, or_false] at hc
  rcases hc with rfl | rfl
  · exact w_c0
  · exact w_c1
set_option maxRecDepth 65536 in
theorem w_t1 : (words1.take 24).all (fun c => isCode c || c.before args0 about1) = true := by decide +kernel
set_option maxRecDepth 65536 in
theorem w_t2 : (words1.drop 24).all (fun c => isCode c || c.before args0 about1) = true := by decide +kernel
theorem w_tables : (allAtoms (Jvm.Cond.code x code maxLocals ret :: tables_1)).before args0 about1 = true := by
  rw [allAtoms_all]
  show words1.all (fun c => c.before args0 about1) = true
  refine all_split ?_ w_codes
  rw [← List.take_append_drop 24 words1, List.all_append, w_t1, w_t2]
  rfl
set_option maxRecDepth 65536 in
theorem w_case : (Jvm.Cond.and given_1 narrow_1).before args0 about1 = true := by decide +kernel
theorem w_applies : (headSpec (Jvm.Cond.code x code maxLocals ret :: tables_1) room_1).applies x e0.platform about1 = true :=
  (Spec.applies_iff w_frames).mpr ⟨w_running, w_runnable, w_alone, w_named, w_hears, w_ripe, w_room, w_tables⟩
theorem atStart : AtStart classFile x code maxLocals ret World_1 tables_1 room_1 Calls_1 rest_1 Pre_1 launch0 p0 e0 about1 theMethod args0 below0 :=
  ⟨lists_1, trivial, launch0.admits_env _ _ _, launch0.least_env, fairChoices_fair.cas, fairChoices_fair.clock, w_frames, w_args, w_heap, w_applies, trivial, trivial, w_case⟩
end start1
theorem witness_1 : WitnessClaimed_1 := ⟨start1.p0, start1.e0, start1.about1, start1.theMethod, start1.args0, start1.below0, start1.atStart⟩
end Jvm.Pilot.@@N@@
