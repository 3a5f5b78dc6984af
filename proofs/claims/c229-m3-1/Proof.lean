import JvmDerived
import JvmDerived.Pilot.@@N@@Statement
import JvmDerived.Pilot.@@N@@Code
set_option linter.unusedVariables false
set_option linter.unusedSimpArgs false
namespace Jvm.RoadKit
open Sem ClassFile Op Lib Jvm.Stand Jvm.Free Jvm.LawKit
section New
variable {p : Program} {l : Launch} {e : Env} {R : Room} {s : State} {m : MethodId} {args : Array Value} {below : List Frame} {meth : Method} {c : Code} {T : State} {locs : List Loc} {cells slots : Nat}
theorem own_retI (X : Stand p l e R s m args below meth c T locs cells slots) (hx : p.tables.exec = Jvm.exec) {pc : Nat} {Ls : Array Slot} {z : Int32} {rest : List Value} (hret : meth.sig.returnType = some .int) (hd : decode c.code pc = .ok (.ireturn, 1)) {fs : List Frame}
    (hl : ∀ (f : JFrame) (acts : List Action), f.method = m → f.locked = none → f.entered = [] → (doReturn e (T.setTop f) acts (some (.int z))).1 = T.setFrames fs) : Steps p.tables e below (T.setTop (mkF m pc Ls (.int z :: rest))) (T.setFrames fs) :=
  retOut X hx hret rfl (Or.inl ⟨rfl, Or.inl rfl, z, rfl⟩) hd hl
theorem own_retL (X : Stand p l e R s m args below meth c T locs cells slots) (hx : p.tables.exec = Jvm.exec) {pc : Nat} {Ls : Array Slot} {z : Int64} {rest : List Value} (hret : meth.sig.returnType = some .long) (hd : decode c.code pc = .ok (.lreturn, 1)) {fs : List Frame}
    (hl : ∀ (f : JFrame) (acts : List Action), f.method = m → f.locked = none → f.entered = [] → (doReturn e (T.setTop f) acts (some (.long z))).1 = T.setFrames fs) : Steps p.tables e below (T.setTop (mkF m pc Ls (.long z :: rest))) (T.setFrames fs) :=
  retOut X hx hret rfl (Or.inr (Or.inl ⟨rfl, rfl, z, rfl⟩)) hd hl
theorem own_retA (X : Stand p l e R s m args below meth c T locs cells slots) (hx : p.tables.exec = Jvm.exec) {pc : Nat} {Ls : Array Slot} {w : Value} {t : FieldType} {rest : List Value} (hret : meth.sig.returnType = some t) (ht : t.isReference = true) (hw : w.isRef = true) (hd : decode c.code pc = .ok (.areturn, 1)) {fs : List Frame}
    (hl : ∀ (f : JFrame) (acts : List Action), f.method = m → f.locked = none → f.entered = [] → (doReturn e (T.setTop f) acts (some w)).1 = T.setFrames fs) : Steps p.tables e below (T.setTop (mkF m pc Ls (w :: rest))) (T.setFrames fs) :=
  retOut X hx hret (by cases t <;> cases w <;> simp_all [narrow, Value.isRef, FieldType.isReference]) (Or.inr (Or.inr (Or.inr (Or.inr ⟨rfl, ht, hw⟩)))) hd hl
end New
end Jvm.RoadKit
namespace Jvm.Pilot.@@N@@
open Jvm Jvm.ClassFile Sem Op Lib Jvm.Free Jvm.Stand Jvm.LawKit Jvm.RoadKit Bundle Jvm.Pilot.@@N@@.Jvm.D
theorem own_lcEt {x y : Int64} (h : x = y) : lcmpW x y = (0 : Int32) := by rw [lcW]; exact (lc_eq x y).mpr h
theorem own_lcEf {x y : Int64} (h : ¬ (x = y)) : ¬ (lcmpW x y = (0 : Int32)) := by rw [lcW]; exact fun q => h ((lc_eq x y).mp q)
theorem own_lcLt {x y : Int64} (h : x < y) : lcmpW x y < (0 : Int32) := by rw [lcW]; exact (lc_lt x y).mpr h
theorem own_lcLf {x y : Int64} (h : ¬ (x < y)) : ¬ (lcmpW x y < (0 : Int32)) := by rw [lcW]; exact fun q => h ((lc_lt x y).mp q)
theorem own_lcGt {x y : Int64} (h : y < x) : (0 : Int32) < lcmpW x y := by rw [lcW]; exact (lc_gt x y).mpr h
theorem own_lcGf {x y : Int64} (h : ¬ (y < x)) : ¬ ((0 : Int32) < lcmpW x y) := by rw [lcW]; exact fun q => h ((lc_gt x y).mp q)
theorem own_ext_refl (h : Heap) : Ext h h := ⟨Nat.le_refl _, fun _ _ q => q⟩
theorem own_ext_trans {h h' h'' : Heap} (E : Ext h h') (F : Ext h' h'') : Ext h h'' := ⟨Nat.le_trans E.1 F.1, fun a c q => F.2 a c (E.2 a c q)⟩
theorem own_ext_wr {h h' h'' : Heap} {a : Addr} {sl : Nat} {v : Value} (E : Ext h h') (W : Wr h' h'' a sl v) (q : h.size ≤ a) : Ext h h'' := by
  obtain ⟨cell, -, -, -, rfl⟩ := W
  refine ⟨by simpa using E.1, fun b c r => ?_⟩
  have hb : b < h.size := (Array.getElem?_eq_some_iff.mp r).1
  rw [Array.getElem?_setIfInBounds_ne (Nat.ne_of_gt (Nat.lt_of_lt_of_le hb q))]
  exact E.2 b c r
theorem own_fldI {args : Array Value} {s : State} {t : Term} {a : Addr} {C n d : String} {k : Int32} (ev : t.eval args s none [] s = some (.ref a)) (h : (Cond.eq (.field t C n d) (.int k)).value args s none s [] = some true) : Fld s s.heap a C n d (.int k) := by
  obtain ⟨u, v, h1, h2, -, k2⟩ := cmp_v (Or.inl h)
  have e2 : (Term.int k).eval args s none [] s = some (.int k) := rfl
  cases e2.symm.trans h2
  obtain ⟨z, rfl⟩ := k2
  have q : z = k := by simpa [Cond.value, h1, e2] using h
  subst q
  exact Fld.start ((fld_at ev).symm.trans h1)
theorem own_fldJ {args : Array Value} {s : State} {t : Term} {a : Addr} {C n d : String} {k : Int64} (ev : t.eval args s none [] s = some (.ref a)) (h : (Cond.eq (.field t C n d) (.long k)).value args s none s [] = some true) : Fld s s.heap a C n d (.long k) := by
  obtain ⟨u, v, h1, h2, -, k2⟩ := cmp_v (Or.inl h)
  have e2 : (Term.long k).eval args s none [] s = some (.long k) := rfl
  cases e2.symm.trans h2
  obtain ⟨z, rfl⟩ := k2
  have q : z = k := by simpa [Cond.value, h1, e2] using h
  subst q
  exact Fld.start ((fld_at ev).symm.trans h1)
theorem own_fldN {args : Array Value} {s : State} {t : Term} {a : Addr} {C n d : String} (ev : t.eval args s none [] s = some (.ref a)) (h : (Cond.eq (.field t C n d) .null).value args s none s [] = some true) : Fld s s.heap a C n d .null :=
  Fld.start ((fld_at ev).symm.trans (null_v h))
theorem own_eqR {args : Array Value} {s : State} {t u : Term} {b : Addr} (eu : u.eval args s none [] s = some (.ref b)) (h : (Cond.eq t u).value args s none s [] = some true) : t.eval args s none [] s = some (.ref b) := by
  obtain ⟨x, y, h1, h2, k1, k2⟩ := cmp_v (Or.inl h)
  cases eu.symm.trans h2
  have hx : x.isRef = true := k2.2
  have q := gotT (eq_R h1 h2 hx rfl) h
  rw [h1, q]
theorem own_fldR {args : Array Value} {s : State} {t u : Term} {a b : Addr} {C n d : String} (ev : t.eval args s none [] s = some (.ref a)) (eu : u.eval args s none [] s = some (.ref b)) (h : (Cond.eq (.field t C n d) u).value args s none s [] = some true) : Fld s s.heap a C n d (.ref b) :=
  Fld.start ((fld_at ev).symm.trans (own_eqR eu h))
theorem own_elI {args : Array Value} {s : State} {t : Term} {a : Addr} {cl : Cell} {j k : Int32} {i : Nat} (ev : t.eval args s none [] s = some (.ref a)) (hc : s.heap[a]? = some cl) (h : (Cond.eq (.elem t (.int j)) (.int k)).value args s none s [] = some true) (hj : j.toNatClampNeg = i) : cl.slots[i]? = some (.int k) := by
  obtain ⟨u, v, h1, h2, -, k2⟩ := cmp_v (Or.inl h)
  have e2 : (Term.int k).eval args s none [] s = some (.int k) := rfl
  cases e2.symm.trans h2
  obtain ⟨z, rfl⟩ := k2
  have q : z = k := by simpa [Cond.value, h1, e2] using h
  subst q hj
  exact (elem_in h1 ev (rfl : (Term.int j).eval args s none [] s = some (.int j)) hc).2
theorem own_elR {args : Array Value} {s : State} {t u : Term} {a b : Addr} {cl : Cell} {j : Int32} {i : Nat} (ev : t.eval args s none [] s = some (.ref a)) (eu : u.eval args s none [] s = some (.ref b)) (hc : s.heap[a]? = some cl) (h : (Cond.eq (.elem t (.int j)) u).value args s none s [] = some true) (hj : j.toNatClampNeg = i) : cl.slots[i]? = some (.ref b) := by
  subst hj
  exact (elem_in (own_eqR eu h) ev (rfl : (Term.int j).eval args s none [] s = some (.int j)) hc).2
theorem own_len {args : Array Value} {s : State} {t : Term} {a : Addr} {cl : Cell} {ty : FieldType} {k : Int32} (ev : t.eval args s none [] s = some (.ref a)) (A : Arr s s.heap a cl ty) (h : (Cond.eq (.length t) (.int k)).value args s none s [] = some true) : cl.slots.size < 2 ^ 31 ∧ cl.slots.size.toInt32 = k := by
  obtain ⟨u, v, h1, h2, -, k2⟩ := cmp_v (Or.inl h)
  have e2 : (Term.int k).eval args s none [] s = some (.int k) := rfl
  cases e2.symm.trans h2
  obtain ⟨z, rfl⟩ := k2
  have q : z = k := by simpa [Cond.value, h1, e2] using h
  subst q
  have ha := A.fin (Vm.Alike.refl _)
  simp only [Term.eval, ev, ha, Option.bind_eq_bind, Option.bind_some] at h1
  split at h1
  · rename_i q
    exact ⟨q, by simpa using h1⟩
  · cases h1
theorem own_no3 {i : Int32} (h0 : ¬ i = (0 : Int32)) (h1 : ¬ i = (1 : Int32)) (h2 : ¬ i = (2 : Int32)) (h3 : ¬ i < (0 : Int32)) (h4 : i < (3 : Int32)) : False := by
  rw [← Int32.toInt_inj] at h0 h1 h2
  rw [Int32.lt_iff_toInt_lt] at h3 h4
  have e0 : (0 : Int32).toInt = 0 := by decide
  have e1 : (1 : Int32).toInt = 1 := by decide
  have e2 : (2 : Int32).toInt = 2 := by decide
  have e3 : (3 : Int32).toInt = 3 := by decide
  omega
def World (Z : State) (h : Heap) (wSUSCEPTIBLE : Addr) (wSTATES : Addr) (wSWM : Addr) (wINFECTED : Addr) (wRECOVERED : Addr) (kSTATES : ClassId) (kSWM : ClassId) : Prop := Sta Z h "com/example/rippletide/rippletide/model/State" "SUSCEPTIBLE" "Lcom/example/rippletide/rippletide/model/State;" (.ref wSUSCEPTIBLE) ∧ Exa Z h wSUSCEPTIBLE "com/example/rippletide/rippletide/model/State" ∧ Sta Z h "com/example/rippletide/rippletide/io/HistoryFormat" "STATES" "[Lcom/example/rippletide/rippletide/model/State;" (.ref wSTATES) ∧ Sta Z h "com/example/rippletide/rippletide/io/HistoryFormat$1" "$SwitchMap$com$example$rippletide$rippletide$model$State" "[I" (.ref wSWM) ∧ Fld Z h wSUSCEPTIBLE "java/lang/Enum" "ordinal" "I" (.int (0 : Int32)) ∧ Sta Z h "com/example/rippletide/rippletide/model/State" "INFECTED" "Lcom/example/rippletide/rippletide/model/State;" (.ref wINFECTED) ∧ Exa Z h wINFECTED "com/example/rippletide/rippletide/model/State" ∧ Fld Z h wINFECTED "java/lang/Enum" "ordinal" "I" (.int (1 : Int32)) ∧ Sta Z h "com/example/rippletide/rippletide/model/State" "RECOVERED" "Lcom/example/rippletide/rippletide/model/State;" (.ref wRECOVERED) ∧ Exa Z h wRECOVERED "com/example/rippletide/rippletide/model/State" ∧ Fld Z h wRECOVERED "java/lang/Enum" "ordinal" "I" (.int (2 : Int32)) ∧ Arv Z h wSTATES kSTATES (.object "com/example/rippletide/rippletide/model/State") (3 : Int32) [(.ref wSUSCEPTIBLE), (.ref wINFECTED), (.ref wRECOVERED)] .null ∧ Arv Z h wSWM kSWM .int (3 : Int32) [(.int (1 : Int32)), (.int (2 : Int32)), (.int (3 : Int32))] (.int (0 : Int32)) ∧ True
theorem World.ext {Z : State} {h h' : Heap} {wSUSCEPTIBLE : Addr} {wSTATES : Addr} {wSWM : Addr} {wINFECTED : Addr} {wRECOVERED : Addr} {kSTATES : ClassId} {kSWM : ClassId} (W : World Z h wSUSCEPTIBLE wSTATES wSWM wINFECTED wRECOVERED kSTATES kSWM) (E : Ext h h') : World Z h' wSUSCEPTIBLE wSTATES wSWM wINFECTED wRECOVERED kSTATES kSWM := by
  obtain ⟨SSUSCEPTIBLE, ESUSCEPTIBLE, SSTATES, SSWM, FSUSCEPTIBLE_ordinal, SINFECTED, EINFECTED, FINFECTED_ordinal, SRECOVERED, ERECOVERED, FRECOVERED_ordinal, ASTATES, ASWM, -⟩ := W
  exact ⟨SSUSCEPTIBLE.ext E, ESUSCEPTIBLE.ext E, SSTATES.ext E, SSWM.ext E, FSUSCEPTIBLE_ordinal.ext E, SINFECTED.ext E, EINFECTED.ext E, FINFECTED_ordinal.ext E, SRECOVERED.ext E, ERECOVERED.ext E, FRECOVERED_ordinal.ext E, ASTATES.ext E, ASWM.ext E, trivial⟩
theorem d1_0 : decode prog_13_method_3_code 0 = .ok (.iload_n 0, 1) := by decide +kernel
theorem d1_1 : decode prog_13_method_3_code 1 = .ok (.ifCond .lt 19, 3) := by decide +kernel
theorem d1_20 : decode prog_13_method_3_code 20 = .ok (.aconst_null, 1) := by decide +kernel
theorem d1_21 : decode prog_13_method_3_code 21 = .ok (.areturn, 1) := by decide +kernel
theorem d1_4 : decode prog_13_method_3_code 4 = .ok (.iload_n 0, 1) := by decide +kernel
theorem d1_5 : decode prog_13_method_3_code 5 = .ok (.getstatic 28, 3) := by decide +kernel
theorem d1_8 : decode prog_13_method_3_code 8 = .ok (.arraylength, 1) := by decide +kernel
theorem d1_9 : decode prog_13_method_3_code 9 = .ok (.if_icmp .ge 11, 3) := by decide +kernel
theorem d1_12 : decode prog_13_method_3_code 12 = .ok (.getstatic 28, 3) := by decide +kernel
theorem d1_15 : decode prog_13_method_3_code 15 = .ok (.iload_n 0, 1) := by decide +kernel
theorem d1_16 : decode prog_13_method_3_code 16 = .ok (.aaload, 1) := by decide +kernel
theorem d1_17 : decode prog_13_method_3_code 17 = .ok (.goto 4, 3) := by decide +kernel
theorem pn_0 : plainName "com/example/rippletide/rippletide/io/HistoryFormat" = true := by first | (simp [plainName, overriddenIn]; done) | decide +kernel
def f1 (p0 : Int32) (wSUSCEPTIBLE : Addr) (wSTATES : Addr) (wSWM : Addr) (wINFECTED : Addr) (wRECOVERED : Addr) (kSTATES : ClassId) (kSWM : ClassId) : Value := if p0 < (0 : Int32) then .null else if p0 < (3 : Int32) then if p0 = (0 : Int32) then (.ref wSUSCEPTIBLE) else if p0 = (1 : Int32) then (.ref wINFECTED) else (.ref wRECOVERED) else .null
theorem ef_1 (m : MethodId) (p0 : Int32) : entryFrame m #[(.int p0)] 1 = mkF m 0 #[.val (.int p0)] [] := by first | (simp [entryFrame, mkF, argsToLocals, Value.category]; done) | rfl
def Q1 (Z : State) (p0 : Int32) (wSUSCEPTIBLE : Addr) (wSTATES : Addr) (wSWM : Addr) (wINFECTED : Addr) (wRECOVERED : Addr) (kSTATES : ClassId) (kSWM : ClassId) (h0 : Heap) (n0 : Nat) (v : Option Value) (h : Heap) (L : List Loc) : Prop := v = some (f1 p0 wSUSCEPTIBLE wSTATES wSWM wINFECTED wRECOVERED kSTATES kSWM) ∧ Fr n0 L ∧ h = h0
set_option maxRecDepth 65536 in
set_option maxHeartbeats 40000000 in
theorem rm1 (l : Launch) (Z : State) (a0 : Array Value) (hw : ∀ d ∈ tables_1, d.before a0 Z = true) (ws : List Jvm.Cond) (p0 : Int32) (wSUSCEPTIBLE : Addr) (wSTATES : Addr) (wSWM : Addr) (wINFECTED : Addr) (wRECOVERED : Addr) (kSTATES : ClassId) (kSWM : ClassId) (h0 : Heap) (n0 : Nat) (Z0 : n0 ≤ h0.size) (W0 : World Z h0 wSUSCEPTIBLE wSTATES wSWM wINFECTED wRECOVERED kSTATES kSWM) :
    MetFree l (⟨"com/example/rippletide/rippletide/io/HistoryFormat", "state", "(I)Lcom/example/rippletide/rippletide/model/State;"⟩ : MethodName) (head1 (Jvm.Cond.code (⟨"com/example/rippletide/rippletide/io/HistoryFormat", "state", "(I)Lcom/example/rippletide/rippletide/model/State;"⟩ : MethodName) prog_13_method_3_code 1 (some (.object "com/example/rippletide/rippletide/model/State")) :: ws) ({ frames := 0, cells := 0, slots := 0, locals := 0 } : Room)) (fun a U => a = #[(.int p0)] ∧ Z.Warmed39 U.vm ∧ U.heap = h0) (fun _ _ _ _ _ => True) (fun _ U o U' => ∃ v L, o = .returned v ∧ Q1 Z p0 wSUSCEPTIBLE wSTATES wSWM wINFECTED wRECOVERED kSTATES kSWM h0 n0 v U'.heap L ∧ FrameEnd U o U' L ({ frames := 0, cells := 0, slots := 0, locals := 0 } : Room).cells ({ frames := 0, cells := 0, slots := 0, locals := 0 } : Room).slots) := by
  refine MetFree.of_bodySF (plainFor_of_name pn_0) hisR ?_
  intro p e s m args below meth c s₁ Bd hml0 hP hK
  obtain ⟨rfl, hZ, hh⟩ := hP
  have hx := Bd.exec
  have hby := Bd.bytes
  have hml : c.maxLocals = 1 := hml0
  have hown : s.vm.findClass "com/example/rippletide/rippletide/io/HistoryFormat" = some m.cls := findClass_of_methodNamed Bd.named
  have X0 : Stand p l e ({ frames := 0, cells := 0, slots := 0, locals := 0 } : Room) s m #[(.int p0)] below meth c s₁ [] 0 0 := Stand.of_body Bd
  have e0 : s₁.heap = h0 := by rw [← hh, Bd.state]; rfl
  have N0 := Fr.nil n0
  have W1 := W0
  obtain ⟨SSUSCEPTIBLE, ESUSCEPTIBLE, SSTATES, SSWM, FSUSCEPTIBLE_ordinal, SINFECTED, EINFECTED, FINFECTED_ordinal, SRECOVERED, ERECOVERED, FRECOVERED_ordinal, ASTATES, ASWM, -⟩ := W1
  have pre0 : ∀ t, Steps p.tables e below (s₁.setTop (mkF m 0 #[.val (.int p0)] [])) t → Steps p.tables e below (s₁.setTop (entryFrame m #[(.int p0)] 1)) t := fun t k => castTop (ef_1 m p0) k
  have k1 : ∀ t, Steps p.tables e below (s₁.setTop (mkF m 1 #[.val (.int p0)] [(.int p0)])) t → Steps p.tables e below (s₁.setTop (entryFrame m #[(.int p0)] 1)) t := fun t kt => pre0 t (by
    show Steps p.tables e below (s₁.setTop (mkF m 0 #[.val (.int p0)] [])) _
    refine XS.iloadN X0.here hx rfl (hb hby d1_0) rfl ?_
    exact kt)
  by_cases hc2 : p0 < (0 : Int32)
  · obtain ⟨fs, hr, hrun, hended, hW, hsame⟩ := X0.leave (v := some .null) (fun h => by rw [Bd.returns] at h; cases h)
    refine ⟨_, _, k1 _ ?_, hrun, hended, _, _, rfl, ?_, ⟨_, rfl⟩, hW, hsame.mono (by decide) (by decide)⟩
    · show Steps p.tables e below (s₁.setTop (mkF m 1 #[.val (.int p0)] [(.int p0)])) _
      refine XS.ifYes X0.here hx rfl (pc0 := 1) (pc' := 20) rfl (hb hby d1_1) rfl ((if0 _ _).trans (tlt (hc2 : p0 < (0 : Int32))).1) (by decide) (by decide) ?_
      show Steps p.tables e below (s₁.setTop (mkF m 20 #[.val (.int p0)] [])) _
      refine XS.aconstNull X0.here hx rfl (hb hby d1_20) ?_
      show Steps p.tables e below (s₁.setTop (mkF m 21 #[.val (.int p0)] [.null])) _
      exact own_retA X0 hx Bd.returns rfl rfl (hb hby d1_21) hr
    · show Q1 Z p0 wSUSCEPTIBLE wSTATES wSWM wINFECTED wRECOVERED kSTATES kSWM h0 n0 _ s₁.heap _
      rw [e0]
      exact ⟨by rw [f1, if_pos hc2], N0, rfl⟩
  · obtain ⟨T3, X3, e3, st3⟩ := getS2 X0 hx hZ hown (host := "") (Or.inl (hw _ (List.mem_of_getElem? (i := 7) rfl))) Via.refl e0 SSTATES (g := (mkF m 5 #[.val (.int p0)] [(.int p0)])) rfl (hb hby d1_5)
    obtain ⟨cla4, Ara4, qa4, Sa4, Na4, -, -⟩ := And.left ⟨ASTATES, trivial⟩
    have k5 : ∀ t, Steps p.tables e below (T3.setTop (mkF m 9 #[.val (.int p0)] [(.int (3 : Int32)), (.int p0)])) t → Steps p.tables e below (s₁.setTop (entryFrame m #[(.int p0)] 1)) t := fun t kt => k1 t (by
      show Steps p.tables e below (s₁.setTop (mkF m 1 #[.val (.int p0)] [(.int p0)])) _
      refine XS.ifNo X0.here hx rfl (hb hby d1_1) rfl ((if0 _ _).trans (flt (hc2 : ¬ (p0 < (0 : Int32)))).1) ?_
      show Steps p.tables e below (s₁.setTop (mkF m 4 #[.val (.int p0)] [])) _
      refine XS.iloadN X0.here hx rfl (hb hby d1_4) rfl ?_
      show Steps p.tables e below (s₁.setTop (mkF m 5 #[.val (.int p0)] [(.int p0)])) _
      refine st3 _ ?_
      show Steps p.tables e below (T3.setTop (mkF m 8 #[.val (.int p0)] [(.ref wSTATES), (.int p0)])) _
      refine X3.arraylength hx (by rw [e3]; exact Ara4.1) (State.isArrayOf_alike hZ.alike Ara4.2.1) (g := (mkF m 8 #[.val (.int p0)] [(.ref wSTATES), (.int p0)])) rfl rfl (hb hby d1_8) _ ?_
      rw [len_of Sa4 Na4]
      exact kt)
    by_cases hc6 : p0 < (3 : Int32)
    · have k7 : ∀ t, Steps p.tables e below (T3.setTop (mkF m 12 #[.val (.int p0)] [])) t → Steps p.tables e below (s₁.setTop (entryFrame m #[(.int p0)] 1)) t := fun t kt => k5 t (by
        show Steps p.tables e below (T3.setTop (mkF m 9 #[.val (.int p0)] [(.int (3 : Int32)), (.int p0)])) _
        refine XS.icmpNo X3.here hx rfl (hb hby d1_9) rfl (tlt (hc6 : p0 < (3 : Int32))).2.1 ?_
        exact kt)
      by_cases hc8 : p0 = (0 : Int32)
      · obtain ⟨T9, X9, e9, st9⟩ := getS2 X3 hx hZ hown (host := "") (Or.inl (hw _ (List.mem_of_getElem? (i := 7) rfl))) Via.refl e3 SSTATES (g := (mkF m 12 #[.val (.int p0)] [])) rfl (hb hby d1_12)
        obtain ⟨cla10, Ara10, qa10, Sa10, Na10, Ha10, Ga10⟩ := And.left ⟨ASTATES, trivial⟩
        have hina10 : ¬ (p0 < 0 ∨ cla10.slots.size ≤ (p0).toNatClampNeg) := by rw [hc8]; exact inb_of Sa10 ⟨by decide, by decide⟩
        obtain ⟨fs, hr, hrun, hended, hW, hsame⟩ := X9.leave (v := some (.ref wSUSCEPTIBLE)) (fun h => by rw [Bd.returns] at h; cases h)
        refine ⟨_, _, k7 _ ?_, hrun, hended, _, _, rfl, ?_, ⟨_, rfl⟩, hW, hsame.mono (by decide) (by decide)⟩
        · show Steps p.tables e below (T3.setTop (mkF m 12 #[.val (.int p0)] [])) _
          refine st9 _ ?_
          show Steps p.tables e below (T9.setTop (mkF m 15 #[.val (.int p0)] [(.ref wSTATES)])) _
          refine XS.iloadN X9.here hx rfl (hb hby d1_15) rfl ?_
          show Steps p.tables e below (T9.setTop (mkF m 16 #[.val (.int p0)] [(.int p0), (.ref wSTATES)])) _
          refine X9.aaload hx (j := p0) (v := (.ref wSUSCEPTIBLE)) (by rw [e9]; exact Ara10.1) (State.isArrayOf_alike hZ.alike Ara10.2.1) rfl Ara10.2.2 hina10 (Ha10.at hina10 (by rw [hc8]; rfl)) (g := (mkF m 16 #[.val (.int p0)] [(.int p0), (.ref wSTATES)])) rfl rfl (hb hby d1_16) _ ?_
          show Steps p.tables e below (T9.setTop (mkF m 17 #[.val (.int p0)] [(.ref wSUSCEPTIBLE)])) _
          refine XS.goto X9.here hx rfl (pc0 := 17) (pc' := 21) rfl (hb hby d1_17) (by decide) (by decide) ?_
          show Steps p.tables e below (T9.setTop (mkF m 21 #[.val (.int p0)] [(.ref wSUSCEPTIBLE)])) _
          exact own_retA X9 hx Bd.returns rfl rfl (hb hby d1_21) hr
        · show Q1 Z p0 wSUSCEPTIBLE wSTATES wSWM wINFECTED wRECOVERED kSTATES kSWM h0 n0 _ T9.heap _
          rw [e9]
          exact ⟨by rw [f1, if_neg hc2, if_pos hc6, if_pos hc8], N0, rfl⟩
      · by_cases hc11 : p0 = (1 : Int32)
        · obtain ⟨T12, X12, e12, st12⟩ := getS2 X3 hx hZ hown (host := "") (Or.inl (hw _ (List.mem_of_getElem? (i := 7) rfl))) Via.refl e3 SSTATES (g := (mkF m 12 #[.val (.int p0)] [])) rfl (hb hby d1_12)
          obtain ⟨cla13, Ara13, qa13, Sa13, Na13, Ha13, Ga13⟩ := And.left ⟨ASTATES, trivial⟩
          have hina13 : ¬ (p0 < 0 ∨ cla13.slots.size ≤ (p0).toNatClampNeg) := by rw [hc11]; exact inb_of Sa13 ⟨by decide, by decide⟩
          obtain ⟨fs, hr, hrun, hended, hW, hsame⟩ := X12.leave (v := some (.ref wINFECTED)) (fun h => by rw [Bd.returns] at h; cases h)
          refine ⟨_, _, k7 _ ?_, hrun, hended, _, _, rfl, ?_, ⟨_, rfl⟩, hW, hsame.mono (by decide) (by decide)⟩
          · show Steps p.tables e below (T3.setTop (mkF m 12 #[.val (.int p0)] [])) _
            refine st12 _ ?_
            show Steps p.tables e below (T12.setTop (mkF m 15 #[.val (.int p0)] [(.ref wSTATES)])) _
            refine XS.iloadN X12.here hx rfl (hb hby d1_15) rfl ?_
            show Steps p.tables e below (T12.setTop (mkF m 16 #[.val (.int p0)] [(.int p0), (.ref wSTATES)])) _
            refine X12.aaload hx (j := p0) (v := (.ref wINFECTED)) (by rw [e12]; exact Ara13.1) (State.isArrayOf_alike hZ.alike Ara13.2.1) rfl Ara13.2.2 hina13 (Ha13.at hina13 (by rw [hc11]; rfl)) (g := (mkF m 16 #[.val (.int p0)] [(.int p0), (.ref wSTATES)])) rfl rfl (hb hby d1_16) _ ?_
            show Steps p.tables e below (T12.setTop (mkF m 17 #[.val (.int p0)] [(.ref wINFECTED)])) _
            refine XS.goto X12.here hx rfl (pc0 := 17) (pc' := 21) rfl (hb hby d1_17) (by decide) (by decide) ?_
            show Steps p.tables e below (T12.setTop (mkF m 21 #[.val (.int p0)] [(.ref wINFECTED)])) _
            exact own_retA X12 hx Bd.returns rfl rfl (hb hby d1_21) hr
          · show Q1 Z p0 wSUSCEPTIBLE wSTATES wSWM wINFECTED wRECOVERED kSTATES kSWM h0 n0 _ T12.heap _
            rw [e12]
            exact ⟨by rw [f1, if_neg hc2, if_pos hc6, if_neg hc8, if_pos hc11], N0, rfl⟩
        · have hf14 : p0 = (2 : Int32) := (Decidable.byContradiction fun q => own_no3 hc8 hc11 q hc2 hc6)
          obtain ⟨T15, X15, e15, st15⟩ := getS2 X3 hx hZ hown (host := "") (Or.inl (hw _ (List.mem_of_getElem? (i := 7) rfl))) Via.refl e3 SSTATES (g := (mkF m 12 #[.val (.int p0)] [])) rfl (hb hby d1_12)
          obtain ⟨cla16, Ara16, qa16, Sa16, Na16, Ha16, Ga16⟩ := And.left ⟨ASTATES, trivial⟩
          have hina16 : ¬ (p0 < 0 ∨ cla16.slots.size ≤ (p0).toNatClampNeg) := by rw [hf14]; exact inb_of Sa16 ⟨by decide, by decide⟩
          obtain ⟨fs, hr, hrun, hended, hW, hsame⟩ := X15.leave (v := some (.ref wRECOVERED)) (fun h => by rw [Bd.returns] at h; cases h)
          refine ⟨_, _, k7 _ ?_, hrun, hended, _, _, rfl, ?_, ⟨_, rfl⟩, hW, hsame.mono (by decide) (by decide)⟩
          · show Steps p.tables e below (T3.setTop (mkF m 12 #[.val (.int p0)] [])) _
            refine st15 _ ?_
            show Steps p.tables e below (T15.setTop (mkF m 15 #[.val (.int p0)] [(.ref wSTATES)])) _
            refine XS.iloadN X15.here hx rfl (hb hby d1_15) rfl ?_
            show Steps p.tables e below (T15.setTop (mkF m 16 #[.val (.int p0)] [(.int p0), (.ref wSTATES)])) _
            refine X15.aaload hx (j := p0) (v := (.ref wRECOVERED)) (by rw [e15]; exact Ara16.1) (State.isArrayOf_alike hZ.alike Ara16.2.1) rfl Ara16.2.2 hina16 (Ha16.at hina16 (by rw [hf14]; rfl)) (g := (mkF m 16 #[.val (.int p0)] [(.int p0), (.ref wSTATES)])) rfl rfl (hb hby d1_16) _ ?_
            show Steps p.tables e below (T15.setTop (mkF m 17 #[.val (.int p0)] [(.ref wRECOVERED)])) _
            refine XS.goto X15.here hx rfl (pc0 := 17) (pc' := 21) rfl (hb hby d1_17) (by decide) (by decide) ?_
            show Steps p.tables e below (T15.setTop (mkF m 21 #[.val (.int p0)] [(.ref wRECOVERED)])) _
            exact own_retA X15 hx Bd.returns rfl rfl (hb hby d1_21) hr
          · show Q1 Z p0 wSUSCEPTIBLE wSTATES wSWM wINFECTED wRECOVERED kSTATES kSWM h0 n0 _ T15.heap _
            rw [e15]
            exact ⟨by rw [f1, if_neg hc2, if_pos hc6, if_neg hc8, if_neg hc11], N0, rfl⟩
    · obtain ⟨fs, hr, hrun, hended, hW, hsame⟩ := X3.leave (v := some .null) (fun h => by rw [Bd.returns] at h; cases h)
      refine ⟨_, _, k5 _ ?_, hrun, hended, _, _, rfl, ?_, ⟨_, rfl⟩, hW, hsame.mono (by decide) (by decide)⟩
      · show Steps p.tables e below (T3.setTop (mkF m 9 #[.val (.int p0)] [(.int (3 : Int32)), (.int p0)])) _
        refine XS.icmpYes X3.here hx rfl (pc0 := 9) (pc' := 20) rfl (hb hby d1_9) rfl (flt (hc6 : ¬ (p0 < (3 : Int32)))).2.1 (by decide) (by decide) ?_
        show Steps p.tables e below (T3.setTop (mkF m 20 #[.val (.int p0)] [])) _
        refine XS.aconstNull X3.here hx rfl (hb hby d1_20) ?_
        show Steps p.tables e below (T3.setTop (mkF m 21 #[.val (.int p0)] [.null])) _
        exact own_retA X3 hx Bd.returns rfl rfl (hb hby d1_21) hr
      · show Q1 Z p0 wSUSCEPTIBLE wSTATES wSWM wINFECTED wRECOVERED kSTATES kSWM h0 n0 _ T3.heap _
        rw [e3]
        exact ⟨by rw [f1, if_neg hc2, if_neg hc6], N0, rfl⟩
theorem d2_0 : decode jdk_37_method_2_code 0 = .ok (.aload_n 0, 1) := by decide +kernel
theorem d2_1 : decode jdk_37_method_2_code 1 = .ok (.getfield 7, 3) := by decide +kernel
theorem d2_4 : decode jdk_37_method_2_code 4 = .ok (.ireturn, 1) := by decide +kernel
theorem pn_1 : plainName "java/lang/Enum" = true := by first | (simp [plainName, overriddenIn]; done) | decide +kernel
def f2 (p0 : Addr) (u_p0_ordinal : Int32) : Int32 := u_p0_ordinal
theorem ef_2 (m : MethodId) (p0 : Addr) : entryFrame m #[(.ref p0)] 1 = mkF m 0 #[.val (.ref p0)] [] := by first | (simp [entryFrame, mkF, argsToLocals, Value.category]; done) | rfl
def Q2 (Z : State) (p0 : Addr) (u_p0_ordinal : Int32) (h0 : Heap) (n0 : Nat) (v : Option Value) (h : Heap) (L : List Loc) : Prop := v = some (.int (f2 p0 u_p0_ordinal)) ∧ Fr n0 L ∧ h = h0
set_option maxRecDepth 65536 in
set_option maxHeartbeats 40000000 in
theorem rm2 (l : Launch) (Z : State) (a0 : Array Value) (hw : ∀ d ∈ tables_1, d.before a0 Z = true) (ws : List Jvm.Cond) (p0 : Addr) (u_p0_ordinal : Int32) (h0 : Heap) (n0 : Nat) (Z0 : n0 ≤ h0.size) (G_p0_ordinal : Fld Z h0 p0 "java/lang/Enum" "ordinal" "I" (.int u_p0_ordinal)) :
    MetFree l (⟨"java/lang/Enum", "ordinal", "()I"⟩ : MethodName) (head1 (Jvm.Cond.code (⟨"java/lang/Enum", "ordinal", "()I"⟩ : MethodName) jdk_37_method_2_code 1 (some .int) :: ws) ({ frames := 0, cells := 0, slots := 0, locals := 0 } : Room)) (fun a U => a = #[(.ref p0)] ∧ Z.Warmed39 U.vm ∧ U.heap = h0) (fun _ _ _ _ _ => True) (fun _ U o U' => ∃ v L, o = .returned v ∧ Q2 Z p0 u_p0_ordinal h0 n0 v U'.heap L ∧ FrameEnd U o U' L ({ frames := 0, cells := 0, slots := 0, locals := 0 } : Room).cells ({ frames := 0, cells := 0, slots := 0, locals := 0 } : Room).slots) := by
  refine MetFree.of_bodySF (plainFor_of_name pn_1) hisR ?_
  intro p e s m args below meth c s₁ Bd hml0 hP hK
  obtain ⟨rfl, hZ, hh⟩ := hP
  have hx := Bd.exec
  have hby := Bd.bytes
  have hml : c.maxLocals = 1 := hml0
  have hown : s.vm.findClass "java/lang/Enum" = some m.cls := findClass_of_methodNamed Bd.named
  have X0 : Stand p l e ({ frames := 0, cells := 0, slots := 0, locals := 0 } : Room) s m #[(.ref p0)] below meth c s₁ [] 0 0 := Stand.of_body Bd
  have e0 : s₁.heap = h0 := by rw [← hh, Bd.state]; rfl
  have N0 := Fr.nil n0
  have pre0 : ∀ t, Steps p.tables e below (s₁.setTop (mkF m 0 #[.val (.ref p0)] [])) t → Steps p.tables e below (s₁.setTop (entryFrame m #[(.ref p0)] 1)) t := fun t k => castTop (ef_2 m p0) k
  obtain ⟨T17, X17, e17, st17⟩ := getF X0 hx hZ hown (host := "") (Or.inl (hw _ (List.mem_of_getElem? (i := 22) rfl))) Via.refl e0 G_p0_ordinal (g := (mkF m 1 #[.val (.ref p0)] [(.ref p0)])) rfl rfl (hb hby d2_1)
  obtain ⟨fs, hr, hrun, hended, hW, hsame⟩ := X17.leave (v := some (.int u_p0_ordinal)) (fun h => by rw [Bd.returns] at h; cases h)
  refine ⟨_, _, pre0 _ ?_, hrun, hended, _, _, rfl, ?_, ⟨_, rfl⟩, hW, hsame.mono (by decide) (by decide)⟩
  · show Steps p.tables e below (s₁.setTop (mkF m 0 #[.val (.ref p0)] [])) _
    refine XS.aloadN X0.here hx rfl (hb hby d2_0) rfl rfl ?_
    show Steps p.tables e below (s₁.setTop (mkF m 1 #[.val (.ref p0)] [(.ref p0)])) _
    refine st17 _ ?_
    show Steps p.tables e below (T17.setTop (mkF m 4 #[.val (.ref p0)] [(.int u_p0_ordinal)])) _
    exact own_retI X17 hx Bd.returns (hb hby d2_4) hr
  · show Q2 Z p0 u_p0_ordinal h0 n0 _ T17.heap _
    rw [e17]
    exact ⟨by rw [f2], N0, rfl⟩
theorem d3_0 : decode prog_13_method_2_code 0 = .ok (.getstatic 11, 3) := by decide +kernel
theorem d3_3 : decode prog_13_method_2_code 3 = .ok (.aload_n 0, 1) := by decide +kernel
theorem d3_4 : decode prog_13_method_2_code 4 = .ok (.invokevirtual 17, 3) := by decide +kernel
theorem pd_0 : parseMethodDescriptor "()I" = some ⟨[], some .int⟩ := by decide +kernel
theorem d3_7 : decode prog_13_method_2_code 7 = .ok (.iaload, 1) := by decide +kernel
theorem d3_8 : decode prog_13_method_2_code 8 = .ok (.tableswitch 28 1 3 #[38, 42, 46], 28) := by decide +kernel
theorem d3_46 : decode prog_13_method_2_code 46 = .ok (.iconst 0, 1) := by decide +kernel
theorem d3_47 : decode prog_13_method_2_code 47 = .ok (.goto 8, 3) := by decide +kernel
theorem d3_55 : decode prog_13_method_2_code 55 = .ok (.ireturn, 1) := by decide +kernel
def f3 (wSUSCEPTIBLE : Addr) (wSTATES : Addr) (wSWM : Addr) (wINFECTED : Addr) (wRECOVERED : Addr) (kSTATES : ClassId) (kSWM : ClassId) : Int32 := (0 : Int32)
theorem ef_3 (m : MethodId) : entryFrame m #[(.ref wSUSCEPTIBLE)] 1 = mkF m 0 #[.val (.ref wSUSCEPTIBLE)] [] := by first | (simp [entryFrame, mkF, argsToLocals, Value.category]; done) | rfl
def Q3 (Z : State) (wSUSCEPTIBLE : Addr) (wSTATES : Addr) (wSWM : Addr) (wINFECTED : Addr) (wRECOVERED : Addr) (kSTATES : ClassId) (kSWM : ClassId) (h0 : Heap) (n0 : Nat) (v : Option Value) (h : Heap) (L : List Loc) : Prop := v = some (.int (f3 wSUSCEPTIBLE wSTATES wSWM wINFECTED wRECOVERED kSTATES kSWM)) ∧ Fr n0 L ∧ h = h0
set_option maxRecDepth 65536 in
set_option maxHeartbeats 40000000 in
theorem rm3 (l : Launch) (Z : State) (a0 : Array Value) (hw : ∀ d ∈ tables_1, d.before a0 Z = true) (ws : List Jvm.Cond) (wSUSCEPTIBLE : Addr) (wSTATES : Addr) (wSWM : Addr) (wINFECTED : Addr) (wRECOVERED : Addr) (kSTATES : ClassId) (kSWM : ClassId) (h0 : Heap) (n0 : Nat) (Z0 : n0 ≤ h0.size) (W0 : World Z h0 wSUSCEPTIBLE wSTATES wSWM wINFECTED wRECOVERED kSTATES kSWM) :
    MetFree l (⟨"com/example/rippletide/rippletide/io/HistoryFormat", "code", "(Lcom/example/rippletide/rippletide/model/State;)I"⟩ : MethodName) (head1 (Jvm.Cond.code (⟨"com/example/rippletide/rippletide/io/HistoryFormat", "code", "(Lcom/example/rippletide/rippletide/model/State;)I"⟩ : MethodName) prog_13_method_2_code 1 (some .int) :: ws) ({ frames := 1, cells := 0, slots := 0, locals := 13 } : Room)) (fun a U => a = #[(.ref wSUSCEPTIBLE)] ∧ Z.Warmed39 U.vm ∧ U.heap = h0) (fun _ _ _ _ _ => True) (fun _ U o U' => ∃ v L, o = .returned v ∧ Q3 Z wSUSCEPTIBLE wSTATES wSWM wINFECTED wRECOVERED kSTATES kSWM h0 n0 v U'.heap L ∧ FrameEnd U o U' L ({ frames := 1, cells := 0, slots := 0, locals := 13 } : Room).cells ({ frames := 1, cells := 0, slots := 0, locals := 13 } : Room).slots) := by
  refine MetFree.of_bodySF (plainFor_of_name pn_0) hisR ?_
  intro p e s m args below meth c s₁ Bd hml0 hP hK
  obtain ⟨rfl, hZ, hh⟩ := hP
  have hx := Bd.exec
  have hby := Bd.bytes
  have hml : c.maxLocals = 1 := hml0
  have hown : s.vm.findClass "com/example/rippletide/rippletide/io/HistoryFormat" = some m.cls := findClass_of_methodNamed Bd.named
  have X0 : Stand p l e ({ frames := 1, cells := 0, slots := 0, locals := 13 } : Room) s m #[(.ref wSUSCEPTIBLE)] below meth c s₁ [] 0 0 := Stand.of_body Bd
  have e0 : s₁.heap = h0 := by rw [← hh, Bd.state]; rfl
  have N0 := Fr.nil n0
  have W1 := W0
  obtain ⟨SSUSCEPTIBLE, ESUSCEPTIBLE, SSTATES, SSWM, FSUSCEPTIBLE_ordinal, SINFECTED, EINFECTED, FINFECTED_ordinal, SRECOVERED, ERECOVERED, FRECOVERED_ordinal, ASTATES, ASWM, -⟩ := W1
  have pre0 : ∀ t, Steps p.tables e below (s₁.setTop (mkF m 0 #[.val (.ref wSUSCEPTIBLE)] [])) t → Steps p.tables e below (s₁.setTop (entryFrame m #[(.ref wSUSCEPTIBLE)] 1)) t := fun t k => castTop (ef_3 m ) k
  obtain ⟨T18, X18, e18, st18⟩ := getS2 X0 hx hZ hown (host := "") (Or.inl (hw _ (List.mem_of_getElem? (i := 12) rfl))) Via.refl e0 SSWM (g := (mkF m 0 #[.val (.ref wSUSCEPTIBLE)] [])) rfl (hb hby d3_0)
  obtain ⟨cq19, kq19, q19a, q19b, q19c⟩ := isOf hZ e18 ESUSCEPTIBLE
  obtain ⟨_, _, ⟨T19, L19, k19, n19⟩, -, X19, ⟨Lc19, hQ19, l19, y19, z19⟩, st19⟩ := X18.virtualBackUp hx (owner := "java/lang/Enum") (x := (⟨"com/example/rippletide/rippletide/model/State", "ordinal", "()I"⟩ : MethodName)) (y := (⟨"java/lang/Enum", "ordinal", "()I"⟩ : MethodName)) hown (mvT hZ (hw _ (List.mem_of_getElem? (i := 15) rfl))) (mvT hZ (hw _ (List.mem_of_getElem? (i := 16) rfl))) (mvT hZ (hw _ (List.mem_of_getElem? (i := 17) rfl))) (by decide) (mvT hZ (hw _ (List.mem_of_getElem? (i := 19) rfl))) (mvT hZ (hw _ (List.mem_of_getElem? (i := 18) rfl))) (backOf (W := 1) (rm2 l Z a0 hw [] wSUSCEPTIBLE (0 : Int32) h0 n0 Z0 FSUSCEPTIBLE_ordinal) hZ (hw _ (List.mem_of_getElem? (i := 21) rfl)) (hw _ (List.mem_of_getElem? (i := 20) rfl)) (by decide) (by decide)) q19a q19c (g := (mkF m 4 #[.val (.ref wSUSCEPTIBLE)] [(.ref wSUSCEPTIBLE), (.ref wSWM)])) rfl (by rw [hml]; rfl) (Steps.refl _) (argsL := []) (rest := [(.ref wSWM)]) (lenOf pd_0 rfl) rfl (by show 2 * 0 + _ ≤ _; exact Nat.le_of_eq rfl) (hb hby d3_4) (fun _ _ => ⟨rfl, e18, (by decide : 0 + 0 ≤ _), (by decide : 0 + 0 ≤ _)⟩)
  dsimp only [Pt.U, Pt.locs, Pt.cells, Pt.slots] at X19 l19 y19 z19 st19 hQ19
  subst l19 y19 z19
  unfold Q2 at hQ19
  have k20 : ∀ t, Steps p.tables e below (T18.setTop (mkF m 4 #[.val (.ref wSUSCEPTIBLE)] [(.ref wSUSCEPTIBLE), (.ref wSWM)])) t → Steps p.tables e below (s₁.setTop (entryFrame m #[(.ref wSUSCEPTIBLE)] 1)) t := fun t kt => pre0 t (by
    show Steps p.tables e below (s₁.setTop (mkF m 0 #[.val (.ref wSUSCEPTIBLE)] [])) _
    refine st18 _ ?_
    show Steps p.tables e below (T18.setTop (mkF m 3 #[.val (.ref wSUSCEPTIBLE)] [(.ref wSWM)])) _
    refine XS.aloadN X18.here hx rfl (hb hby d3_3) rfl rfl ?_
    exact kt)
  rw [((by rw [f2]) : (f2 wSUSCEPTIBLE (0 : Int32)) = (0 : Int32))] at hQ19
  obtain ⟨rfl, N19q, e19⟩ := hQ19
  have N19 := Fr.app N0 N19q
  obtain ⟨cla21, Ara21, qa21, Sa21, Na21, Ha21, Ga21⟩ := And.left ⟨ASWM, trivial⟩
  have hina21 : ¬ ((0 : Int32) < 0 ∨ cla21.slots.size ≤ ((0 : Int32)).toNatClampNeg) := inb_of Sa21 ⟨by decide, by decide⟩
  obtain ⟨fs, hr, hrun, hended, hW, hsame⟩ := X19.leave (v := some (.int (0 : Int32))) (fun h => by rw [Bd.returns] at h; cases h)
  refine ⟨_, _, k20 _ ?_, hrun, hended, _, _, rfl, ?_, ⟨_, rfl⟩, hW, hsame.mono (by decide) (by decide)⟩
  · show Steps p.tables e below (T18.setTop (mkF m 4 #[.val (.ref wSUSCEPTIBLE)] [(.ref wSUSCEPTIBLE), (.ref wSWM)])) _
    refine st19.trans ?_
    show Steps p.tables e below (T19.setTop (mkF m 7 #[.val (.ref wSUSCEPTIBLE)] [(.int (0 : Int32)), (.ref wSWM)])) _
    refine X19.iaload hx (j := (0 : Int32)) (v := (.int (1 : Int32))) (by rw [e19]; exact Ara21.1) (State.isArrayOf_alike hZ.alike Ara21.2.1) Ara21.2.2 hina21 (Ha21.at hina21 rfl) (g := (mkF m 7 #[.val (.ref wSUSCEPTIBLE)] [(.int (0 : Int32)), (.ref wSWM)])) rfl rfl (hb hby d3_7) _ ?_
    show Steps p.tables e below (T19.setTop (mkF m 8 #[.val (.ref wSUSCEPTIBLE)] [(.int (1 : Int32))])) _
    refine XS.tswIn X19.here hx rfl (pc0 := 8) (pc' := 46) rfl (hb hby d3_8) rfl (by decide) (o := 38) (by decide) (by decide) (by decide) ?_
    show Steps p.tables e below (T19.setTop (mkF m 46 #[.val (.ref wSUSCEPTIBLE)] [])) _
    refine XS.iconst X19.here hx rfl (hb hby d3_46) ?_
    show Steps p.tables e below (T19.setTop (mkF m 47 #[.val (.ref wSUSCEPTIBLE)] [(.int (0 : Int32))])) _
    refine XS.goto X19.here hx rfl (pc0 := 47) (pc' := 55) rfl (hb hby d3_47) (by decide) (by decide) ?_
    show Steps p.tables e below (T19.setTop (mkF m 55 #[.val (.ref wSUSCEPTIBLE)] [(.int (0 : Int32))])) _
    exact own_retI X19 hx Bd.returns (hb hby d3_55) hr
  · show Q3 Z wSUSCEPTIBLE wSTATES wSWM wINFECTED wRECOVERED kSTATES kSWM h0 n0 _ T19.heap _
    rw [e19]
    exact ⟨by rw [f3], N19, rfl⟩
theorem d3_50 : decode prog_13_method_2_code 50 = .ok (.iconst 1, 1) := by decide +kernel
theorem d3_51 : decode prog_13_method_2_code 51 = .ok (.goto 4, 3) := by decide +kernel
def f4 (wSUSCEPTIBLE : Addr) (wSTATES : Addr) (wSWM : Addr) (wINFECTED : Addr) (wRECOVERED : Addr) (kSTATES : ClassId) (kSWM : ClassId) : Int32 := (1 : Int32)
theorem ef_4 (m : MethodId) : entryFrame m #[(.ref wINFECTED)] 1 = mkF m 0 #[.val (.ref wINFECTED)] [] := by first | (simp [entryFrame, mkF, argsToLocals, Value.category]; done) | rfl
def Q4 (Z : State) (wSUSCEPTIBLE : Addr) (wSTATES : Addr) (wSWM : Addr) (wINFECTED : Addr) (wRECOVERED : Addr) (kSTATES : ClassId) (kSWM : ClassId) (h0 : Heap) (n0 : Nat) (v : Option Value) (h : Heap) (L : List Loc) : Prop := v = some (.int (f4 wSUSCEPTIBLE wSTATES wSWM wINFECTED wRECOVERED kSTATES kSWM)) ∧ Fr n0 L ∧ h = h0
set_option maxRecDepth 65536 in
set_option maxHeartbeats 40000000 in
theorem rm4 (l : Launch) (Z : State) (a0 : Array Value) (hw : ∀ d ∈ tables_1, d.before a0 Z = true) (ws : List Jvm.Cond) (wSUSCEPTIBLE : Addr) (wSTATES : Addr) (wSWM : Addr) (wINFECTED : Addr) (wRECOVERED : Addr) (kSTATES : ClassId) (kSWM : ClassId) (h0 : Heap) (n0 : Nat) (Z0 : n0 ≤ h0.size) (W0 : World Z h0 wSUSCEPTIBLE wSTATES wSWM wINFECTED wRECOVERED kSTATES kSWM) :
    MetFree l (⟨"com/example/rippletide/rippletide/io/HistoryFormat", "code", "(Lcom/example/rippletide/rippletide/model/State;)I"⟩ : MethodName) (head1 (Jvm.Cond.code (⟨"com/example/rippletide/rippletide/io/HistoryFormat", "code", "(Lcom/example/rippletide/rippletide/model/State;)I"⟩ : MethodName) prog_13_method_2_code 1 (some .int) :: ws) ({ frames := 1, cells := 0, slots := 0, locals := 13 } : Room)) (fun a U => a = #[(.ref wINFECTED)] ∧ Z.Warmed39 U.vm ∧ U.heap = h0) (fun _ _ _ _ _ => True) (fun _ U o U' => ∃ v L, o = .returned v ∧ Q4 Z wSUSCEPTIBLE wSTATES wSWM wINFECTED wRECOVERED kSTATES kSWM h0 n0 v U'.heap L ∧ FrameEnd U o U' L ({ frames := 1, cells := 0, slots := 0, locals := 13 } : Room).cells ({ frames := 1, cells := 0, slots := 0, locals := 13 } : Room).slots) := by
  refine MetFree.of_bodySF (plainFor_of_name pn_0) hisR ?_
  intro p e s m args below meth c s₁ Bd hml0 hP hK
  obtain ⟨rfl, hZ, hh⟩ := hP
  have hx := Bd.exec
  have hby := Bd.bytes
  have hml : c.maxLocals = 1 := hml0
  have hown : s.vm.findClass "com/example/rippletide/rippletide/io/HistoryFormat" = some m.cls := findClass_of_methodNamed Bd.named
  have X0 : Stand p l e ({ frames := 1, cells := 0, slots := 0, locals := 13 } : Room) s m #[(.ref wINFECTED)] below meth c s₁ [] 0 0 := Stand.of_body Bd
  have e0 : s₁.heap = h0 := by rw [← hh, Bd.state]; rfl
  have N0 := Fr.nil n0
  have W1 := W0
  obtain ⟨SSUSCEPTIBLE, ESUSCEPTIBLE, SSTATES, SSWM, FSUSCEPTIBLE_ordinal, SINFECTED, EINFECTED, FINFECTED_ordinal, SRECOVERED, ERECOVERED, FRECOVERED_ordinal, ASTATES, ASWM, -⟩ := W1
  have pre0 : ∀ t, Steps p.tables e below (s₁.setTop (mkF m 0 #[.val (.ref wINFECTED)] [])) t → Steps p.tables e below (s₁.setTop (entryFrame m #[(.ref wINFECTED)] 1)) t := fun t k => castTop (ef_4 m ) k
  obtain ⟨T22, X22, e22, st22⟩ := getS2 X0 hx hZ hown (host := "") (Or.inl (hw _ (List.mem_of_getElem? (i := 12) rfl))) Via.refl e0 SSWM (g := (mkF m 0 #[.val (.ref wINFECTED)] [])) rfl (hb hby d3_0)
  obtain ⟨cq23, kq23, q23a, q23b, q23c⟩ := isOf hZ e22 EINFECTED
  obtain ⟨_, _, ⟨T23, L23, k23, n23⟩, -, X23, ⟨Lc23, hQ23, l23, y23, z23⟩, st23⟩ := X22.virtualBackUp hx (owner := "java/lang/Enum") (x := (⟨"com/example/rippletide/rippletide/model/State", "ordinal", "()I"⟩ : MethodName)) (y := (⟨"java/lang/Enum", "ordinal", "()I"⟩ : MethodName)) hown (mvT hZ (hw _ (List.mem_of_getElem? (i := 15) rfl))) (mvT hZ (hw _ (List.mem_of_getElem? (i := 16) rfl))) (mvT hZ (hw _ (List.mem_of_getElem? (i := 17) rfl))) (by decide) (mvT hZ (hw _ (List.mem_of_getElem? (i := 19) rfl))) (mvT hZ (hw _ (List.mem_of_getElem? (i := 18) rfl))) (backOf (W := 1) (rm2 l Z a0 hw [] wINFECTED (1 : Int32) h0 n0 Z0 FINFECTED_ordinal) hZ (hw _ (List.mem_of_getElem? (i := 21) rfl)) (hw _ (List.mem_of_getElem? (i := 20) rfl)) (by decide) (by decide)) q23a q23c (g := (mkF m 4 #[.val (.ref wINFECTED)] [(.ref wINFECTED), (.ref wSWM)])) rfl (by rw [hml]; rfl) (Steps.refl _) (argsL := []) (rest := [(.ref wSWM)]) (lenOf pd_0 rfl) rfl (by show 2 * 0 + _ ≤ _; exact Nat.le_of_eq rfl) (hb hby d3_4) (fun _ _ => ⟨rfl, e22, (by decide : 0 + 0 ≤ _), (by decide : 0 + 0 ≤ _)⟩)
  dsimp only [Pt.U, Pt.locs, Pt.cells, Pt.slots] at X23 l23 y23 z23 st23 hQ23
  subst l23 y23 z23
  unfold Q2 at hQ23
  have k24 : ∀ t, Steps p.tables e below (T22.setTop (mkF m 4 #[.val (.ref wINFECTED)] [(.ref wINFECTED), (.ref wSWM)])) t → Steps p.tables e below (s₁.setTop (entryFrame m #[(.ref wINFECTED)] 1)) t := fun t kt => pre0 t (by
    show Steps p.tables e below (s₁.setTop (mkF m 0 #[.val (.ref wINFECTED)] [])) _
    refine st22 _ ?_
    show Steps p.tables e below (T22.setTop (mkF m 3 #[.val (.ref wINFECTED)] [(.ref wSWM)])) _
    refine XS.aloadN X22.here hx rfl (hb hby d3_3) rfl rfl ?_
    exact kt)
  rw [((by rw [f2]) : (f2 wINFECTED (1 : Int32)) = (1 : Int32))] at hQ23
  obtain ⟨rfl, N23q, e23⟩ := hQ23
  have N23 := Fr.app N0 N23q
  obtain ⟨cla25, Ara25, qa25, Sa25, Na25, Ha25, Ga25⟩ := And.left ⟨ASWM, trivial⟩
  have hina25 : ¬ ((1 : Int32) < 0 ∨ cla25.slots.size ≤ ((1 : Int32)).toNatClampNeg) := inb_of Sa25 ⟨by decide, by decide⟩
  obtain ⟨fs, hr, hrun, hended, hW, hsame⟩ := X23.leave (v := some (.int (1 : Int32))) (fun h => by rw [Bd.returns] at h; cases h)
  refine ⟨_, _, k24 _ ?_, hrun, hended, _, _, rfl, ?_, ⟨_, rfl⟩, hW, hsame.mono (by decide) (by decide)⟩
  · show Steps p.tables e below (T22.setTop (mkF m 4 #[.val (.ref wINFECTED)] [(.ref wINFECTED), (.ref wSWM)])) _
    refine st23.trans ?_
    show Steps p.tables e below (T23.setTop (mkF m 7 #[.val (.ref wINFECTED)] [(.int (1 : Int32)), (.ref wSWM)])) _
    refine X23.iaload hx (j := (1 : Int32)) (v := (.int (2 : Int32))) (by rw [e23]; exact Ara25.1) (State.isArrayOf_alike hZ.alike Ara25.2.1) Ara25.2.2 hina25 (Ha25.at hina25 rfl) (g := (mkF m 7 #[.val (.ref wINFECTED)] [(.int (1 : Int32)), (.ref wSWM)])) rfl rfl (hb hby d3_7) _ ?_
    show Steps p.tables e below (T23.setTop (mkF m 8 #[.val (.ref wINFECTED)] [(.int (2 : Int32))])) _
    refine XS.tswIn X23.here hx rfl (pc0 := 8) (pc' := 50) rfl (hb hby d3_8) rfl (by decide) (o := 42) (by decide) (by decide) (by decide) ?_
    show Steps p.tables e below (T23.setTop (mkF m 50 #[.val (.ref wINFECTED)] [])) _
    refine XS.iconst X23.here hx rfl (hb hby d3_50) ?_
    show Steps p.tables e below (T23.setTop (mkF m 51 #[.val (.ref wINFECTED)] [(.int (1 : Int32))])) _
    refine XS.goto X23.here hx rfl (pc0 := 51) (pc' := 55) rfl (hb hby d3_51) (by decide) (by decide) ?_
    show Steps p.tables e below (T23.setTop (mkF m 55 #[.val (.ref wINFECTED)] [(.int (1 : Int32))])) _
    exact own_retI X23 hx Bd.returns (hb hby d3_55) hr
  · show Q4 Z wSUSCEPTIBLE wSTATES wSWM wINFECTED wRECOVERED kSTATES kSWM h0 n0 _ T23.heap _
    rw [e23]
    exact ⟨by rw [f4], N23, rfl⟩
theorem d3_54 : decode prog_13_method_2_code 54 = .ok (.iconst 2, 1) := by decide +kernel
def f5 (wSUSCEPTIBLE : Addr) (wSTATES : Addr) (wSWM : Addr) (wINFECTED : Addr) (wRECOVERED : Addr) (kSTATES : ClassId) (kSWM : ClassId) : Int32 := (2 : Int32)
theorem ef_5 (m : MethodId) : entryFrame m #[(.ref wRECOVERED)] 1 = mkF m 0 #[.val (.ref wRECOVERED)] [] := by first | (simp [entryFrame, mkF, argsToLocals, Value.category]; done) | rfl
def Q5 (Z : State) (wSUSCEPTIBLE : Addr) (wSTATES : Addr) (wSWM : Addr) (wINFECTED : Addr) (wRECOVERED : Addr) (kSTATES : ClassId) (kSWM : ClassId) (h0 : Heap) (n0 : Nat) (v : Option Value) (h : Heap) (L : List Loc) : Prop := v = some (.int (f5 wSUSCEPTIBLE wSTATES wSWM wINFECTED wRECOVERED kSTATES kSWM)) ∧ Fr n0 L ∧ h = h0
set_option maxRecDepth 65536 in
set_option maxHeartbeats 40000000 in
theorem rm5 (l : Launch) (Z : State) (a0 : Array Value) (hw : ∀ d ∈ tables_1, d.before a0 Z = true) (ws : List Jvm.Cond) (wSUSCEPTIBLE : Addr) (wSTATES : Addr) (wSWM : Addr) (wINFECTED : Addr) (wRECOVERED : Addr) (kSTATES : ClassId) (kSWM : ClassId) (h0 : Heap) (n0 : Nat) (Z0 : n0 ≤ h0.size) (W0 : World Z h0 wSUSCEPTIBLE wSTATES wSWM wINFECTED wRECOVERED kSTATES kSWM) :
    MetFree l (⟨"com/example/rippletide/rippletide/io/HistoryFormat", "code", "(Lcom/example/rippletide/rippletide/model/State;)I"⟩ : MethodName) (head1 (Jvm.Cond.code (⟨"com/example/rippletide/rippletide/io/HistoryFormat", "code", "(Lcom/example/rippletide/rippletide/model/State;)I"⟩ : MethodName) prog_13_method_2_code 1 (some .int) :: ws) ({ frames := 1, cells := 0, slots := 0, locals := 13 } : Room)) (fun a U => a = #[(.ref wRECOVERED)] ∧ Z.Warmed39 U.vm ∧ U.heap = h0) (fun _ _ _ _ _ => True) (fun _ U o U' => ∃ v L, o = .returned v ∧ Q5 Z wSUSCEPTIBLE wSTATES wSWM wINFECTED wRECOVERED kSTATES kSWM h0 n0 v U'.heap L ∧ FrameEnd U o U' L ({ frames := 1, cells := 0, slots := 0, locals := 13 } : Room).cells ({ frames := 1, cells := 0, slots := 0, locals := 13 } : Room).slots) := by
  refine MetFree.of_bodySF (plainFor_of_name pn_0) hisR ?_
  intro p e s m args below meth c s₁ Bd hml0 hP hK
  obtain ⟨rfl, hZ, hh⟩ := hP
  have hx := Bd.exec
  have hby := Bd.bytes
  have hml : c.maxLocals = 1 := hml0
  have hown : s.vm.findClass "com/example/rippletide/rippletide/io/HistoryFormat" = some m.cls := findClass_of_methodNamed Bd.named
  have X0 : Stand p l e ({ frames := 1, cells := 0, slots := 0, locals := 13 } : Room) s m #[(.ref wRECOVERED)] below meth c s₁ [] 0 0 := Stand.of_body Bd
  have e0 : s₁.heap = h0 := by rw [← hh, Bd.state]; rfl
  have N0 := Fr.nil n0
  have W1 := W0
  obtain ⟨SSUSCEPTIBLE, ESUSCEPTIBLE, SSTATES, SSWM, FSUSCEPTIBLE_ordinal, SINFECTED, EINFECTED, FINFECTED_ordinal, SRECOVERED, ERECOVERED, FRECOVERED_ordinal, ASTATES, ASWM, -⟩ := W1
  have pre0 : ∀ t, Steps p.tables e below (s₁.setTop (mkF m 0 #[.val (.ref wRECOVERED)] [])) t → Steps p.tables e below (s₁.setTop (entryFrame m #[(.ref wRECOVERED)] 1)) t := fun t k => castTop (ef_5 m ) k
  obtain ⟨T26, X26, e26, st26⟩ := getS2 X0 hx hZ hown (host := "") (Or.inl (hw _ (List.mem_of_getElem? (i := 12) rfl))) Via.refl e0 SSWM (g := (mkF m 0 #[.val (.ref wRECOVERED)] [])) rfl (hb hby d3_0)
  obtain ⟨cq27, kq27, q27a, q27b, q27c⟩ := isOf hZ e26 ERECOVERED
  obtain ⟨_, _, ⟨T27, L27, k27, n27⟩, -, X27, ⟨Lc27, hQ27, l27, y27, z27⟩, st27⟩ := X26.virtualBackUp hx (owner := "java/lang/Enum") (x := (⟨"com/example/rippletide/rippletide/model/State", "ordinal", "()I"⟩ : MethodName)) (y := (⟨"java/lang/Enum", "ordinal", "()I"⟩ : MethodName)) hown (mvT hZ (hw _ (List.mem_of_getElem? (i := 15) rfl))) (mvT hZ (hw _ (List.mem_of_getElem? (i := 16) rfl))) (mvT hZ (hw _ (List.mem_of_getElem? (i := 17) rfl))) (by decide) (mvT hZ (hw _ (List.mem_of_getElem? (i := 19) rfl))) (mvT hZ (hw _ (List.mem_of_getElem? (i := 18) rfl))) (backOf (W := 1) (rm2 l Z a0 hw [] wRECOVERED (2 : Int32) h0 n0 Z0 FRECOVERED_ordinal) hZ (hw _ (List.mem_of_getElem? (i := 21) rfl)) (hw _ (List.mem_of_getElem? (i := 20) rfl)) (by decide) (by decide)) q27a q27c (g := (mkF m 4 #[.val (.ref wRECOVERED)] [(.ref wRECOVERED), (.ref wSWM)])) rfl (by rw [hml]; rfl) (Steps.refl _) (argsL := []) (rest := [(.ref wSWM)]) (lenOf pd_0 rfl) rfl (by show 2 * 0 + _ ≤ _; exact Nat.le_of_eq rfl) (hb hby d3_4) (fun _ _ => ⟨rfl, e26, (by decide : 0 + 0 ≤ _), (by decide : 0 + 0 ≤ _)⟩)
  dsimp only [Pt.U, Pt.locs, Pt.cells, Pt.slots] at X27 l27 y27 z27 st27 hQ27
  subst l27 y27 z27
  unfold Q2 at hQ27
  have k28 : ∀ t, Steps p.tables e below (T26.setTop (mkF m 4 #[.val (.ref wRECOVERED)] [(.ref wRECOVERED), (.ref wSWM)])) t → Steps p.tables e below (s₁.setTop (entryFrame m #[(.ref wRECOVERED)] 1)) t := fun t kt => pre0 t (by
    show Steps p.tables e below (s₁.setTop (mkF m 0 #[.val (.ref wRECOVERED)] [])) _
    refine st26 _ ?_
    show Steps p.tables e below (T26.setTop (mkF m 3 #[.val (.ref wRECOVERED)] [(.ref wSWM)])) _
    refine XS.aloadN X26.here hx rfl (hb hby d3_3) rfl rfl ?_
    exact kt)
  rw [((by rw [f2]) : (f2 wRECOVERED (2 : Int32)) = (2 : Int32))] at hQ27
  obtain ⟨rfl, N27q, e27⟩ := hQ27
  have N27 := Fr.app N0 N27q
  obtain ⟨cla29, Ara29, qa29, Sa29, Na29, Ha29, Ga29⟩ := And.left ⟨ASWM, trivial⟩
  have hina29 : ¬ ((2 : Int32) < 0 ∨ cla29.slots.size ≤ ((2 : Int32)).toNatClampNeg) := inb_of Sa29 ⟨by decide, by decide⟩
  obtain ⟨fs, hr, hrun, hended, hW, hsame⟩ := X27.leave (v := some (.int (2 : Int32))) (fun h => by rw [Bd.returns] at h; cases h)
  refine ⟨_, _, k28 _ ?_, hrun, hended, _, _, rfl, ?_, ⟨_, rfl⟩, hW, hsame.mono (by decide) (by decide)⟩
  · show Steps p.tables e below (T26.setTop (mkF m 4 #[.val (.ref wRECOVERED)] [(.ref wRECOVERED), (.ref wSWM)])) _
    refine st27.trans ?_
    show Steps p.tables e below (T27.setTop (mkF m 7 #[.val (.ref wRECOVERED)] [(.int (2 : Int32)), (.ref wSWM)])) _
    refine X27.iaload hx (j := (2 : Int32)) (v := (.int (3 : Int32))) (by rw [e27]; exact Ara29.1) (State.isArrayOf_alike hZ.alike Ara29.2.1) Ara29.2.2 hina29 (Ha29.at hina29 rfl) (g := (mkF m 7 #[.val (.ref wRECOVERED)] [(.int (2 : Int32)), (.ref wSWM)])) rfl rfl (hb hby d3_7) _ ?_
    show Steps p.tables e below (T27.setTop (mkF m 8 #[.val (.ref wRECOVERED)] [(.int (3 : Int32))])) _
    refine XS.tswIn X27.here hx rfl (pc0 := 8) (pc' := 54) rfl (hb hby d3_8) rfl (by decide) (o := 46) (by decide) (by decide) (by decide) ?_
    show Steps p.tables e below (T27.setTop (mkF m 54 #[.val (.ref wRECOVERED)] [])) _
    refine XS.iconst X27.here hx rfl (hb hby d3_54) ?_
    show Steps p.tables e below (T27.setTop (mkF m 55 #[.val (.ref wRECOVERED)] [(.int (2 : Int32))])) _
    exact own_retI X27 hx Bd.returns (hb hby d3_55) hr
  · show Q5 Z wSUSCEPTIBLE wSTATES wSWM wINFECTED wRECOVERED kSTATES kSWM h0 n0 _ T27.heap _
    rw [e27]
    exact ⟨by rw [f5], N27, rfl⟩
theorem pd_1 : parseMethodDescriptor "(I)Lcom/example/rippletide/rippletide/model/State;" = some ⟨[.int], some (.object "com/example/rippletide/rippletide/model/State")⟩ := by decide +kernel
theorem pd_2 : parseMethodDescriptor "(Lcom/example/rippletide/rippletide/model/State;)I" = some ⟨[(.object "com/example/rippletide/rippletide/model/State")], some .int⟩ := by decide +kernel
theorem pn_2 : plainName "com/example/rippletide/rippletide/io/HistoryFormatStatePinLaw" = true := by first | (simp [plainName, overriddenIn]; done) | decide +kernel
theorem ef_0 (m : MethodId) (p0 : Int32) (p1 : Int32) : entryFrame m #[(.int p0), (.int p1)] maxLocals = mkF m 0 #[.val (.int p0), .val (.int p1), .unset, .unset, .unset] [] := by first | (simp [entryFrame, mkF, argsToLocals, Value.category, maxLocals]; done) | rfl
def Q0 (Z : State) (p0 : Int32) (p1 : Int32) (wSUSCEPTIBLE : Addr) (wSTATES : Addr) (wSWM : Addr) (wINFECTED : Addr) (wRECOVERED : Addr) (kSTATES : ClassId) (kSWM : ClassId) (h0 : Heap) (n0 : Nat) (v : Option Value) (h : Heap) (L : List Loc) : Prop := v = some (.int 1) ∧ Fr n0 L
set_option maxRecDepth 65536 in
set_option maxHeartbeats 40000000 in
theorem rm0 (l : Launch) (Z : State) (a0 : Array Value) (hw : ∀ d ∈ tables_1, d.before a0 Z = true) (ws : List Jvm.Cond) (p0 : Int32) (p1 : Int32) (wSUSCEPTIBLE : Addr) (wSTATES : Addr) (wSWM : Addr) (wINFECTED : Addr) (wRECOVERED : Addr) (kSTATES : ClassId) (kSWM : ClassId) (h0 : Heap) (n0 : Nat) (Z0 : n0 ≤ h0.size) (W0 : World Z h0 wSUSCEPTIBLE wSTATES wSWM wINFECTED wRECOVERED kSTATES kSWM) :
    MetFree l x (head1 (Jvm.Cond.code x code maxLocals ret :: ws) room_1) (fun a U => a = #[(.int p0), (.int p1)] ∧ Z.Warmed39 U.vm ∧ U.heap = h0) (fun _ _ _ _ _ => True) (fun _ U o U' => ∃ v L, o = .returned v ∧ Q0 Z p0 p1 wSUSCEPTIBLE wSTATES wSWM wINFECTED wRECOVERED kSTATES kSWM h0 n0 v U'.heap L ∧ FrameEnd U o U' L room_1.cells room_1.slots) := by
  refine MetFree.of_bodySF (plainFor_of_name pn_2) hisR ?_
  intro p e s m args below meth c s₁ Bd hml0 hP hK
  obtain ⟨rfl, hZ, hh⟩ := hP
  have hx := Bd.exec
  have hby := Bd.bytes
  have hml : c.maxLocals = 5 := hml0
  have hown : s.vm.findClass "com/example/rippletide/rippletide/io/HistoryFormatStatePinLaw" = some m.cls := findClass_of_methodNamed Bd.named
  have X0 : Stand p l e room_1 s m #[(.int p0), (.int p1)] below meth c s₁ [] 0 0 := Stand.of_body Bd
  have e0 : s₁.heap = h0 := by rw [← hh, Bd.state]; rfl
  have N0 := Fr.nil n0
  have W1 := W0
  obtain ⟨SSUSCEPTIBLE, ESUSCEPTIBLE, SSTATES, SSWM, FSUSCEPTIBLE_ordinal, SINFECTED, EINFECTED, FINFECTED_ordinal, SRECOVERED, ERECOVERED, FRECOVERED_ordinal, ASTATES, ASWM, -⟩ := W1
  have pre0 : ∀ t, Steps p.tables e below (s₁.setTop (mkF m 0 #[.val (.int p0), .val (.int p1), .unset, .unset, .unset] [])) t → Steps p.tables e below (s₁.setTop (entryFrame m #[(.int p0), (.int p1)] maxLocals)) t := fun t k => castTop (ef_0 m p0 p1) k
  have k30 : ∀ t, Steps p.tables e below (s₁.setTop (mkF m 3 #[.val (.int p0), .val (.int p1), .unset, .unset, .unset] [(.int (p1 &&& (1 : Int32)))])) t → Steps p.tables e below (s₁.setTop (entryFrame m #[(.int p0), (.int p1)] maxLocals)) t := fun t kt => pre0 t (by
    show Steps p.tables e below (s₁.setTop (mkF m 0 #[.val (.int p0), .val (.int p1), .unset, .unset, .unset] [])) _
    refine XS.iloadN X0.here hx rfl (hb hby at_0) rfl ?_
    show Steps p.tables e below (s₁.setTop (mkF m 1 #[.val (.int p0), .val (.int p1), .unset, .unset, .unset] [(.int p1)])) _
    refine XS.iconst X0.here hx rfl (hb hby at_1) ?_
    show Steps p.tables e below (s₁.setTop (mkF m 2 #[.val (.int p0), .val (.int p1), .unset, .unset, .unset] [(.int (1 : Int32)), (.int p1)])) _
    refine XS.iand X0.here hx rfl (hb hby at_2) rfl ?_
    exact kt)
  by_cases hc31 : (p1 &&& (1 : Int32)) = (0 : Int32)
  · obtain ⟨i32, hi32⟩ : ∃ z, z = (p0 % (5 : Int32)) := ⟨_, rfl⟩
    have k33 : ∀ t, Steps p.tables e below (s₁.setTop (mkF m 15 #[.val (.int p0), .val (.int p1), .val (.int i32), .unset, .unset] [(.int i32)])) t → Steps p.tables e below (s₁.setTop (entryFrame m #[(.int p0), (.int p1)] maxLocals)) t := fun t kt => k30 t (by
      show Steps p.tables e below (s₁.setTop (mkF m 3 #[.val (.int p0), .val (.int p1), .unset, .unset, .unset] [(.int (p1 &&& (1 : Int32)))])) _
      refine XS.ifYes X0.here hx rfl (pc0 := 3) (pc' := 10) rfl (hb hby at_3) rfl ((if0 _ _).trans (teq (hc31 : (p1 &&& (1 : Int32)) = (0 : Int32))).1) (by decide) (by decide) ?_
      show Steps p.tables e below (s₁.setTop (mkF m 10 #[.val (.int p0), .val (.int p1), .unset, .unset, .unset] [])) _
      refine XS.iloadN X0.here hx rfl (hb hby at_10) rfl ?_
      show Steps p.tables e below (s₁.setTop (mkF m 11 #[.val (.int p0), .val (.int p1), .unset, .unset, .unset] [(.int p0)])) _
      refine XS.iconst X0.here hx rfl (hb hby at_11) ?_
      show Steps p.tables e below (s₁.setTop (mkF m 12 #[.val (.int p0), .val (.int p1), .unset, .unset, .unset] [(.int (5 : Int32)), (.int p0)])) _
      refine iremM X0 hx rfl (hb hby at_12) rfl (by decide) ?_
      rw [← hi32]
      show Steps p.tables e below (s₁.setTop (mkF m 13 #[.val (.int p0), .val (.int p1), .unset, .unset, .unset] [(.int i32)])) _
      refine XS.istoreN X0.here hx rfl (hb hby at_13) rfl (l' := #[.val (.int p0), .val (.int p1), .val (.int i32), .unset, .unset]) rfl ?_
      show Steps p.tables e below (s₁.setTop (mkF m 14 #[.val (.int p0), .val (.int p1), .val (.int i32), .unset, .unset] [])) _
      refine XS.iloadN X0.here hx rfl (hb hby at_14) rfl ?_
      exact kt)
    by_cases hc34 : i32 = (0 : Int32)
    · obtain ⟨T35, X35, e35, st35⟩ := getS2 X0 hx hZ hown (host := "") (Or.inl (hw _ (List.mem_of_getElem? (i := 0) rfl))) Via.refl e0 SSUSCEPTIBLE (g := (mkF m 18 #[.val (.int p0), .val (.int p1), .val (.int i32), .unset, .unset] [])) rfl (hb hby at_18)
      obtain ⟨_, _, ⟨T36, L36, k36, n36⟩, -, X36, ⟨Lc36, hQ36, l36, y36, z36⟩, st36⟩ := Jvm.LawKit.callS X35 hx (y := (⟨"com/example/rippletide/rippletide/io/HistoryFormat", "state", "(I)Lcom/example/rippletide/rippletide/model/State;"⟩ : MethodName)) hown (mvT hZ (hw _ (List.mem_of_getElem? (i := 3) rfl))) (mvT hZ (hw _ (List.mem_of_getElem? (i := 4) rfl))) (mvT hZ (hw _ (List.mem_of_getElem? (i := 5) rfl))) (mvT hZ (hw _ (List.mem_of_getElem? (i := 6) rfl))) (by decide) (backOf (W := 0) (rm1 l Z a0 hw [] i32 wSUSCEPTIBLE wSTATES wSWM wINFECTED wRECOVERED kSTATES kSWM h0 n0 Z0 W0 ) hZ (hw _ (List.mem_of_getElem? (i := 6) rfl)) (hw _ (List.mem_of_getElem? (i := 5) rfl)) (by decide) (by decide)) (g := (mkF m 52 #[.val (.int p0), .val (.int p1), .val (.int i32), .val (.ref wSUSCEPTIBLE), .unset] [(.int i32)])) rfl (by rw [hml]; rfl) (argsL := [(.int i32)]) (rest := []) (lenOf pd_1 rfl) rfl (by show 2 * 0 + _ ≤ _; exact Nat.le_of_eq rfl) (hb hby at_52) (fun _ _ => ⟨rfl, e35, (by decide : 0 + 0 ≤ _), (by decide : 0 + 0 ≤ _)⟩)
      dsimp only [Pt.U, Pt.locs, Pt.cells, Pt.slots] at X36 l36 y36 z36 st36 hQ36
      subst l36 y36 z36
      unfold Q1 at hQ36
      have k37 : ∀ t, Steps p.tables e below (T35.setTop (mkF m 52 #[.val (.int p0), .val (.int p1), .val (.int i32), .val (.ref wSUSCEPTIBLE), .unset] [(.int i32)])) t → Steps p.tables e below (s₁.setTop (entryFrame m #[(.int p0), (.int p1)] maxLocals)) t := fun t kt => k33 t (by
        show Steps p.tables e below (s₁.setTop (mkF m 15 #[.val (.int p0), .val (.int p1), .val (.int i32), .unset, .unset] [(.int i32)])) _
        refine XS.ifNo X0.here hx rfl (hb hby at_15) rfl ((if0 _ _).trans (teq (hc34 : i32 = (0 : Int32))).2) ?_
        show Steps p.tables e below (s₁.setTop (mkF m 18 #[.val (.int p0), .val (.int p1), .val (.int i32), .unset, .unset] [])) _
        refine st35 _ ?_
        show Steps p.tables e below (T35.setTop (mkF m 21 #[.val (.int p0), .val (.int p1), .val (.int i32), .unset, .unset] [(.ref wSUSCEPTIBLE)])) _
        refine XS.astoreN X35.here hx rfl (hb hby at_21) rfl rfl (l' := #[.val (.int p0), .val (.int p1), .val (.int i32), .val (.ref wSUSCEPTIBLE), .unset]) rfl ?_
        show Steps p.tables e below (T35.setTop (mkF m 22 #[.val (.int p0), .val (.int p1), .val (.int i32), .val (.ref wSUSCEPTIBLE), .unset] [])) _
        refine XS.goto X35.here hx rfl (pc0 := 22) (pc' := 51) rfl (hb hby at_22) (by decide) (by decide) ?_
        show Steps p.tables e below (T35.setTop (mkF m 51 #[.val (.int p0), .val (.int p1), .val (.int i32), .val (.ref wSUSCEPTIBLE), .unset] [])) _
        refine XS.iloadN X35.here hx rfl (hb hby at_51) rfl ?_
        exact kt)
      rw [((by rw [f1, if_neg ((by rw [hc34]; decide) : ¬ (i32 < (0 : Int32))), if_pos ((by rw [hc34]; decide) : i32 < (3 : Int32)), if_pos (hc34 : i32 = (0 : Int32))]) : (f1 i32 wSUSCEPTIBLE wSTATES wSWM wINFECTED wRECOVERED kSTATES kSWM) = (.ref wSUSCEPTIBLE))] at hQ36
      obtain ⟨rfl, N36q, e36⟩ := hQ36
      have N36 := Fr.app N0 N36q
      obtain ⟨_, _, ⟨T38, L38, k38, n38⟩, -, X38, ⟨Lc38, hQ38, l38, y38, z38⟩, st38⟩ := Jvm.LawKit.callS X36 hx (y := (⟨"com/example/rippletide/rippletide/io/HistoryFormat", "code", "(Lcom/example/rippletide/rippletide/model/State;)I"⟩ : MethodName)) hown (mvT hZ (hw _ (List.mem_of_getElem? (i := 9) rfl))) (mvT hZ (hw _ (List.mem_of_getElem? (i := 10) rfl))) (mvT hZ (hw _ (List.mem_of_getElem? (i := 5) rfl))) (mvT hZ (hw _ (List.mem_of_getElem? (i := 11) rfl))) (by decide) (backOf (W := 0) (rm3 l Z a0 hw [] wSUSCEPTIBLE wSTATES wSWM wINFECTED wRECOVERED kSTATES kSWM h0 n0 Z0 W0 ) hZ (hw _ (List.mem_of_getElem? (i := 11) rfl)) (hw _ (List.mem_of_getElem? (i := 5) rfl)) (by decide) (by decide)) (g := (mkF m 72 #[.val (.int p0), .val (.int p1), .val (.int i32), .val (.ref wSUSCEPTIBLE), .val (.ref wSUSCEPTIBLE)] [(.ref wSUSCEPTIBLE)])) rfl (by rw [hml]; rfl) (argsL := [(.ref wSUSCEPTIBLE)]) (rest := []) (lenOf pd_2 rfl) rfl (by show 2 * 0 + _ ≤ _; exact Nat.le_of_eq rfl) (hb hby at_72) (fun _ _ => ⟨rfl, e36, (by decide : 0 + 0 ≤ _), (by decide : 0 + 0 ≤ _)⟩)
      dsimp only [Pt.U, Pt.locs, Pt.cells, Pt.slots] at X38 l38 y38 z38 st38 hQ38
      subst l38 y38 z38
      unfold Q3 at hQ38
      have k39 : ∀ t, Steps p.tables e below (T36.setTop (mkF m 72 #[.val (.int p0), .val (.int p1), .val (.int i32), .val (.ref wSUSCEPTIBLE), .val (.ref wSUSCEPTIBLE)] [(.ref wSUSCEPTIBLE)])) t → Steps p.tables e below (s₁.setTop (entryFrame m #[(.int p0), (.int p1)] maxLocals)) t := fun t kt => k37 t (by
        show Steps p.tables e below (T35.setTop (mkF m 52 #[.val (.int p0), .val (.int p1), .val (.int i32), .val (.ref wSUSCEPTIBLE), .unset] [(.int i32)])) _
        refine st36 _ ?_
        show Steps p.tables e below (T36.setTop (mkF m 55 #[.val (.int p0), .val (.int p1), .val (.int i32), .val (.ref wSUSCEPTIBLE), .unset] [(.ref wSUSCEPTIBLE)])) _
        refine XS.astore X36.here hx rfl (hb hby at_55) rfl rfl (l' := #[.val (.int p0), .val (.int p1), .val (.int i32), .val (.ref wSUSCEPTIBLE), .val (.ref wSUSCEPTIBLE)]) rfl ?_
        show Steps p.tables e below (T36.setTop (mkF m 57 #[.val (.int p0), .val (.int p1), .val (.int i32), .val (.ref wSUSCEPTIBLE), .val (.ref wSUSCEPTIBLE)] [])) _
        refine XS.aload X36.here hx rfl (hb hby at_57) rfl rfl ?_
        show Steps p.tables e below (T36.setTop (mkF m 59 #[.val (.int p0), .val (.int p1), .val (.int i32), .val (.ref wSUSCEPTIBLE), .val (.ref wSUSCEPTIBLE)] [(.ref wSUSCEPTIBLE)])) _
        refine XS.aloadN X36.here hx rfl (hb hby at_59) rfl rfl ?_
        show Steps p.tables e below (T36.setTop (mkF m 60 #[.val (.int p0), .val (.int p1), .val (.int i32), .val (.ref wSUSCEPTIBLE), .val (.ref wSUSCEPTIBLE)] [(.ref wSUSCEPTIBLE), (.ref wSUSCEPTIBLE)])) _
        refine Jvm.RoadKit.acmp (g := (mkF m 60 #[.val (.int p0), .val (.int p1), .val (.int i32), .val (.ref wSUSCEPTIBLE), .val (.ref wSUSCEPTIBLE)] [(.ref wSUSCEPTIBLE), (.ref wSUSCEPTIBLE)])) X36 hx rfl rfl rfl (pc0 := 60) (pc' := 65) (same := true) rfl (hb hby at_60) rfl (decide_eq_true (congrArg Value.ref (rfl : wSUSCEPTIBLE = wSUSCEPTIBLE))) (by decide) (by decide) ?_
        show Steps p.tables e below (T36.setTop (mkF m 65 #[.val (.int p0), .val (.int p1), .val (.int i32), .val (.ref wSUSCEPTIBLE), .val (.ref wSUSCEPTIBLE)] [])) _
        refine XS.aload X36.here hx rfl (hb hby at_65) rfl rfl ?_
        show Steps p.tables e below (T36.setTop (mkF m 67 #[.val (.int p0), .val (.int p1), .val (.int i32), .val (.ref wSUSCEPTIBLE), .val (.ref wSUSCEPTIBLE)] [(.ref wSUSCEPTIBLE)])) _
        refine XS.ifnullNo X36.here hx rfl (hb hby at_67) rfl ?_
        show Steps p.tables e below (T36.setTop (mkF m 70 #[.val (.int p0), .val (.int p1), .val (.int i32), .val (.ref wSUSCEPTIBLE), .val (.ref wSUSCEPTIBLE)] [])) _
        refine XS.aload X36.here hx rfl (hb hby at_70) rfl rfl ?_
        exact kt)
      rw [((by rw [f3]) : (f3 wSUSCEPTIBLE wSTATES wSWM wINFECTED wRECOVERED kSTATES kSWM) = (0 : Int32))] at hQ38
      obtain ⟨rfl, N38q, e38⟩ := hQ38
      have N38 := Fr.app N36 N38q
      obtain ⟨fs, hr, hrun, hended, hW, hsame⟩ := X38.leave (v := some (.int (1 : Int32))) (fun h => by rw [Bd.returns] at h; cases h)
      refine ⟨_, _, k39 _ ?_, hrun, hended, _, _, rfl, ?_, ⟨_, rfl⟩, hW, hsame.mono (by decide) (by decide)⟩
      · show Steps p.tables e below (T36.setTop (mkF m 72 #[.val (.int p0), .val (.int p1), .val (.int i32), .val (.ref wSUSCEPTIBLE), .val (.ref wSUSCEPTIBLE)] [(.ref wSUSCEPTIBLE)])) _
        refine st38 _ ?_
        show Steps p.tables e below (T38.setTop (mkF m 75 #[.val (.int p0), .val (.int p1), .val (.int i32), .val (.ref wSUSCEPTIBLE), .val (.ref wSUSCEPTIBLE)] [(.int (0 : Int32))])) _
        refine XS.iloadN X38.here hx rfl (hb hby at_75) rfl ?_
        show Steps p.tables e below (T38.setTop (mkF m 76 #[.val (.int p0), .val (.int p1), .val (.int i32), .val (.ref wSUSCEPTIBLE), .val (.ref wSUSCEPTIBLE)] [(.int i32), (.int (0 : Int32))])) _
        refine XS.icmpYes X38.here hx rfl (pc0 := 76) (pc' := 81) rfl (hb hby at_76) rfl (teq ((Eq.symm hc34) : (0 : Int32) = i32)).1 (by decide) (by decide) ?_
        show Steps p.tables e below (T38.setTop (mkF m 81 #[.val (.int p0), .val (.int p1), .val (.int i32), .val (.ref wSUSCEPTIBLE), .val (.ref wSUSCEPTIBLE)] [])) _
        refine XS.iconst X38.here hx rfl (hb hby at_81) ?_
        show Steps p.tables e below (T38.setTop (mkF m 82 #[.val (.int p0), .val (.int p1), .val (.int i32), .val (.ref wSUSCEPTIBLE), .val (.ref wSUSCEPTIBLE)] [(.int (1 : Int32))])) _
        exact retN X38 hx (t := .boolean) Bd.returns (by simp) (hb hby at_82) hr
      · show Q0 Z p0 p1 wSUSCEPTIBLE wSTATES wSWM wINFECTED wRECOVERED kSTATES kSWM h0 n0 _ T38.heap _
        rw [e38]
        exact ⟨rfl, N38⟩
    · have k40 : ∀ t, Steps p.tables e below (s₁.setTop (mkF m 27 #[.val (.int p0), .val (.int p1), .val (.int i32), .unset, .unset] [(.int (1 : Int32)), (.int i32)])) t → Steps p.tables e below (s₁.setTop (entryFrame m #[(.int p0), (.int p1)] maxLocals)) t := fun t kt => k33 t (by
        show Steps p.tables e below (s₁.setTop (mkF m 15 #[.val (.int p0), .val (.int p1), .val (.int i32), .unset, .unset] [(.int i32)])) _
        refine XS.ifYes X0.here hx rfl (pc0 := 15) (pc' := 25) rfl (hb hby at_15) rfl ((if0 _ _).trans (feq (hc34 : ¬ (i32 = (0 : Int32)))).2) (by decide) (by decide) ?_
        show Steps p.tables e below (s₁.setTop (mkF m 25 #[.val (.int p0), .val (.int p1), .val (.int i32), .unset, .unset] [])) _
        refine XS.iloadN X0.here hx rfl (hb hby at_25) rfl ?_
        show Steps p.tables e below (s₁.setTop (mkF m 26 #[.val (.int p0), .val (.int p1), .val (.int i32), .unset, .unset] [(.int i32)])) _
        refine XS.iconst X0.here hx rfl (hb hby at_26) ?_
        exact kt)
      by_cases hc41 : i32 = (1 : Int32)
      · obtain ⟨T42, X42, e42, st42⟩ := getS2 X0 hx hZ hown (host := "") (Or.inl (hw _ (List.mem_of_getElem? (i := 24) rfl))) Via.refl e0 SINFECTED (g := (mkF m 30 #[.val (.int p0), .val (.int p1), .val (.int i32), .unset, .unset] [])) rfl (hb hby at_30)
        obtain ⟨_, _, ⟨T43, L43, k43, n43⟩, -, X43, ⟨Lc43, hQ43, l43, y43, z43⟩, st43⟩ := Jvm.LawKit.callS X42 hx (y := (⟨"com/example/rippletide/rippletide/io/HistoryFormat", "state", "(I)Lcom/example/rippletide/rippletide/model/State;"⟩ : MethodName)) hown (mvT hZ (hw _ (List.mem_of_getElem? (i := 3) rfl))) (mvT hZ (hw _ (List.mem_of_getElem? (i := 4) rfl))) (mvT hZ (hw _ (List.mem_of_getElem? (i := 5) rfl))) (mvT hZ (hw _ (List.mem_of_getElem? (i := 6) rfl))) (by decide) (backOf (W := 0) (rm1 l Z a0 hw [] i32 wSUSCEPTIBLE wSTATES wSWM wINFECTED wRECOVERED kSTATES kSWM h0 n0 Z0 W0 ) hZ (hw _ (List.mem_of_getElem? (i := 6) rfl)) (hw _ (List.mem_of_getElem? (i := 5) rfl)) (by decide) (by decide)) (g := (mkF m 52 #[.val (.int p0), .val (.int p1), .val (.int i32), .val (.ref wINFECTED), .unset] [(.int i32)])) rfl (by rw [hml]; rfl) (argsL := [(.int i32)]) (rest := []) (lenOf pd_1 rfl) rfl (by show 2 * 0 + _ ≤ _; exact Nat.le_of_eq rfl) (hb hby at_52) (fun _ _ => ⟨rfl, e42, (by decide : 0 + 0 ≤ _), (by decide : 0 + 0 ≤ _)⟩)
        dsimp only [Pt.U, Pt.locs, Pt.cells, Pt.slots] at X43 l43 y43 z43 st43 hQ43
        subst l43 y43 z43
        unfold Q1 at hQ43
        have k44 : ∀ t, Steps p.tables e below (T42.setTop (mkF m 52 #[.val (.int p0), .val (.int p1), .val (.int i32), .val (.ref wINFECTED), .unset] [(.int i32)])) t → Steps p.tables e below (s₁.setTop (entryFrame m #[(.int p0), (.int p1)] maxLocals)) t := fun t kt => k40 t (by
          show Steps p.tables e below (s₁.setTop (mkF m 27 #[.val (.int p0), .val (.int p1), .val (.int i32), .unset, .unset] [(.int (1 : Int32)), (.int i32)])) _
          refine XS.icmpNo X0.here hx rfl (hb hby at_27) rfl (teq (hc41 : i32 = (1 : Int32))).2 ?_
          show Steps p.tables e below (s₁.setTop (mkF m 30 #[.val (.int p0), .val (.int p1), .val (.int i32), .unset, .unset] [])) _
          refine st42 _ ?_
          show Steps p.tables e below (T42.setTop (mkF m 33 #[.val (.int p0), .val (.int p1), .val (.int i32), .unset, .unset] [(.ref wINFECTED)])) _
          refine XS.astoreN X42.here hx rfl (hb hby at_33) rfl rfl (l' := #[.val (.int p0), .val (.int p1), .val (.int i32), .val (.ref wINFECTED), .unset]) rfl ?_
          show Steps p.tables e below (T42.setTop (mkF m 34 #[.val (.int p0), .val (.int p1), .val (.int i32), .val (.ref wINFECTED), .unset] [])) _
          refine XS.goto X42.here hx rfl (pc0 := 34) (pc' := 51) rfl (hb hby at_34) (by decide) (by decide) ?_
          show Steps p.tables e below (T42.setTop (mkF m 51 #[.val (.int p0), .val (.int p1), .val (.int i32), .val (.ref wINFECTED), .unset] [])) _
          refine XS.iloadN X42.here hx rfl (hb hby at_51) rfl ?_
          exact kt)
        rw [((by rw [f1, if_neg ((by rw [hc41]; decide) : ¬ (i32 < (0 : Int32))), if_pos ((by rw [hc41]; decide) : i32 < (3 : Int32)), if_neg (hc34 : ¬ (i32 = (0 : Int32))), if_pos (hc41 : i32 = (1 : Int32))]) : (f1 i32 wSUSCEPTIBLE wSTATES wSWM wINFECTED wRECOVERED kSTATES kSWM) = (.ref wINFECTED))] at hQ43
        obtain ⟨rfl, N43q, e43⟩ := hQ43
        have N43 := Fr.app N0 N43q
        obtain ⟨_, _, ⟨T45, L45, k45, n45⟩, -, X45, ⟨Lc45, hQ45, l45, y45, z45⟩, st45⟩ := Jvm.LawKit.callS X43 hx (y := (⟨"com/example/rippletide/rippletide/io/HistoryFormat", "code", "(Lcom/example/rippletide/rippletide/model/State;)I"⟩ : MethodName)) hown (mvT hZ (hw _ (List.mem_of_getElem? (i := 9) rfl))) (mvT hZ (hw _ (List.mem_of_getElem? (i := 10) rfl))) (mvT hZ (hw _ (List.mem_of_getElem? (i := 5) rfl))) (mvT hZ (hw _ (List.mem_of_getElem? (i := 11) rfl))) (by decide) (backOf (W := 0) (rm4 l Z a0 hw [] wSUSCEPTIBLE wSTATES wSWM wINFECTED wRECOVERED kSTATES kSWM h0 n0 Z0 W0 ) hZ (hw _ (List.mem_of_getElem? (i := 11) rfl)) (hw _ (List.mem_of_getElem? (i := 5) rfl)) (by decide) (by decide)) (g := (mkF m 72 #[.val (.int p0), .val (.int p1), .val (.int i32), .val (.ref wINFECTED), .val (.ref wINFECTED)] [(.ref wINFECTED)])) rfl (by rw [hml]; rfl) (argsL := [(.ref wINFECTED)]) (rest := []) (lenOf pd_2 rfl) rfl (by show 2 * 0 + _ ≤ _; exact Nat.le_of_eq rfl) (hb hby at_72) (fun _ _ => ⟨rfl, e43, (by decide : 0 + 0 ≤ _), (by decide : 0 + 0 ≤ _)⟩)
        dsimp only [Pt.U, Pt.locs, Pt.cells, Pt.slots] at X45 l45 y45 z45 st45 hQ45
        subst l45 y45 z45
        unfold Q4 at hQ45
        have k46 : ∀ t, Steps p.tables e below (T43.setTop (mkF m 72 #[.val (.int p0), .val (.int p1), .val (.int i32), .val (.ref wINFECTED), .val (.ref wINFECTED)] [(.ref wINFECTED)])) t → Steps p.tables e below (s₁.setTop (entryFrame m #[(.int p0), (.int p1)] maxLocals)) t := fun t kt => k44 t (by
          show Steps p.tables e below (T42.setTop (mkF m 52 #[.val (.int p0), .val (.int p1), .val (.int i32), .val (.ref wINFECTED), .unset] [(.int i32)])) _
          refine st43 _ ?_
          show Steps p.tables e below (T43.setTop (mkF m 55 #[.val (.int p0), .val (.int p1), .val (.int i32), .val (.ref wINFECTED), .unset] [(.ref wINFECTED)])) _
          refine XS.astore X43.here hx rfl (hb hby at_55) rfl rfl (l' := #[.val (.int p0), .val (.int p1), .val (.int i32), .val (.ref wINFECTED), .val (.ref wINFECTED)]) rfl ?_
          show Steps p.tables e below (T43.setTop (mkF m 57 #[.val (.int p0), .val (.int p1), .val (.int i32), .val (.ref wINFECTED), .val (.ref wINFECTED)] [])) _
          refine XS.aload X43.here hx rfl (hb hby at_57) rfl rfl ?_
          show Steps p.tables e below (T43.setTop (mkF m 59 #[.val (.int p0), .val (.int p1), .val (.int i32), .val (.ref wINFECTED), .val (.ref wINFECTED)] [(.ref wINFECTED)])) _
          refine XS.aloadN X43.here hx rfl (hb hby at_59) rfl rfl ?_
          show Steps p.tables e below (T43.setTop (mkF m 60 #[.val (.int p0), .val (.int p1), .val (.int i32), .val (.ref wINFECTED), .val (.ref wINFECTED)] [(.ref wINFECTED), (.ref wINFECTED)])) _
          refine Jvm.RoadKit.acmp (g := (mkF m 60 #[.val (.int p0), .val (.int p1), .val (.int i32), .val (.ref wINFECTED), .val (.ref wINFECTED)] [(.ref wINFECTED), (.ref wINFECTED)])) X43 hx rfl rfl rfl (pc0 := 60) (pc' := 65) (same := true) rfl (hb hby at_60) rfl (decide_eq_true (congrArg Value.ref (rfl : wINFECTED = wINFECTED))) (by decide) (by decide) ?_
          show Steps p.tables e below (T43.setTop (mkF m 65 #[.val (.int p0), .val (.int p1), .val (.int i32), .val (.ref wINFECTED), .val (.ref wINFECTED)] [])) _
          refine XS.aload X43.here hx rfl (hb hby at_65) rfl rfl ?_
          show Steps p.tables e below (T43.setTop (mkF m 67 #[.val (.int p0), .val (.int p1), .val (.int i32), .val (.ref wINFECTED), .val (.ref wINFECTED)] [(.ref wINFECTED)])) _
          refine XS.ifnullNo X43.here hx rfl (hb hby at_67) rfl ?_
          show Steps p.tables e below (T43.setTop (mkF m 70 #[.val (.int p0), .val (.int p1), .val (.int i32), .val (.ref wINFECTED), .val (.ref wINFECTED)] [])) _
          refine XS.aload X43.here hx rfl (hb hby at_70) rfl rfl ?_
          exact kt)
        rw [((by rw [f4]) : (f4 wSUSCEPTIBLE wSTATES wSWM wINFECTED wRECOVERED kSTATES kSWM) = (1 : Int32))] at hQ45
        obtain ⟨rfl, N45q, e45⟩ := hQ45
        have N45 := Fr.app N43 N45q
        obtain ⟨fs, hr, hrun, hended, hW, hsame⟩ := X45.leave (v := some (.int (1 : Int32))) (fun h => by rw [Bd.returns] at h; cases h)
        refine ⟨_, _, k46 _ ?_, hrun, hended, _, _, rfl, ?_, ⟨_, rfl⟩, hW, hsame.mono (by decide) (by decide)⟩
        · show Steps p.tables e below (T43.setTop (mkF m 72 #[.val (.int p0), .val (.int p1), .val (.int i32), .val (.ref wINFECTED), .val (.ref wINFECTED)] [(.ref wINFECTED)])) _
          refine st45 _ ?_
          show Steps p.tables e below (T45.setTop (mkF m 75 #[.val (.int p0), .val (.int p1), .val (.int i32), .val (.ref wINFECTED), .val (.ref wINFECTED)] [(.int (1 : Int32))])) _
          refine XS.iloadN X45.here hx rfl (hb hby at_75) rfl ?_
          show Steps p.tables e below (T45.setTop (mkF m 76 #[.val (.int p0), .val (.int p1), .val (.int i32), .val (.ref wINFECTED), .val (.ref wINFECTED)] [(.int i32), (.int (1 : Int32))])) _
          refine XS.icmpYes X45.here hx rfl (pc0 := 76) (pc' := 81) rfl (hb hby at_76) rfl (teq ((Eq.symm hc41) : (1 : Int32) = i32)).1 (by decide) (by decide) ?_
          show Steps p.tables e below (T45.setTop (mkF m 81 #[.val (.int p0), .val (.int p1), .val (.int i32), .val (.ref wINFECTED), .val (.ref wINFECTED)] [])) _
          refine XS.iconst X45.here hx rfl (hb hby at_81) ?_
          show Steps p.tables e below (T45.setTop (mkF m 82 #[.val (.int p0), .val (.int p1), .val (.int i32), .val (.ref wINFECTED), .val (.ref wINFECTED)] [(.int (1 : Int32))])) _
          exact retN X45 hx (t := .boolean) Bd.returns (by simp) (hb hby at_82) hr
        · show Q0 Z p0 p1 wSUSCEPTIBLE wSTATES wSWM wINFECTED wRECOVERED kSTATES kSWM h0 n0 _ T45.heap _
          rw [e45]
          exact ⟨rfl, N45⟩
      · have k47 : ∀ t, Steps p.tables e below (s₁.setTop (mkF m 39 #[.val (.int p0), .val (.int p1), .val (.int i32), .unset, .unset] [(.int (2 : Int32)), (.int i32)])) t → Steps p.tables e below (s₁.setTop (entryFrame m #[(.int p0), (.int p1)] maxLocals)) t := fun t kt => k40 t (by
          show Steps p.tables e below (s₁.setTop (mkF m 27 #[.val (.int p0), .val (.int p1), .val (.int i32), .unset, .unset] [(.int (1 : Int32)), (.int i32)])) _
          refine XS.icmpYes X0.here hx rfl (pc0 := 27) (pc' := 37) rfl (hb hby at_27) rfl (feq (hc41 : ¬ (i32 = (1 : Int32)))).2 (by decide) (by decide) ?_
          show Steps p.tables e below (s₁.setTop (mkF m 37 #[.val (.int p0), .val (.int p1), .val (.int i32), .unset, .unset] [])) _
          refine XS.iloadN X0.here hx rfl (hb hby at_37) rfl ?_
          show Steps p.tables e below (s₁.setTop (mkF m 38 #[.val (.int p0), .val (.int p1), .val (.int i32), .unset, .unset] [(.int i32)])) _
          refine XS.iconst X0.here hx rfl (hb hby at_38) ?_
          exact kt)
        by_cases hc48 : i32 = (2 : Int32)
        · obtain ⟨T49, X49, e49, st49⟩ := getS2 X0 hx hZ hown (host := "") (Or.inl (hw _ (List.mem_of_getElem? (i := 26) rfl))) Via.refl e0 SRECOVERED (g := (mkF m 42 #[.val (.int p0), .val (.int p1), .val (.int i32), .unset, .unset] [])) rfl (hb hby at_42)
          obtain ⟨_, _, ⟨T50, L50, k50, n50⟩, -, X50, ⟨Lc50, hQ50, l50, y50, z50⟩, st50⟩ := Jvm.LawKit.callS X49 hx (y := (⟨"com/example/rippletide/rippletide/io/HistoryFormat", "state", "(I)Lcom/example/rippletide/rippletide/model/State;"⟩ : MethodName)) hown (mvT hZ (hw _ (List.mem_of_getElem? (i := 3) rfl))) (mvT hZ (hw _ (List.mem_of_getElem? (i := 4) rfl))) (mvT hZ (hw _ (List.mem_of_getElem? (i := 5) rfl))) (mvT hZ (hw _ (List.mem_of_getElem? (i := 6) rfl))) (by decide) (backOf (W := 0) (rm1 l Z a0 hw [] i32 wSUSCEPTIBLE wSTATES wSWM wINFECTED wRECOVERED kSTATES kSWM h0 n0 Z0 W0 ) hZ (hw _ (List.mem_of_getElem? (i := 6) rfl)) (hw _ (List.mem_of_getElem? (i := 5) rfl)) (by decide) (by decide)) (g := (mkF m 52 #[.val (.int p0), .val (.int p1), .val (.int i32), .val (.ref wRECOVERED), .unset] [(.int i32)])) rfl (by rw [hml]; rfl) (argsL := [(.int i32)]) (rest := []) (lenOf pd_1 rfl) rfl (by show 2 * 0 + _ ≤ _; exact Nat.le_of_eq rfl) (hb hby at_52) (fun _ _ => ⟨rfl, e49, (by decide : 0 + 0 ≤ _), (by decide : 0 + 0 ≤ _)⟩)
          dsimp only [Pt.U, Pt.locs, Pt.cells, Pt.slots] at X50 l50 y50 z50 st50 hQ50
          subst l50 y50 z50
          unfold Q1 at hQ50
          have k51 : ∀ t, Steps p.tables e below (T49.setTop (mkF m 52 #[.val (.int p0), .val (.int p1), .val (.int i32), .val (.ref wRECOVERED), .unset] [(.int i32)])) t → Steps p.tables e below (s₁.setTop (entryFrame m #[(.int p0), (.int p1)] maxLocals)) t := fun t kt => k47 t (by
            show Steps p.tables e below (s₁.setTop (mkF m 39 #[.val (.int p0), .val (.int p1), .val (.int i32), .unset, .unset] [(.int (2 : Int32)), (.int i32)])) _
            refine XS.icmpNo X0.here hx rfl (hb hby at_39) rfl (teq (hc48 : i32 = (2 : Int32))).2 ?_
            show Steps p.tables e below (s₁.setTop (mkF m 42 #[.val (.int p0), .val (.int p1), .val (.int i32), .unset, .unset] [])) _
            refine st49 _ ?_
            show Steps p.tables e below (T49.setTop (mkF m 45 #[.val (.int p0), .val (.int p1), .val (.int i32), .unset, .unset] [(.ref wRECOVERED)])) _
            refine XS.astoreN X49.here hx rfl (hb hby at_45) rfl rfl (l' := #[.val (.int p0), .val (.int p1), .val (.int i32), .val (.ref wRECOVERED), .unset]) rfl ?_
            show Steps p.tables e below (T49.setTop (mkF m 46 #[.val (.int p0), .val (.int p1), .val (.int i32), .val (.ref wRECOVERED), .unset] [])) _
            refine XS.goto X49.here hx rfl (pc0 := 46) (pc' := 51) rfl (hb hby at_46) (by decide) (by decide) ?_
            show Steps p.tables e below (T49.setTop (mkF m 51 #[.val (.int p0), .val (.int p1), .val (.int i32), .val (.ref wRECOVERED), .unset] [])) _
            refine XS.iloadN X49.here hx rfl (hb hby at_51) rfl ?_
            exact kt)
          rw [((by rw [f1, if_neg ((by rw [hc48]; decide) : ¬ (i32 < (0 : Int32))), if_pos ((by rw [hc48]; decide) : i32 < (3 : Int32)), if_neg (hc34 : ¬ (i32 = (0 : Int32))), if_neg (hc41 : ¬ (i32 = (1 : Int32)))]) : (f1 i32 wSUSCEPTIBLE wSTATES wSWM wINFECTED wRECOVERED kSTATES kSWM) = (.ref wRECOVERED))] at hQ50
          obtain ⟨rfl, N50q, e50⟩ := hQ50
          have N50 := Fr.app N0 N50q
          obtain ⟨_, _, ⟨T52, L52, k52, n52⟩, -, X52, ⟨Lc52, hQ52, l52, y52, z52⟩, st52⟩ := Jvm.LawKit.callS X50 hx (y := (⟨"com/example/rippletide/rippletide/io/HistoryFormat", "code", "(Lcom/example/rippletide/rippletide/model/State;)I"⟩ : MethodName)) hown (mvT hZ (hw _ (List.mem_of_getElem? (i := 9) rfl))) (mvT hZ (hw _ (List.mem_of_getElem? (i := 10) rfl))) (mvT hZ (hw _ (List.mem_of_getElem? (i := 5) rfl))) (mvT hZ (hw _ (List.mem_of_getElem? (i := 11) rfl))) (by decide) (backOf (W := 0) (rm5 l Z a0 hw [] wSUSCEPTIBLE wSTATES wSWM wINFECTED wRECOVERED kSTATES kSWM h0 n0 Z0 W0 ) hZ (hw _ (List.mem_of_getElem? (i := 11) rfl)) (hw _ (List.mem_of_getElem? (i := 5) rfl)) (by decide) (by decide)) (g := (mkF m 72 #[.val (.int p0), .val (.int p1), .val (.int i32), .val (.ref wRECOVERED), .val (.ref wRECOVERED)] [(.ref wRECOVERED)])) rfl (by rw [hml]; rfl) (argsL := [(.ref wRECOVERED)]) (rest := []) (lenOf pd_2 rfl) rfl (by show 2 * 0 + _ ≤ _; exact Nat.le_of_eq rfl) (hb hby at_72) (fun _ _ => ⟨rfl, e50, (by decide : 0 + 0 ≤ _), (by decide : 0 + 0 ≤ _)⟩)
          dsimp only [Pt.U, Pt.locs, Pt.cells, Pt.slots] at X52 l52 y52 z52 st52 hQ52
          subst l52 y52 z52
          unfold Q5 at hQ52
          have k53 : ∀ t, Steps p.tables e below (T50.setTop (mkF m 72 #[.val (.int p0), .val (.int p1), .val (.int i32), .val (.ref wRECOVERED), .val (.ref wRECOVERED)] [(.ref wRECOVERED)])) t → Steps p.tables e below (s₁.setTop (entryFrame m #[(.int p0), (.int p1)] maxLocals)) t := fun t kt => k51 t (by
            show Steps p.tables e below (T49.setTop (mkF m 52 #[.val (.int p0), .val (.int p1), .val (.int i32), .val (.ref wRECOVERED), .unset] [(.int i32)])) _
            refine st50 _ ?_
            show Steps p.tables e below (T50.setTop (mkF m 55 #[.val (.int p0), .val (.int p1), .val (.int i32), .val (.ref wRECOVERED), .unset] [(.ref wRECOVERED)])) _
            refine XS.astore X50.here hx rfl (hb hby at_55) rfl rfl (l' := #[.val (.int p0), .val (.int p1), .val (.int i32), .val (.ref wRECOVERED), .val (.ref wRECOVERED)]) rfl ?_
            show Steps p.tables e below (T50.setTop (mkF m 57 #[.val (.int p0), .val (.int p1), .val (.int i32), .val (.ref wRECOVERED), .val (.ref wRECOVERED)] [])) _
            refine XS.aload X50.here hx rfl (hb hby at_57) rfl rfl ?_
            show Steps p.tables e below (T50.setTop (mkF m 59 #[.val (.int p0), .val (.int p1), .val (.int i32), .val (.ref wRECOVERED), .val (.ref wRECOVERED)] [(.ref wRECOVERED)])) _
            refine XS.aloadN X50.here hx rfl (hb hby at_59) rfl rfl ?_
            show Steps p.tables e below (T50.setTop (mkF m 60 #[.val (.int p0), .val (.int p1), .val (.int i32), .val (.ref wRECOVERED), .val (.ref wRECOVERED)] [(.ref wRECOVERED), (.ref wRECOVERED)])) _
            refine Jvm.RoadKit.acmp (g := (mkF m 60 #[.val (.int p0), .val (.int p1), .val (.int i32), .val (.ref wRECOVERED), .val (.ref wRECOVERED)] [(.ref wRECOVERED), (.ref wRECOVERED)])) X50 hx rfl rfl rfl (pc0 := 60) (pc' := 65) (same := true) rfl (hb hby at_60) rfl (decide_eq_true (congrArg Value.ref (rfl : wRECOVERED = wRECOVERED))) (by decide) (by decide) ?_
            show Steps p.tables e below (T50.setTop (mkF m 65 #[.val (.int p0), .val (.int p1), .val (.int i32), .val (.ref wRECOVERED), .val (.ref wRECOVERED)] [])) _
            refine XS.aload X50.here hx rfl (hb hby at_65) rfl rfl ?_
            show Steps p.tables e below (T50.setTop (mkF m 67 #[.val (.int p0), .val (.int p1), .val (.int i32), .val (.ref wRECOVERED), .val (.ref wRECOVERED)] [(.ref wRECOVERED)])) _
            refine XS.ifnullNo X50.here hx rfl (hb hby at_67) rfl ?_
            show Steps p.tables e below (T50.setTop (mkF m 70 #[.val (.int p0), .val (.int p1), .val (.int i32), .val (.ref wRECOVERED), .val (.ref wRECOVERED)] [])) _
            refine XS.aload X50.here hx rfl (hb hby at_70) rfl rfl ?_
            exact kt)
          rw [((by rw [f5]) : (f5 wSUSCEPTIBLE wSTATES wSWM wINFECTED wRECOVERED kSTATES kSWM) = (2 : Int32))] at hQ52
          obtain ⟨rfl, N52q, e52⟩ := hQ52
          have N52 := Fr.app N50 N52q
          obtain ⟨fs, hr, hrun, hended, hW, hsame⟩ := X52.leave (v := some (.int (1 : Int32))) (fun h => by rw [Bd.returns] at h; cases h)
          refine ⟨_, _, k53 _ ?_, hrun, hended, _, _, rfl, ?_, ⟨_, rfl⟩, hW, hsame.mono (by decide) (by decide)⟩
          · show Steps p.tables e below (T50.setTop (mkF m 72 #[.val (.int p0), .val (.int p1), .val (.int i32), .val (.ref wRECOVERED), .val (.ref wRECOVERED)] [(.ref wRECOVERED)])) _
            refine st52 _ ?_
            show Steps p.tables e below (T52.setTop (mkF m 75 #[.val (.int p0), .val (.int p1), .val (.int i32), .val (.ref wRECOVERED), .val (.ref wRECOVERED)] [(.int (2 : Int32))])) _
            refine XS.iloadN X52.here hx rfl (hb hby at_75) rfl ?_
            show Steps p.tables e below (T52.setTop (mkF m 76 #[.val (.int p0), .val (.int p1), .val (.int i32), .val (.ref wRECOVERED), .val (.ref wRECOVERED)] [(.int i32), (.int (2 : Int32))])) _
            refine XS.icmpYes X52.here hx rfl (pc0 := 76) (pc' := 81) rfl (hb hby at_76) rfl (teq ((Eq.symm hc48) : (2 : Int32) = i32)).1 (by decide) (by decide) ?_
            show Steps p.tables e below (T52.setTop (mkF m 81 #[.val (.int p0), .val (.int p1), .val (.int i32), .val (.ref wRECOVERED), .val (.ref wRECOVERED)] [])) _
            refine XS.iconst X52.here hx rfl (hb hby at_81) ?_
            show Steps p.tables e below (T52.setTop (mkF m 82 #[.val (.int p0), .val (.int p1), .val (.int i32), .val (.ref wRECOVERED), .val (.ref wRECOVERED)] [(.int (1 : Int32))])) _
            exact retN X52 hx (t := .boolean) Bd.returns (by simp) (hb hby at_82) hr
          · show Q0 Z p0 p1 wSUSCEPTIBLE wSTATES wSWM wINFECTED wRECOVERED kSTATES kSWM h0 n0 _ T52.heap _
            rw [e52]
            exact ⟨rfl, N52⟩
        · obtain ⟨_, _, ⟨T54, L54, k54, n54⟩, -, X54, ⟨Lc54, hQ54, l54, y54, z54⟩, st54⟩ := Jvm.LawKit.callS X0 hx (y := (⟨"com/example/rippletide/rippletide/io/HistoryFormat", "state", "(I)Lcom/example/rippletide/rippletide/model/State;"⟩ : MethodName)) hown (mvT hZ (hw _ (List.mem_of_getElem? (i := 3) rfl))) (mvT hZ (hw _ (List.mem_of_getElem? (i := 4) rfl))) (mvT hZ (hw _ (List.mem_of_getElem? (i := 5) rfl))) (mvT hZ (hw _ (List.mem_of_getElem? (i := 6) rfl))) (by decide) (backOf (W := 0) (rm1 l Z a0 hw [] i32 wSUSCEPTIBLE wSTATES wSWM wINFECTED wRECOVERED kSTATES kSWM h0 n0 Z0 W0 ) hZ (hw _ (List.mem_of_getElem? (i := 6) rfl)) (hw _ (List.mem_of_getElem? (i := 5) rfl)) (by decide) (by decide)) (g := (mkF m 52 #[.val (.int p0), .val (.int p1), .val (.int i32), .val .null, .unset] [(.int i32)])) rfl (by rw [hml]; rfl) (argsL := [(.int i32)]) (rest := []) (lenOf pd_1 rfl) rfl (by show 2 * 0 + _ ≤ _; exact Nat.le_of_eq rfl) (hb hby at_52) (fun _ _ => ⟨rfl, e0, (by decide : 0 + 0 ≤ _), (by decide : 0 + 0 ≤ _)⟩)
          dsimp only [Pt.U, Pt.locs, Pt.cells, Pt.slots] at X54 l54 y54 z54 st54 hQ54
          subst l54 y54 z54
          unfold Q1 at hQ54
          have k55 : ∀ t, Steps p.tables e below (s₁.setTop (mkF m 52 #[.val (.int p0), .val (.int p1), .val (.int i32), .val .null, .unset] [(.int i32)])) t → Steps p.tables e below (s₁.setTop (entryFrame m #[(.int p0), (.int p1)] maxLocals)) t := fun t kt => k47 t (by
            show Steps p.tables e below (s₁.setTop (mkF m 39 #[.val (.int p0), .val (.int p1), .val (.int i32), .unset, .unset] [(.int (2 : Int32)), (.int i32)])) _
            refine XS.icmpYes X0.here hx rfl (pc0 := 39) (pc' := 49) rfl (hb hby at_39) rfl (feq (hc48 : ¬ (i32 = (2 : Int32)))).2 (by decide) (by decide) ?_
            show Steps p.tables e below (s₁.setTop (mkF m 49 #[.val (.int p0), .val (.int p1), .val (.int i32), .unset, .unset] [])) _
            refine XS.aconstNull X0.here hx rfl (hb hby at_49) ?_
            show Steps p.tables e below (s₁.setTop (mkF m 50 #[.val (.int p0), .val (.int p1), .val (.int i32), .unset, .unset] [.null])) _
            refine XS.astoreN X0.here hx rfl (hb hby at_50) rfl rfl (l' := #[.val (.int p0), .val (.int p1), .val (.int i32), .val .null, .unset]) rfl ?_
            show Steps p.tables e below (s₁.setTop (mkF m 51 #[.val (.int p0), .val (.int p1), .val (.int i32), .val .null, .unset] [])) _
            refine XS.iloadN X0.here hx rfl (hb hby at_51) rfl ?_
            exact kt)
          by_cases hc56 : i32 < (0 : Int32)
          · rw [((by rw [f1, if_pos (hc56 : i32 < (0 : Int32))]) : (f1 i32 wSUSCEPTIBLE wSTATES wSWM wINFECTED wRECOVERED kSTATES kSWM) = .null)] at hQ54
            obtain ⟨rfl, N54q, e54⟩ := hQ54
            have N54 := Fr.app N0 N54q
            obtain ⟨fs, hr, hrun, hended, hW, hsame⟩ := X54.leave (v := some (.int (1 : Int32))) (fun h => by rw [Bd.returns] at h; cases h)
            refine ⟨_, _, k55 _ ?_, hrun, hended, _, _, rfl, ?_, ⟨_, rfl⟩, hW, hsame.mono (by decide) (by decide)⟩
            · show Steps p.tables e below (s₁.setTop (mkF m 52 #[.val (.int p0), .val (.int p1), .val (.int i32), .val .null, .unset] [(.int i32)])) _
              refine st54 _ ?_
              show Steps p.tables e below (T54.setTop (mkF m 55 #[.val (.int p0), .val (.int p1), .val (.int i32), .val .null, .unset] [.null])) _
              refine XS.astore X54.here hx rfl (hb hby at_55) rfl rfl (l' := #[.val (.int p0), .val (.int p1), .val (.int i32), .val .null, .val .null]) rfl ?_
              show Steps p.tables e below (T54.setTop (mkF m 57 #[.val (.int p0), .val (.int p1), .val (.int i32), .val .null, .val .null] [])) _
              refine XS.aload X54.here hx rfl (hb hby at_57) rfl rfl ?_
              show Steps p.tables e below (T54.setTop (mkF m 59 #[.val (.int p0), .val (.int p1), .val (.int i32), .val .null, .val .null] [.null])) _
              refine XS.aloadN X54.here hx rfl (hb hby at_59) rfl rfl ?_
              show Steps p.tables e below (T54.setTop (mkF m 60 #[.val (.int p0), .val (.int p1), .val (.int i32), .val .null, .val .null] [.null, .null])) _
              refine Jvm.RoadKit.acmp (g := (mkF m 60 #[.val (.int p0), .val (.int p1), .val (.int i32), .val .null, .val .null] [.null, .null])) X54 hx rfl rfl rfl (pc0 := 60) (pc' := 65) (same := true) rfl (hb hby at_60) rfl (decide_eq_true rfl) (by decide) (by decide) ?_
              show Steps p.tables e below (T54.setTop (mkF m 65 #[.val (.int p0), .val (.int p1), .val (.int i32), .val .null, .val .null] [])) _
              refine XS.aload X54.here hx rfl (hb hby at_65) rfl rfl ?_
              show Steps p.tables e below (T54.setTop (mkF m 67 #[.val (.int p0), .val (.int p1), .val (.int i32), .val .null, .val .null] [.null])) _
              refine XS.ifnullYes X54.here hx rfl (pc0 := 67) (pc' := 81) rfl (hb hby at_67) rfl (by decide) (by decide) ?_
              show Steps p.tables e below (T54.setTop (mkF m 81 #[.val (.int p0), .val (.int p1), .val (.int i32), .val .null, .val .null] [])) _
              refine XS.iconst X54.here hx rfl (hb hby at_81) ?_
              show Steps p.tables e below (T54.setTop (mkF m 82 #[.val (.int p0), .val (.int p1), .val (.int i32), .val .null, .val .null] [(.int (1 : Int32))])) _
              exact retN X54 hx (t := .boolean) Bd.returns (by simp) (hb hby at_82) hr
            · show Q0 Z p0 p1 wSUSCEPTIBLE wSTATES wSWM wINFECTED wRECOVERED kSTATES kSWM h0 n0 _ T54.heap _
              rw [e54]
              exact ⟨rfl, N54⟩
          · by_cases hc57 : i32 < (3 : Int32)
            · rw [((by rw [f1, if_neg (hc56 : ¬ (i32 < (0 : Int32))), if_pos (hc57 : i32 < (3 : Int32)), if_neg (hc34 : ¬ (i32 = (0 : Int32))), if_neg (hc41 : ¬ (i32 = (1 : Int32)))]) : (f1 i32 wSUSCEPTIBLE wSTATES wSWM wINFECTED wRECOVERED kSTATES kSWM) = (.ref wRECOVERED))] at hQ54
              obtain ⟨rfl, N54q, e54⟩ := hQ54
              have N54 := Fr.app N0 N54q
              exact (own_no3 hc34 hc41 hc48 hc56 hc57).elim
            · rw [((by rw [f1, if_neg (hc56 : ¬ (i32 < (0 : Int32))), if_neg (hc57 : ¬ (i32 < (3 : Int32)))]) : (f1 i32 wSUSCEPTIBLE wSTATES wSWM wINFECTED wRECOVERED kSTATES kSWM) = .null)] at hQ54
              obtain ⟨rfl, N54q, e54⟩ := hQ54
              have N54 := Fr.app N0 N54q
              obtain ⟨fs, hr, hrun, hended, hW, hsame⟩ := X54.leave (v := some (.int (1 : Int32))) (fun h => by rw [Bd.returns] at h; cases h)
              refine ⟨_, _, k55 _ ?_, hrun, hended, _, _, rfl, ?_, ⟨_, rfl⟩, hW, hsame.mono (by decide) (by decide)⟩
              · show Steps p.tables e below (s₁.setTop (mkF m 52 #[.val (.int p0), .val (.int p1), .val (.int i32), .val .null, .unset] [(.int i32)])) _
                refine st54 _ ?_
                show Steps p.tables e below (T54.setTop (mkF m 55 #[.val (.int p0), .val (.int p1), .val (.int i32), .val .null, .unset] [.null])) _
                refine XS.astore X54.here hx rfl (hb hby at_55) rfl rfl (l' := #[.val (.int p0), .val (.int p1), .val (.int i32), .val .null, .val .null]) rfl ?_
                show Steps p.tables e below (T54.setTop (mkF m 57 #[.val (.int p0), .val (.int p1), .val (.int i32), .val .null, .val .null] [])) _
                refine XS.aload X54.here hx rfl (hb hby at_57) rfl rfl ?_
                show Steps p.tables e below (T54.setTop (mkF m 59 #[.val (.int p0), .val (.int p1), .val (.int i32), .val .null, .val .null] [.null])) _
                refine XS.aloadN X54.here hx rfl (hb hby at_59) rfl rfl ?_
                show Steps p.tables e below (T54.setTop (mkF m 60 #[.val (.int p0), .val (.int p1), .val (.int i32), .val .null, .val .null] [.null, .null])) _
                refine Jvm.RoadKit.acmp (g := (mkF m 60 #[.val (.int p0), .val (.int p1), .val (.int i32), .val .null, .val .null] [.null, .null])) X54 hx rfl rfl rfl (pc0 := 60) (pc' := 65) (same := true) rfl (hb hby at_60) rfl (decide_eq_true rfl) (by decide) (by decide) ?_
                show Steps p.tables e below (T54.setTop (mkF m 65 #[.val (.int p0), .val (.int p1), .val (.int i32), .val .null, .val .null] [])) _
                refine XS.aload X54.here hx rfl (hb hby at_65) rfl rfl ?_
                show Steps p.tables e below (T54.setTop (mkF m 67 #[.val (.int p0), .val (.int p1), .val (.int i32), .val .null, .val .null] [.null])) _
                refine XS.ifnullYes X54.here hx rfl (pc0 := 67) (pc' := 81) rfl (hb hby at_67) rfl (by decide) (by decide) ?_
                show Steps p.tables e below (T54.setTop (mkF m 81 #[.val (.int p0), .val (.int p1), .val (.int i32), .val .null, .val .null] [])) _
                refine XS.iconst X54.here hx rfl (hb hby at_81) ?_
                show Steps p.tables e below (T54.setTop (mkF m 82 #[.val (.int p0), .val (.int p1), .val (.int i32), .val .null, .val .null] [(.int (1 : Int32))])) _
                exact retN X54 hx (t := .boolean) Bd.returns (by simp) (hb hby at_82) hr
              · show Q0 Z p0 p1 wSUSCEPTIBLE wSTATES wSWM wINFECTED wRECOVERED kSTATES kSWM h0 n0 _ T54.heap _
                rw [e54]
                exact ⟨rfl, N54⟩
  · have k58 : ∀ t, Steps p.tables e below (s₁.setTop (mkF m 15 #[.val (.int p0), .val (.int p1), .val (.int p0), .unset, .unset] [(.int p0)])) t → Steps p.tables e below (s₁.setTop (entryFrame m #[(.int p0), (.int p1)] maxLocals)) t := fun t kt => k30 t (by
      show Steps p.tables e below (s₁.setTop (mkF m 3 #[.val (.int p0), .val (.int p1), .unset, .unset, .unset] [(.int (p1 &&& (1 : Int32)))])) _
      refine XS.ifNo X0.here hx rfl (hb hby at_3) rfl ((if0 _ _).trans (feq (hc31 : ¬ ((p1 &&& (1 : Int32)) = (0 : Int32)))).1) ?_
      show Steps p.tables e below (s₁.setTop (mkF m 6 #[.val (.int p0), .val (.int p1), .unset, .unset, .unset] [])) _
      refine XS.iloadN X0.here hx rfl (hb hby at_6) rfl ?_
      show Steps p.tables e below (s₁.setTop (mkF m 7 #[.val (.int p0), .val (.int p1), .unset, .unset, .unset] [(.int p0)])) _
      refine XS.goto X0.here hx rfl (pc0 := 7) (pc' := 13) rfl (hb hby at_7) (by decide) (by decide) ?_
      show Steps p.tables e below (s₁.setTop (mkF m 13 #[.val (.int p0), .val (.int p1), .unset, .unset, .unset] [(.int p0)])) _
      refine XS.istoreN X0.here hx rfl (hb hby at_13) rfl (l' := #[.val (.int p0), .val (.int p1), .val (.int p0), .unset, .unset]) rfl ?_
      show Steps p.tables e below (s₁.setTop (mkF m 14 #[.val (.int p0), .val (.int p1), .val (.int p0), .unset, .unset] [])) _
      refine XS.iloadN X0.here hx rfl (hb hby at_14) rfl ?_
      exact kt)
    by_cases hc59 : p0 = (0 : Int32)
    · obtain ⟨T60, X60, e60, st60⟩ := getS2 X0 hx hZ hown (host := "") (Or.inl (hw _ (List.mem_of_getElem? (i := 0) rfl))) Via.refl e0 SSUSCEPTIBLE (g := (mkF m 18 #[.val (.int p0), .val (.int p1), .val (.int p0), .unset, .unset] [])) rfl (hb hby at_18)
      obtain ⟨_, _, ⟨T61, L61, k61, n61⟩, -, X61, ⟨Lc61, hQ61, l61, y61, z61⟩, st61⟩ := Jvm.LawKit.callS X60 hx (y := (⟨"com/example/rippletide/rippletide/io/HistoryFormat", "state", "(I)Lcom/example/rippletide/rippletide/model/State;"⟩ : MethodName)) hown (mvT hZ (hw _ (List.mem_of_getElem? (i := 3) rfl))) (mvT hZ (hw _ (List.mem_of_getElem? (i := 4) rfl))) (mvT hZ (hw _ (List.mem_of_getElem? (i := 5) rfl))) (mvT hZ (hw _ (List.mem_of_getElem? (i := 6) rfl))) (by decide) (backOf (W := 0) (rm1 l Z a0 hw [] p0 wSUSCEPTIBLE wSTATES wSWM wINFECTED wRECOVERED kSTATES kSWM h0 n0 Z0 W0 ) hZ (hw _ (List.mem_of_getElem? (i := 6) rfl)) (hw _ (List.mem_of_getElem? (i := 5) rfl)) (by decide) (by decide)) (g := (mkF m 52 #[.val (.int p0), .val (.int p1), .val (.int p0), .val (.ref wSUSCEPTIBLE), .unset] [(.int p0)])) rfl (by rw [hml]; rfl) (argsL := [(.int p0)]) (rest := []) (lenOf pd_1 rfl) rfl (by show 2 * 0 + _ ≤ _; exact Nat.le_of_eq rfl) (hb hby at_52) (fun _ _ => ⟨rfl, e60, (by decide : 0 + 0 ≤ _), (by decide : 0 + 0 ≤ _)⟩)
      dsimp only [Pt.U, Pt.locs, Pt.cells, Pt.slots] at X61 l61 y61 z61 st61 hQ61
      subst l61 y61 z61
      unfold Q1 at hQ61
      have k62 : ∀ t, Steps p.tables e below (T60.setTop (mkF m 52 #[.val (.int p0), .val (.int p1), .val (.int p0), .val (.ref wSUSCEPTIBLE), .unset] [(.int p0)])) t → Steps p.tables e below (s₁.setTop (entryFrame m #[(.int p0), (.int p1)] maxLocals)) t := fun t kt => k58 t (by
        show Steps p.tables e below (s₁.setTop (mkF m 15 #[.val (.int p0), .val (.int p1), .val (.int p0), .unset, .unset] [(.int p0)])) _
        refine XS.ifNo X0.here hx rfl (hb hby at_15) rfl ((if0 _ _).trans (teq (hc59 : p0 = (0 : Int32))).2) ?_
        show Steps p.tables e below (s₁.setTop (mkF m 18 #[.val (.int p0), .val (.int p1), .val (.int p0), .unset, .unset] [])) _
        refine st60 _ ?_
        show Steps p.tables e below (T60.setTop (mkF m 21 #[.val (.int p0), .val (.int p1), .val (.int p0), .unset, .unset] [(.ref wSUSCEPTIBLE)])) _
        refine XS.astoreN X60.here hx rfl (hb hby at_21) rfl rfl (l' := #[.val (.int p0), .val (.int p1), .val (.int p0), .val (.ref wSUSCEPTIBLE), .unset]) rfl ?_
        show Steps p.tables e below (T60.setTop (mkF m 22 #[.val (.int p0), .val (.int p1), .val (.int p0), .val (.ref wSUSCEPTIBLE), .unset] [])) _
        refine XS.goto X60.here hx rfl (pc0 := 22) (pc' := 51) rfl (hb hby at_22) (by decide) (by decide) ?_
        show Steps p.tables e below (T60.setTop (mkF m 51 #[.val (.int p0), .val (.int p1), .val (.int p0), .val (.ref wSUSCEPTIBLE), .unset] [])) _
        refine XS.iloadN X60.here hx rfl (hb hby at_51) rfl ?_
        exact kt)
      rw [((by rw [f1, if_neg ((by rw [hc59]; decide) : ¬ (p0 < (0 : Int32))), if_pos ((by rw [hc59]; decide) : p0 < (3 : Int32)), if_pos (hc59 : p0 = (0 : Int32))]) : (f1 p0 wSUSCEPTIBLE wSTATES wSWM wINFECTED wRECOVERED kSTATES kSWM) = (.ref wSUSCEPTIBLE))] at hQ61
      obtain ⟨rfl, N61q, e61⟩ := hQ61
      have N61 := Fr.app N0 N61q
      obtain ⟨_, _, ⟨T63, L63, k63, n63⟩, -, X63, ⟨Lc63, hQ63, l63, y63, z63⟩, st63⟩ := Jvm.LawKit.callS X61 hx (y := (⟨"com/example/rippletide/rippletide/io/HistoryFormat", "code", "(Lcom/example/rippletide/rippletide/model/State;)I"⟩ : MethodName)) hown (mvT hZ (hw _ (List.mem_of_getElem? (i := 9) rfl))) (mvT hZ (hw _ (List.mem_of_getElem? (i := 10) rfl))) (mvT hZ (hw _ (List.mem_of_getElem? (i := 5) rfl))) (mvT hZ (hw _ (List.mem_of_getElem? (i := 11) rfl))) (by decide) (backOf (W := 0) (rm3 l Z a0 hw [] wSUSCEPTIBLE wSTATES wSWM wINFECTED wRECOVERED kSTATES kSWM h0 n0 Z0 W0 ) hZ (hw _ (List.mem_of_getElem? (i := 11) rfl)) (hw _ (List.mem_of_getElem? (i := 5) rfl)) (by decide) (by decide)) (g := (mkF m 72 #[.val (.int p0), .val (.int p1), .val (.int p0), .val (.ref wSUSCEPTIBLE), .val (.ref wSUSCEPTIBLE)] [(.ref wSUSCEPTIBLE)])) rfl (by rw [hml]; rfl) (argsL := [(.ref wSUSCEPTIBLE)]) (rest := []) (lenOf pd_2 rfl) rfl (by show 2 * 0 + _ ≤ _; exact Nat.le_of_eq rfl) (hb hby at_72) (fun _ _ => ⟨rfl, e61, (by decide : 0 + 0 ≤ _), (by decide : 0 + 0 ≤ _)⟩)
      dsimp only [Pt.U, Pt.locs, Pt.cells, Pt.slots] at X63 l63 y63 z63 st63 hQ63
      subst l63 y63 z63
      unfold Q3 at hQ63
      have k64 : ∀ t, Steps p.tables e below (T61.setTop (mkF m 72 #[.val (.int p0), .val (.int p1), .val (.int p0), .val (.ref wSUSCEPTIBLE), .val (.ref wSUSCEPTIBLE)] [(.ref wSUSCEPTIBLE)])) t → Steps p.tables e below (s₁.setTop (entryFrame m #[(.int p0), (.int p1)] maxLocals)) t := fun t kt => k62 t (by
        show Steps p.tables e below (T60.setTop (mkF m 52 #[.val (.int p0), .val (.int p1), .val (.int p0), .val (.ref wSUSCEPTIBLE), .unset] [(.int p0)])) _
        refine st61 _ ?_
        show Steps p.tables e below (T61.setTop (mkF m 55 #[.val (.int p0), .val (.int p1), .val (.int p0), .val (.ref wSUSCEPTIBLE), .unset] [(.ref wSUSCEPTIBLE)])) _
        refine XS.astore X61.here hx rfl (hb hby at_55) rfl rfl (l' := #[.val (.int p0), .val (.int p1), .val (.int p0), .val (.ref wSUSCEPTIBLE), .val (.ref wSUSCEPTIBLE)]) rfl ?_
        show Steps p.tables e below (T61.setTop (mkF m 57 #[.val (.int p0), .val (.int p1), .val (.int p0), .val (.ref wSUSCEPTIBLE), .val (.ref wSUSCEPTIBLE)] [])) _
        refine XS.aload X61.here hx rfl (hb hby at_57) rfl rfl ?_
        show Steps p.tables e below (T61.setTop (mkF m 59 #[.val (.int p0), .val (.int p1), .val (.int p0), .val (.ref wSUSCEPTIBLE), .val (.ref wSUSCEPTIBLE)] [(.ref wSUSCEPTIBLE)])) _
        refine XS.aloadN X61.here hx rfl (hb hby at_59) rfl rfl ?_
        show Steps p.tables e below (T61.setTop (mkF m 60 #[.val (.int p0), .val (.int p1), .val (.int p0), .val (.ref wSUSCEPTIBLE), .val (.ref wSUSCEPTIBLE)] [(.ref wSUSCEPTIBLE), (.ref wSUSCEPTIBLE)])) _
        refine Jvm.RoadKit.acmp (g := (mkF m 60 #[.val (.int p0), .val (.int p1), .val (.int p0), .val (.ref wSUSCEPTIBLE), .val (.ref wSUSCEPTIBLE)] [(.ref wSUSCEPTIBLE), (.ref wSUSCEPTIBLE)])) X61 hx rfl rfl rfl (pc0 := 60) (pc' := 65) (same := true) rfl (hb hby at_60) rfl (decide_eq_true (congrArg Value.ref (rfl : wSUSCEPTIBLE = wSUSCEPTIBLE))) (by decide) (by decide) ?_
        show Steps p.tables e below (T61.setTop (mkF m 65 #[.val (.int p0), .val (.int p1), .val (.int p0), .val (.ref wSUSCEPTIBLE), .val (.ref wSUSCEPTIBLE)] [])) _
        refine XS.aload X61.here hx rfl (hb hby at_65) rfl rfl ?_
        show Steps p.tables e below (T61.setTop (mkF m 67 #[.val (.int p0), .val (.int p1), .val (.int p0), .val (.ref wSUSCEPTIBLE), .val (.ref wSUSCEPTIBLE)] [(.ref wSUSCEPTIBLE)])) _
        refine XS.ifnullNo X61.here hx rfl (hb hby at_67) rfl ?_
        show Steps p.tables e below (T61.setTop (mkF m 70 #[.val (.int p0), .val (.int p1), .val (.int p0), .val (.ref wSUSCEPTIBLE), .val (.ref wSUSCEPTIBLE)] [])) _
        refine XS.aload X61.here hx rfl (hb hby at_70) rfl rfl ?_
        exact kt)
      rw [((by rw [f3]) : (f3 wSUSCEPTIBLE wSTATES wSWM wINFECTED wRECOVERED kSTATES kSWM) = (0 : Int32))] at hQ63
      obtain ⟨rfl, N63q, e63⟩ := hQ63
      have N63 := Fr.app N61 N63q
      obtain ⟨fs, hr, hrun, hended, hW, hsame⟩ := X63.leave (v := some (.int (1 : Int32))) (fun h => by rw [Bd.returns] at h; cases h)
      refine ⟨_, _, k64 _ ?_, hrun, hended, _, _, rfl, ?_, ⟨_, rfl⟩, hW, hsame.mono (by decide) (by decide)⟩
      · show Steps p.tables e below (T61.setTop (mkF m 72 #[.val (.int p0), .val (.int p1), .val (.int p0), .val (.ref wSUSCEPTIBLE), .val (.ref wSUSCEPTIBLE)] [(.ref wSUSCEPTIBLE)])) _
        refine st63 _ ?_
        show Steps p.tables e below (T63.setTop (mkF m 75 #[.val (.int p0), .val (.int p1), .val (.int p0), .val (.ref wSUSCEPTIBLE), .val (.ref wSUSCEPTIBLE)] [(.int (0 : Int32))])) _
        refine XS.iloadN X63.here hx rfl (hb hby at_75) rfl ?_
        show Steps p.tables e below (T63.setTop (mkF m 76 #[.val (.int p0), .val (.int p1), .val (.int p0), .val (.ref wSUSCEPTIBLE), .val (.ref wSUSCEPTIBLE)] [(.int p0), (.int (0 : Int32))])) _
        refine XS.icmpYes X63.here hx rfl (pc0 := 76) (pc' := 81) rfl (hb hby at_76) rfl (teq ((Eq.symm hc59) : (0 : Int32) = p0)).1 (by decide) (by decide) ?_
        show Steps p.tables e below (T63.setTop (mkF m 81 #[.val (.int p0), .val (.int p1), .val (.int p0), .val (.ref wSUSCEPTIBLE), .val (.ref wSUSCEPTIBLE)] [])) _
        refine XS.iconst X63.here hx rfl (hb hby at_81) ?_
        show Steps p.tables e below (T63.setTop (mkF m 82 #[.val (.int p0), .val (.int p1), .val (.int p0), .val (.ref wSUSCEPTIBLE), .val (.ref wSUSCEPTIBLE)] [(.int (1 : Int32))])) _
        exact retN X63 hx (t := .boolean) Bd.returns (by simp) (hb hby at_82) hr
      · show Q0 Z p0 p1 wSUSCEPTIBLE wSTATES wSWM wINFECTED wRECOVERED kSTATES kSWM h0 n0 _ T63.heap _
        rw [e63]
        exact ⟨rfl, N63⟩
    · have k65 : ∀ t, Steps p.tables e below (s₁.setTop (mkF m 27 #[.val (.int p0), .val (.int p1), .val (.int p0), .unset, .unset] [(.int (1 : Int32)), (.int p0)])) t → Steps p.tables e below (s₁.setTop (entryFrame m #[(.int p0), (.int p1)] maxLocals)) t := fun t kt => k58 t (by
        show Steps p.tables e below (s₁.setTop (mkF m 15 #[.val (.int p0), .val (.int p1), .val (.int p0), .unset, .unset] [(.int p0)])) _
        refine XS.ifYes X0.here hx rfl (pc0 := 15) (pc' := 25) rfl (hb hby at_15) rfl ((if0 _ _).trans (feq (hc59 : ¬ (p0 = (0 : Int32)))).2) (by decide) (by decide) ?_
        show Steps p.tables e below (s₁.setTop (mkF m 25 #[.val (.int p0), .val (.int p1), .val (.int p0), .unset, .unset] [])) _
        refine XS.iloadN X0.here hx rfl (hb hby at_25) rfl ?_
        show Steps p.tables e below (s₁.setTop (mkF m 26 #[.val (.int p0), .val (.int p1), .val (.int p0), .unset, .unset] [(.int p0)])) _
        refine XS.iconst X0.here hx rfl (hb hby at_26) ?_
        exact kt)
      by_cases hc66 : p0 = (1 : Int32)
      · obtain ⟨T67, X67, e67, st67⟩ := getS2 X0 hx hZ hown (host := "") (Or.inl (hw _ (List.mem_of_getElem? (i := 24) rfl))) Via.refl e0 SINFECTED (g := (mkF m 30 #[.val (.int p0), .val (.int p1), .val (.int p0), .unset, .unset] [])) rfl (hb hby at_30)
        obtain ⟨_, _, ⟨T68, L68, k68, n68⟩, -, X68, ⟨Lc68, hQ68, l68, y68, z68⟩, st68⟩ := Jvm.LawKit.callS X67 hx (y := (⟨"com/example/rippletide/rippletide/io/HistoryFormat", "state", "(I)Lcom/example/rippletide/rippletide/model/State;"⟩ : MethodName)) hown (mvT hZ (hw _ (List.mem_of_getElem? (i := 3) rfl))) (mvT hZ (hw _ (List.mem_of_getElem? (i := 4) rfl))) (mvT hZ (hw _ (List.mem_of_getElem? (i := 5) rfl))) (mvT hZ (hw _ (List.mem_of_getElem? (i := 6) rfl))) (by decide) (backOf (W := 0) (rm1 l Z a0 hw [] p0 wSUSCEPTIBLE wSTATES wSWM wINFECTED wRECOVERED kSTATES kSWM h0 n0 Z0 W0 ) hZ (hw _ (List.mem_of_getElem? (i := 6) rfl)) (hw _ (List.mem_of_getElem? (i := 5) rfl)) (by decide) (by decide)) (g := (mkF m 52 #[.val (.int p0), .val (.int p1), .val (.int p0), .val (.ref wINFECTED), .unset] [(.int p0)])) rfl (by rw [hml]; rfl) (argsL := [(.int p0)]) (rest := []) (lenOf pd_1 rfl) rfl (by show 2 * 0 + _ ≤ _; exact Nat.le_of_eq rfl) (hb hby at_52) (fun _ _ => ⟨rfl, e67, (by decide : 0 + 0 ≤ _), (by decide : 0 + 0 ≤ _)⟩)
        dsimp only [Pt.U, Pt.locs, Pt.cells, Pt.slots] at X68 l68 y68 z68 st68 hQ68
        subst l68 y68 z68
        unfold Q1 at hQ68
        have k69 : ∀ t, Steps p.tables e below (T67.setTop (mkF m 52 #[.val (.int p0), .val (.int p1), .val (.int p0), .val (.ref wINFECTED), .unset] [(.int p0)])) t → Steps p.tables e below (s₁.setTop (entryFrame m #[(.int p0), (.int p1)] maxLocals)) t := fun t kt => k65 t (by
          show Steps p.tables e below (s₁.setTop (mkF m 27 #[.val (.int p0), .val (.int p1), .val (.int p0), .unset, .unset] [(.int (1 : Int32)), (.int p0)])) _
          refine XS.icmpNo X0.here hx rfl (hb hby at_27) rfl (teq (hc66 : p0 = (1 : Int32))).2 ?_
          show Steps p.tables e below (s₁.setTop (mkF m 30 #[.val (.int p0), .val (.int p1), .val (.int p0), .unset, .unset] [])) _
          refine st67 _ ?_
          show Steps p.tables e below (T67.setTop (mkF m 33 #[.val (.int p0), .val (.int p1), .val (.int p0), .unset, .unset] [(.ref wINFECTED)])) _
          refine XS.astoreN X67.here hx rfl (hb hby at_33) rfl rfl (l' := #[.val (.int p0), .val (.int p1), .val (.int p0), .val (.ref wINFECTED), .unset]) rfl ?_
          show Steps p.tables e below (T67.setTop (mkF m 34 #[.val (.int p0), .val (.int p1), .val (.int p0), .val (.ref wINFECTED), .unset] [])) _
          refine XS.goto X67.here hx rfl (pc0 := 34) (pc' := 51) rfl (hb hby at_34) (by decide) (by decide) ?_
          show Steps p.tables e below (T67.setTop (mkF m 51 #[.val (.int p0), .val (.int p1), .val (.int p0), .val (.ref wINFECTED), .unset] [])) _
          refine XS.iloadN X67.here hx rfl (hb hby at_51) rfl ?_
          exact kt)
        rw [((by rw [f1, if_neg ((by rw [hc66]; decide) : ¬ (p0 < (0 : Int32))), if_pos ((by rw [hc66]; decide) : p0 < (3 : Int32)), if_neg (hc59 : ¬ (p0 = (0 : Int32))), if_pos (hc66 : p0 = (1 : Int32))]) : (f1 p0 wSUSCEPTIBLE wSTATES wSWM wINFECTED wRECOVERED kSTATES kSWM) = (.ref wINFECTED))] at hQ68
        obtain ⟨rfl, N68q, e68⟩ := hQ68
        have N68 := Fr.app N0 N68q
        obtain ⟨_, _, ⟨T70, L70, k70, n70⟩, -, X70, ⟨Lc70, hQ70, l70, y70, z70⟩, st70⟩ := Jvm.LawKit.callS X68 hx (y := (⟨"com/example/rippletide/rippletide/io/HistoryFormat", "code", "(Lcom/example/rippletide/rippletide/model/State;)I"⟩ : MethodName)) hown (mvT hZ (hw _ (List.mem_of_getElem? (i := 9) rfl))) (mvT hZ (hw _ (List.mem_of_getElem? (i := 10) rfl))) (mvT hZ (hw _ (List.mem_of_getElem? (i := 5) rfl))) (mvT hZ (hw _ (List.mem_of_getElem? (i := 11) rfl))) (by decide) (backOf (W := 0) (rm4 l Z a0 hw [] wSUSCEPTIBLE wSTATES wSWM wINFECTED wRECOVERED kSTATES kSWM h0 n0 Z0 W0 ) hZ (hw _ (List.mem_of_getElem? (i := 11) rfl)) (hw _ (List.mem_of_getElem? (i := 5) rfl)) (by decide) (by decide)) (g := (mkF m 72 #[.val (.int p0), .val (.int p1), .val (.int p0), .val (.ref wINFECTED), .val (.ref wINFECTED)] [(.ref wINFECTED)])) rfl (by rw [hml]; rfl) (argsL := [(.ref wINFECTED)]) (rest := []) (lenOf pd_2 rfl) rfl (by show 2 * 0 + _ ≤ _; exact Nat.le_of_eq rfl) (hb hby at_72) (fun _ _ => ⟨rfl, e68, (by decide : 0 + 0 ≤ _), (by decide : 0 + 0 ≤ _)⟩)
        dsimp only [Pt.U, Pt.locs, Pt.cells, Pt.slots] at X70 l70 y70 z70 st70 hQ70
        subst l70 y70 z70
        unfold Q4 at hQ70
        have k71 : ∀ t, Steps p.tables e below (T68.setTop (mkF m 72 #[.val (.int p0), .val (.int p1), .val (.int p0), .val (.ref wINFECTED), .val (.ref wINFECTED)] [(.ref wINFECTED)])) t → Steps p.tables e below (s₁.setTop (entryFrame m #[(.int p0), (.int p1)] maxLocals)) t := fun t kt => k69 t (by
          show Steps p.tables e below (T67.setTop (mkF m 52 #[.val (.int p0), .val (.int p1), .val (.int p0), .val (.ref wINFECTED), .unset] [(.int p0)])) _
          refine st68 _ ?_
          show Steps p.tables e below (T68.setTop (mkF m 55 #[.val (.int p0), .val (.int p1), .val (.int p0), .val (.ref wINFECTED), .unset] [(.ref wINFECTED)])) _
          refine XS.astore X68.here hx rfl (hb hby at_55) rfl rfl (l' := #[.val (.int p0), .val (.int p1), .val (.int p0), .val (.ref wINFECTED), .val (.ref wINFECTED)]) rfl ?_
          show Steps p.tables e below (T68.setTop (mkF m 57 #[.val (.int p0), .val (.int p1), .val (.int p0), .val (.ref wINFECTED), .val (.ref wINFECTED)] [])) _
          refine XS.aload X68.here hx rfl (hb hby at_57) rfl rfl ?_
          show Steps p.tables e below (T68.setTop (mkF m 59 #[.val (.int p0), .val (.int p1), .val (.int p0), .val (.ref wINFECTED), .val (.ref wINFECTED)] [(.ref wINFECTED)])) _
          refine XS.aloadN X68.here hx rfl (hb hby at_59) rfl rfl ?_
          show Steps p.tables e below (T68.setTop (mkF m 60 #[.val (.int p0), .val (.int p1), .val (.int p0), .val (.ref wINFECTED), .val (.ref wINFECTED)] [(.ref wINFECTED), (.ref wINFECTED)])) _
          refine Jvm.RoadKit.acmp (g := (mkF m 60 #[.val (.int p0), .val (.int p1), .val (.int p0), .val (.ref wINFECTED), .val (.ref wINFECTED)] [(.ref wINFECTED), (.ref wINFECTED)])) X68 hx rfl rfl rfl (pc0 := 60) (pc' := 65) (same := true) rfl (hb hby at_60) rfl (decide_eq_true (congrArg Value.ref (rfl : wINFECTED = wINFECTED))) (by decide) (by decide) ?_
          show Steps p.tables e below (T68.setTop (mkF m 65 #[.val (.int p0), .val (.int p1), .val (.int p0), .val (.ref wINFECTED), .val (.ref wINFECTED)] [])) _
          refine XS.aload X68.here hx rfl (hb hby at_65) rfl rfl ?_
          show Steps p.tables e below (T68.setTop (mkF m 67 #[.val (.int p0), .val (.int p1), .val (.int p0), .val (.ref wINFECTED), .val (.ref wINFECTED)] [(.ref wINFECTED)])) _
          refine XS.ifnullNo X68.here hx rfl (hb hby at_67) rfl ?_
          show Steps p.tables e below (T68.setTop (mkF m 70 #[.val (.int p0), .val (.int p1), .val (.int p0), .val (.ref wINFECTED), .val (.ref wINFECTED)] [])) _
          refine XS.aload X68.here hx rfl (hb hby at_70) rfl rfl ?_
          exact kt)
        rw [((by rw [f4]) : (f4 wSUSCEPTIBLE wSTATES wSWM wINFECTED wRECOVERED kSTATES kSWM) = (1 : Int32))] at hQ70
        obtain ⟨rfl, N70q, e70⟩ := hQ70
        have N70 := Fr.app N68 N70q
        obtain ⟨fs, hr, hrun, hended, hW, hsame⟩ := X70.leave (v := some (.int (1 : Int32))) (fun h => by rw [Bd.returns] at h; cases h)
        refine ⟨_, _, k71 _ ?_, hrun, hended, _, _, rfl, ?_, ⟨_, rfl⟩, hW, hsame.mono (by decide) (by decide)⟩
        · show Steps p.tables e below (T68.setTop (mkF m 72 #[.val (.int p0), .val (.int p1), .val (.int p0), .val (.ref wINFECTED), .val (.ref wINFECTED)] [(.ref wINFECTED)])) _
          refine st70 _ ?_
          show Steps p.tables e below (T70.setTop (mkF m 75 #[.val (.int p0), .val (.int p1), .val (.int p0), .val (.ref wINFECTED), .val (.ref wINFECTED)] [(.int (1 : Int32))])) _
          refine XS.iloadN X70.here hx rfl (hb hby at_75) rfl ?_
          show Steps p.tables e below (T70.setTop (mkF m 76 #[.val (.int p0), .val (.int p1), .val (.int p0), .val (.ref wINFECTED), .val (.ref wINFECTED)] [(.int p0), (.int (1 : Int32))])) _
          refine XS.icmpYes X70.here hx rfl (pc0 := 76) (pc' := 81) rfl (hb hby at_76) rfl (teq ((Eq.symm hc66) : (1 : Int32) = p0)).1 (by decide) (by decide) ?_
          show Steps p.tables e below (T70.setTop (mkF m 81 #[.val (.int p0), .val (.int p1), .val (.int p0), .val (.ref wINFECTED), .val (.ref wINFECTED)] [])) _
          refine XS.iconst X70.here hx rfl (hb hby at_81) ?_
          show Steps p.tables e below (T70.setTop (mkF m 82 #[.val (.int p0), .val (.int p1), .val (.int p0), .val (.ref wINFECTED), .val (.ref wINFECTED)] [(.int (1 : Int32))])) _
          exact retN X70 hx (t := .boolean) Bd.returns (by simp) (hb hby at_82) hr
        · show Q0 Z p0 p1 wSUSCEPTIBLE wSTATES wSWM wINFECTED wRECOVERED kSTATES kSWM h0 n0 _ T70.heap _
          rw [e70]
          exact ⟨rfl, N70⟩
      · have k72 : ∀ t, Steps p.tables e below (s₁.setTop (mkF m 39 #[.val (.int p0), .val (.int p1), .val (.int p0), .unset, .unset] [(.int (2 : Int32)), (.int p0)])) t → Steps p.tables e below (s₁.setTop (entryFrame m #[(.int p0), (.int p1)] maxLocals)) t := fun t kt => k65 t (by
          show Steps p.tables e below (s₁.setTop (mkF m 27 #[.val (.int p0), .val (.int p1), .val (.int p0), .unset, .unset] [(.int (1 : Int32)), (.int p0)])) _
          refine XS.icmpYes X0.here hx rfl (pc0 := 27) (pc' := 37) rfl (hb hby at_27) rfl (feq (hc66 : ¬ (p0 = (1 : Int32)))).2 (by decide) (by decide) ?_
          show Steps p.tables e below (s₁.setTop (mkF m 37 #[.val (.int p0), .val (.int p1), .val (.int p0), .unset, .unset] [])) _
          refine XS.iloadN X0.here hx rfl (hb hby at_37) rfl ?_
          show Steps p.tables e below (s₁.setTop (mkF m 38 #[.val (.int p0), .val (.int p1), .val (.int p0), .unset, .unset] [(.int p0)])) _
          refine XS.iconst X0.here hx rfl (hb hby at_38) ?_
          exact kt)
        by_cases hc73 : p0 = (2 : Int32)
        · obtain ⟨T74, X74, e74, st74⟩ := getS2 X0 hx hZ hown (host := "") (Or.inl (hw _ (List.mem_of_getElem? (i := 26) rfl))) Via.refl e0 SRECOVERED (g := (mkF m 42 #[.val (.int p0), .val (.int p1), .val (.int p0), .unset, .unset] [])) rfl (hb hby at_42)
          obtain ⟨_, _, ⟨T75, L75, k75, n75⟩, -, X75, ⟨Lc75, hQ75, l75, y75, z75⟩, st75⟩ := Jvm.LawKit.callS X74 hx (y := (⟨"com/example/rippletide/rippletide/io/HistoryFormat", "state", "(I)Lcom/example/rippletide/rippletide/model/State;"⟩ : MethodName)) hown (mvT hZ (hw _ (List.mem_of_getElem? (i := 3) rfl))) (mvT hZ (hw _ (List.mem_of_getElem? (i := 4) rfl))) (mvT hZ (hw _ (List.mem_of_getElem? (i := 5) rfl))) (mvT hZ (hw _ (List.mem_of_getElem? (i := 6) rfl))) (by decide) (backOf (W := 0) (rm1 l Z a0 hw [] p0 wSUSCEPTIBLE wSTATES wSWM wINFECTED wRECOVERED kSTATES kSWM h0 n0 Z0 W0 ) hZ (hw _ (List.mem_of_getElem? (i := 6) rfl)) (hw _ (List.mem_of_getElem? (i := 5) rfl)) (by decide) (by decide)) (g := (mkF m 52 #[.val (.int p0), .val (.int p1), .val (.int p0), .val (.ref wRECOVERED), .unset] [(.int p0)])) rfl (by rw [hml]; rfl) (argsL := [(.int p0)]) (rest := []) (lenOf pd_1 rfl) rfl (by show 2 * 0 + _ ≤ _; exact Nat.le_of_eq rfl) (hb hby at_52) (fun _ _ => ⟨rfl, e74, (by decide : 0 + 0 ≤ _), (by decide : 0 + 0 ≤ _)⟩)
          dsimp only [Pt.U, Pt.locs, Pt.cells, Pt.slots] at X75 l75 y75 z75 st75 hQ75
          subst l75 y75 z75
          unfold Q1 at hQ75
          have k76 : ∀ t, Steps p.tables e below (T74.setTop (mkF m 52 #[.val (.int p0), .val (.int p1), .val (.int p0), .val (.ref wRECOVERED), .unset] [(.int p0)])) t → Steps p.tables e below (s₁.setTop (entryFrame m #[(.int p0), (.int p1)] maxLocals)) t := fun t kt => k72 t (by
            show Steps p.tables e below (s₁.setTop (mkF m 39 #[.val (.int p0), .val (.int p1), .val (.int p0), .unset, .unset] [(.int (2 : Int32)), (.int p0)])) _
            refine XS.icmpNo X0.here hx rfl (hb hby at_39) rfl (teq (hc73 : p0 = (2 : Int32))).2 ?_
            show Steps p.tables e below (s₁.setTop (mkF m 42 #[.val (.int p0), .val (.int p1), .val (.int p0), .unset, .unset] [])) _
            refine st74 _ ?_
            show Steps p.tables e below (T74.setTop (mkF m 45 #[.val (.int p0), .val (.int p1), .val (.int p0), .unset, .unset] [(.ref wRECOVERED)])) _
            refine XS.astoreN X74.here hx rfl (hb hby at_45) rfl rfl (l' := #[.val (.int p0), .val (.int p1), .val (.int p0), .val (.ref wRECOVERED), .unset]) rfl ?_
            show Steps p.tables e below (T74.setTop (mkF m 46 #[.val (.int p0), .val (.int p1), .val (.int p0), .val (.ref wRECOVERED), .unset] [])) _
            refine XS.goto X74.here hx rfl (pc0 := 46) (pc' := 51) rfl (hb hby at_46) (by decide) (by decide) ?_
            show Steps p.tables e below (T74.setTop (mkF m 51 #[.val (.int p0), .val (.int p1), .val (.int p0), .val (.ref wRECOVERED), .unset] [])) _
            refine XS.iloadN X74.here hx rfl (hb hby at_51) rfl ?_
            exact kt)
          rw [((by rw [f1, if_neg ((by rw [hc73]; decide) : ¬ (p0 < (0 : Int32))), if_pos ((by rw [hc73]; decide) : p0 < (3 : Int32)), if_neg (hc59 : ¬ (p0 = (0 : Int32))), if_neg (hc66 : ¬ (p0 = (1 : Int32)))]) : (f1 p0 wSUSCEPTIBLE wSTATES wSWM wINFECTED wRECOVERED kSTATES kSWM) = (.ref wRECOVERED))] at hQ75
          obtain ⟨rfl, N75q, e75⟩ := hQ75
          have N75 := Fr.app N0 N75q
          obtain ⟨_, _, ⟨T77, L77, k77, n77⟩, -, X77, ⟨Lc77, hQ77, l77, y77, z77⟩, st77⟩ := Jvm.LawKit.callS X75 hx (y := (⟨"com/example/rippletide/rippletide/io/HistoryFormat", "code", "(Lcom/example/rippletide/rippletide/model/State;)I"⟩ : MethodName)) hown (mvT hZ (hw _ (List.mem_of_getElem? (i := 9) rfl))) (mvT hZ (hw _ (List.mem_of_getElem? (i := 10) rfl))) (mvT hZ (hw _ (List.mem_of_getElem? (i := 5) rfl))) (mvT hZ (hw _ (List.mem_of_getElem? (i := 11) rfl))) (by decide) (backOf (W := 0) (rm5 l Z a0 hw [] wSUSCEPTIBLE wSTATES wSWM wINFECTED wRECOVERED kSTATES kSWM h0 n0 Z0 W0 ) hZ (hw _ (List.mem_of_getElem? (i := 11) rfl)) (hw _ (List.mem_of_getElem? (i := 5) rfl)) (by decide) (by decide)) (g := (mkF m 72 #[.val (.int p0), .val (.int p1), .val (.int p0), .val (.ref wRECOVERED), .val (.ref wRECOVERED)] [(.ref wRECOVERED)])) rfl (by rw [hml]; rfl) (argsL := [(.ref wRECOVERED)]) (rest := []) (lenOf pd_2 rfl) rfl (by show 2 * 0 + _ ≤ _; exact Nat.le_of_eq rfl) (hb hby at_72) (fun _ _ => ⟨rfl, e75, (by decide : 0 + 0 ≤ _), (by decide : 0 + 0 ≤ _)⟩)
          dsimp only [Pt.U, Pt.locs, Pt.cells, Pt.slots] at X77 l77 y77 z77 st77 hQ77
          subst l77 y77 z77
          unfold Q5 at hQ77
          have k78 : ∀ t, Steps p.tables e below (T75.setTop (mkF m 72 #[.val (.int p0), .val (.int p1), .val (.int p0), .val (.ref wRECOVERED), .val (.ref wRECOVERED)] [(.ref wRECOVERED)])) t → Steps p.tables e below (s₁.setTop (entryFrame m #[(.int p0), (.int p1)] maxLocals)) t := fun t kt => k76 t (by
            show Steps p.tables e below (T74.setTop (mkF m 52 #[.val (.int p0), .val (.int p1), .val (.int p0), .val (.ref wRECOVERED), .unset] [(.int p0)])) _
            refine st75 _ ?_
            show Steps p.tables e below (T75.setTop (mkF m 55 #[.val (.int p0), .val (.int p1), .val (.int p0), .val (.ref wRECOVERED), .unset] [(.ref wRECOVERED)])) _
            refine XS.astore X75.here hx rfl (hb hby at_55) rfl rfl (l' := #[.val (.int p0), .val (.int p1), .val (.int p0), .val (.ref wRECOVERED), .val (.ref wRECOVERED)]) rfl ?_
            show Steps p.tables e below (T75.setTop (mkF m 57 #[.val (.int p0), .val (.int p1), .val (.int p0), .val (.ref wRECOVERED), .val (.ref wRECOVERED)] [])) _
            refine XS.aload X75.here hx rfl (hb hby at_57) rfl rfl ?_
            show Steps p.tables e below (T75.setTop (mkF m 59 #[.val (.int p0), .val (.int p1), .val (.int p0), .val (.ref wRECOVERED), .val (.ref wRECOVERED)] [(.ref wRECOVERED)])) _
            refine XS.aloadN X75.here hx rfl (hb hby at_59) rfl rfl ?_
            show Steps p.tables e below (T75.setTop (mkF m 60 #[.val (.int p0), .val (.int p1), .val (.int p0), .val (.ref wRECOVERED), .val (.ref wRECOVERED)] [(.ref wRECOVERED), (.ref wRECOVERED)])) _
            refine Jvm.RoadKit.acmp (g := (mkF m 60 #[.val (.int p0), .val (.int p1), .val (.int p0), .val (.ref wRECOVERED), .val (.ref wRECOVERED)] [(.ref wRECOVERED), (.ref wRECOVERED)])) X75 hx rfl rfl rfl (pc0 := 60) (pc' := 65) (same := true) rfl (hb hby at_60) rfl (decide_eq_true (congrArg Value.ref (rfl : wRECOVERED = wRECOVERED))) (by decide) (by decide) ?_
            show Steps p.tables e below (T75.setTop (mkF m 65 #[.val (.int p0), .val (.int p1), .val (.int p0), .val (.ref wRECOVERED), .val (.ref wRECOVERED)] [])) _
            refine XS.aload X75.here hx rfl (hb hby at_65) rfl rfl ?_
            show Steps p.tables e below (T75.setTop (mkF m 67 #[.val (.int p0), .val (.int p1), .val (.int p0), .val (.ref wRECOVERED), .val (.ref wRECOVERED)] [(.ref wRECOVERED)])) _
            refine XS.ifnullNo X75.here hx rfl (hb hby at_67) rfl ?_
            show Steps p.tables e below (T75.setTop (mkF m 70 #[.val (.int p0), .val (.int p1), .val (.int p0), .val (.ref wRECOVERED), .val (.ref wRECOVERED)] [])) _
            refine XS.aload X75.here hx rfl (hb hby at_70) rfl rfl ?_
            exact kt)
          rw [((by rw [f5]) : (f5 wSUSCEPTIBLE wSTATES wSWM wINFECTED wRECOVERED kSTATES kSWM) = (2 : Int32))] at hQ77
          obtain ⟨rfl, N77q, e77⟩ := hQ77
          have N77 := Fr.app N75 N77q
          obtain ⟨fs, hr, hrun, hended, hW, hsame⟩ := X77.leave (v := some (.int (1 : Int32))) (fun h => by rw [Bd.returns] at h; cases h)
          refine ⟨_, _, k78 _ ?_, hrun, hended, _, _, rfl, ?_, ⟨_, rfl⟩, hW, hsame.mono (by decide) (by decide)⟩
          · show Steps p.tables e below (T75.setTop (mkF m 72 #[.val (.int p0), .val (.int p1), .val (.int p0), .val (.ref wRECOVERED), .val (.ref wRECOVERED)] [(.ref wRECOVERED)])) _
            refine st77 _ ?_
            show Steps p.tables e below (T77.setTop (mkF m 75 #[.val (.int p0), .val (.int p1), .val (.int p0), .val (.ref wRECOVERED), .val (.ref wRECOVERED)] [(.int (2 : Int32))])) _
            refine XS.iloadN X77.here hx rfl (hb hby at_75) rfl ?_
            show Steps p.tables e below (T77.setTop (mkF m 76 #[.val (.int p0), .val (.int p1), .val (.int p0), .val (.ref wRECOVERED), .val (.ref wRECOVERED)] [(.int p0), (.int (2 : Int32))])) _
            refine XS.icmpYes X77.here hx rfl (pc0 := 76) (pc' := 81) rfl (hb hby at_76) rfl (teq ((Eq.symm hc73) : (2 : Int32) = p0)).1 (by decide) (by decide) ?_
            show Steps p.tables e below (T77.setTop (mkF m 81 #[.val (.int p0), .val (.int p1), .val (.int p0), .val (.ref wRECOVERED), .val (.ref wRECOVERED)] [])) _
            refine XS.iconst X77.here hx rfl (hb hby at_81) ?_
            show Steps p.tables e below (T77.setTop (mkF m 82 #[.val (.int p0), .val (.int p1), .val (.int p0), .val (.ref wRECOVERED), .val (.ref wRECOVERED)] [(.int (1 : Int32))])) _
            exact retN X77 hx (t := .boolean) Bd.returns (by simp) (hb hby at_82) hr
          · show Q0 Z p0 p1 wSUSCEPTIBLE wSTATES wSWM wINFECTED wRECOVERED kSTATES kSWM h0 n0 _ T77.heap _
            rw [e77]
            exact ⟨rfl, N77⟩
        · obtain ⟨_, _, ⟨T79, L79, k79, n79⟩, -, X79, ⟨Lc79, hQ79, l79, y79, z79⟩, st79⟩ := Jvm.LawKit.callS X0 hx (y := (⟨"com/example/rippletide/rippletide/io/HistoryFormat", "state", "(I)Lcom/example/rippletide/rippletide/model/State;"⟩ : MethodName)) hown (mvT hZ (hw _ (List.mem_of_getElem? (i := 3) rfl))) (mvT hZ (hw _ (List.mem_of_getElem? (i := 4) rfl))) (mvT hZ (hw _ (List.mem_of_getElem? (i := 5) rfl))) (mvT hZ (hw _ (List.mem_of_getElem? (i := 6) rfl))) (by decide) (backOf (W := 0) (rm1 l Z a0 hw [] p0 wSUSCEPTIBLE wSTATES wSWM wINFECTED wRECOVERED kSTATES kSWM h0 n0 Z0 W0 ) hZ (hw _ (List.mem_of_getElem? (i := 6) rfl)) (hw _ (List.mem_of_getElem? (i := 5) rfl)) (by decide) (by decide)) (g := (mkF m 52 #[.val (.int p0), .val (.int p1), .val (.int p0), .val .null, .unset] [(.int p0)])) rfl (by rw [hml]; rfl) (argsL := [(.int p0)]) (rest := []) (lenOf pd_1 rfl) rfl (by show 2 * 0 + _ ≤ _; exact Nat.le_of_eq rfl) (hb hby at_52) (fun _ _ => ⟨rfl, e0, (by decide : 0 + 0 ≤ _), (by decide : 0 + 0 ≤ _)⟩)
          dsimp only [Pt.U, Pt.locs, Pt.cells, Pt.slots] at X79 l79 y79 z79 st79 hQ79
          subst l79 y79 z79
          unfold Q1 at hQ79
          have k80 : ∀ t, Steps p.tables e below (s₁.setTop (mkF m 52 #[.val (.int p0), .val (.int p1), .val (.int p0), .val .null, .unset] [(.int p0)])) t → Steps p.tables e below (s₁.setTop (entryFrame m #[(.int p0), (.int p1)] maxLocals)) t := fun t kt => k72 t (by
            show Steps p.tables e below (s₁.setTop (mkF m 39 #[.val (.int p0), .val (.int p1), .val (.int p0), .unset, .unset] [(.int (2 : Int32)), (.int p0)])) _
            refine XS.icmpYes X0.here hx rfl (pc0 := 39) (pc' := 49) rfl (hb hby at_39) rfl (feq (hc73 : ¬ (p0 = (2 : Int32)))).2 (by decide) (by decide) ?_
            show Steps p.tables e below (s₁.setTop (mkF m 49 #[.val (.int p0), .val (.int p1), .val (.int p0), .unset, .unset] [])) _
            refine XS.aconstNull X0.here hx rfl (hb hby at_49) ?_
            show Steps p.tables e below (s₁.setTop (mkF m 50 #[.val (.int p0), .val (.int p1), .val (.int p0), .unset, .unset] [.null])) _
            refine XS.astoreN X0.here hx rfl (hb hby at_50) rfl rfl (l' := #[.val (.int p0), .val (.int p1), .val (.int p0), .val .null, .unset]) rfl ?_
            show Steps p.tables e below (s₁.setTop (mkF m 51 #[.val (.int p0), .val (.int p1), .val (.int p0), .val .null, .unset] [])) _
            refine XS.iloadN X0.here hx rfl (hb hby at_51) rfl ?_
            exact kt)
          by_cases hc81 : p0 < (0 : Int32)
          · rw [((by rw [f1, if_pos (hc81 : p0 < (0 : Int32))]) : (f1 p0 wSUSCEPTIBLE wSTATES wSWM wINFECTED wRECOVERED kSTATES kSWM) = .null)] at hQ79
            obtain ⟨rfl, N79q, e79⟩ := hQ79
            have N79 := Fr.app N0 N79q
            obtain ⟨fs, hr, hrun, hended, hW, hsame⟩ := X79.leave (v := some (.int (1 : Int32))) (fun h => by rw [Bd.returns] at h; cases h)
            refine ⟨_, _, k80 _ ?_, hrun, hended, _, _, rfl, ?_, ⟨_, rfl⟩, hW, hsame.mono (by decide) (by decide)⟩
            · show Steps p.tables e below (s₁.setTop (mkF m 52 #[.val (.int p0), .val (.int p1), .val (.int p0), .val .null, .unset] [(.int p0)])) _
              refine st79 _ ?_
              show Steps p.tables e below (T79.setTop (mkF m 55 #[.val (.int p0), .val (.int p1), .val (.int p0), .val .null, .unset] [.null])) _
              refine XS.astore X79.here hx rfl (hb hby at_55) rfl rfl (l' := #[.val (.int p0), .val (.int p1), .val (.int p0), .val .null, .val .null]) rfl ?_
              show Steps p.tables e below (T79.setTop (mkF m 57 #[.val (.int p0), .val (.int p1), .val (.int p0), .val .null, .val .null] [])) _
              refine XS.aload X79.here hx rfl (hb hby at_57) rfl rfl ?_
              show Steps p.tables e below (T79.setTop (mkF m 59 #[.val (.int p0), .val (.int p1), .val (.int p0), .val .null, .val .null] [.null])) _
              refine XS.aloadN X79.here hx rfl (hb hby at_59) rfl rfl ?_
              show Steps p.tables e below (T79.setTop (mkF m 60 #[.val (.int p0), .val (.int p1), .val (.int p0), .val .null, .val .null] [.null, .null])) _
              refine Jvm.RoadKit.acmp (g := (mkF m 60 #[.val (.int p0), .val (.int p1), .val (.int p0), .val .null, .val .null] [.null, .null])) X79 hx rfl rfl rfl (pc0 := 60) (pc' := 65) (same := true) rfl (hb hby at_60) rfl (decide_eq_true rfl) (by decide) (by decide) ?_
              show Steps p.tables e below (T79.setTop (mkF m 65 #[.val (.int p0), .val (.int p1), .val (.int p0), .val .null, .val .null] [])) _
              refine XS.aload X79.here hx rfl (hb hby at_65) rfl rfl ?_
              show Steps p.tables e below (T79.setTop (mkF m 67 #[.val (.int p0), .val (.int p1), .val (.int p0), .val .null, .val .null] [.null])) _
              refine XS.ifnullYes X79.here hx rfl (pc0 := 67) (pc' := 81) rfl (hb hby at_67) rfl (by decide) (by decide) ?_
              show Steps p.tables e below (T79.setTop (mkF m 81 #[.val (.int p0), .val (.int p1), .val (.int p0), .val .null, .val .null] [])) _
              refine XS.iconst X79.here hx rfl (hb hby at_81) ?_
              show Steps p.tables e below (T79.setTop (mkF m 82 #[.val (.int p0), .val (.int p1), .val (.int p0), .val .null, .val .null] [(.int (1 : Int32))])) _
              exact retN X79 hx (t := .boolean) Bd.returns (by simp) (hb hby at_82) hr
            · show Q0 Z p0 p1 wSUSCEPTIBLE wSTATES wSWM wINFECTED wRECOVERED kSTATES kSWM h0 n0 _ T79.heap _
              rw [e79]
              exact ⟨rfl, N79⟩
          · by_cases hc82 : p0 < (3 : Int32)
            · rw [((by rw [f1, if_neg (hc81 : ¬ (p0 < (0 : Int32))), if_pos (hc82 : p0 < (3 : Int32)), if_neg (hc59 : ¬ (p0 = (0 : Int32))), if_neg (hc66 : ¬ (p0 = (1 : Int32)))]) : (f1 p0 wSUSCEPTIBLE wSTATES wSWM wINFECTED wRECOVERED kSTATES kSWM) = (.ref wRECOVERED))] at hQ79
              obtain ⟨rfl, N79q, e79⟩ := hQ79
              have N79 := Fr.app N0 N79q
              exact (own_no3 hc59 hc66 hc73 hc81 hc82).elim
            · rw [((by rw [f1, if_neg (hc81 : ¬ (p0 < (0 : Int32))), if_neg (hc82 : ¬ (p0 < (3 : Int32)))]) : (f1 p0 wSUSCEPTIBLE wSTATES wSWM wINFECTED wRECOVERED kSTATES kSWM) = .null)] at hQ79
              obtain ⟨rfl, N79q, e79⟩ := hQ79
              have N79 := Fr.app N0 N79q
              obtain ⟨fs, hr, hrun, hended, hW, hsame⟩ := X79.leave (v := some (.int (1 : Int32))) (fun h => by rw [Bd.returns] at h; cases h)
              refine ⟨_, _, k80 _ ?_, hrun, hended, _, _, rfl, ?_, ⟨_, rfl⟩, hW, hsame.mono (by decide) (by decide)⟩
              · show Steps p.tables e below (s₁.setTop (mkF m 52 #[.val (.int p0), .val (.int p1), .val (.int p0), .val .null, .unset] [(.int p0)])) _
                refine st79 _ ?_
                show Steps p.tables e below (T79.setTop (mkF m 55 #[.val (.int p0), .val (.int p1), .val (.int p0), .val .null, .unset] [.null])) _
                refine XS.astore X79.here hx rfl (hb hby at_55) rfl rfl (l' := #[.val (.int p0), .val (.int p1), .val (.int p0), .val .null, .val .null]) rfl ?_
                show Steps p.tables e below (T79.setTop (mkF m 57 #[.val (.int p0), .val (.int p1), .val (.int p0), .val .null, .val .null] [])) _
                refine XS.aload X79.here hx rfl (hb hby at_57) rfl rfl ?_
                show Steps p.tables e below (T79.setTop (mkF m 59 #[.val (.int p0), .val (.int p1), .val (.int p0), .val .null, .val .null] [.null])) _
                refine XS.aloadN X79.here hx rfl (hb hby at_59) rfl rfl ?_
                show Steps p.tables e below (T79.setTop (mkF m 60 #[.val (.int p0), .val (.int p1), .val (.int p0), .val .null, .val .null] [.null, .null])) _
                refine Jvm.RoadKit.acmp (g := (mkF m 60 #[.val (.int p0), .val (.int p1), .val (.int p0), .val .null, .val .null] [.null, .null])) X79 hx rfl rfl rfl (pc0 := 60) (pc' := 65) (same := true) rfl (hb hby at_60) rfl (decide_eq_true rfl) (by decide) (by decide) ?_
                show Steps p.tables e below (T79.setTop (mkF m 65 #[.val (.int p0), .val (.int p1), .val (.int p0), .val .null, .val .null] [])) _
                refine XS.aload X79.here hx rfl (hb hby at_65) rfl rfl ?_
                show Steps p.tables e below (T79.setTop (mkF m 67 #[.val (.int p0), .val (.int p1), .val (.int p0), .val .null, .val .null] [.null])) _
                refine XS.ifnullYes X79.here hx rfl (pc0 := 67) (pc' := 81) rfl (hb hby at_67) rfl (by decide) (by decide) ?_
                show Steps p.tables e below (T79.setTop (mkF m 81 #[.val (.int p0), .val (.int p1), .val (.int p0), .val .null, .val .null] [])) _
                refine XS.iconst X79.here hx rfl (hb hby at_81) ?_
                show Steps p.tables e below (T79.setTop (mkF m 82 #[.val (.int p0), .val (.int p1), .val (.int p0), .val .null, .val .null] [(.int (1 : Int32))])) _
                exact retN X79 hx (t := .boolean) Bd.returns (by simp) (hb hby at_82) hr
              · show Q0 Z p0 p1 wSUSCEPTIBLE wSTATES wSWM wINFECTED wRECOVERED kSTATES kSWM h0 n0 _ T79.heap _
                rw [e79]
                exact ⟨rfl, N79⟩
set_option maxRecDepth 65536 in
set_option maxHeartbeats 40000000 in
theorem comes_1 {Post : Tables → Env → Array Value → State → Outcome → State → Prop} (hpost : ∀ tb e args s v u, (limb_1_1.after args s (.returned v) u = true ∧ limb_1_2.after args s (.returned v) u = true ∧ True) → FrameEnd s (.returned v) u (Jvm.fieldLocs frame_1_writes args s ++ Jvm.arrayLocs frame_1_arrays args s ++ Jvm.staticLocs frame_1_statics s) 0 0 → Post tb e args s (.returned v) u) :
    ArmFor flags0 classFile x code maxLocals ret World_1 tables_1 room_1 Calls_1 rest_1 Pre_1 Post := by
  intro l hfl _ _ p e ha hc hk s m args below hf hA hF happ hP
  obtain ⟨hcalls, hrest, hpre⟩ := hP
  obtain ⟨-, -, -, hnamed, -, -, -, hat⟩ := (Spec.applies_iff hf).mp happ
  obtain ⟨hg, hn⟩ := and_e (Cond.before_iff.mp (show (Jvm.Cond.and given_1 narrow_1).before args s = true from hpre))
  obtain ⟨gc, gr0⟩ := and_e hg
  obtain ⟨ga0, ga1⟩ := and_e gr0
  obtain ⟨w0, w1, rfl⟩ : ∃ w0 w1 : Value, args = #[w0, w1] := by
    have hs : args.size = 2 := by simpa [Cond.value, given_1] using gc
    obtain ⟨L⟩ := args
    match L, hs with
    | [w0, w1], _ => exact ⟨w0, w1, rfl⟩
  have hw := fun d (hd : d ∈ tables_1) => atoms_spec (ws := Jvm.Cond.code x code maxLocals ret :: tables_1) hat d (List.mem_cons_of_mem _ hd)
  have hfit : Fit s := fun {y c} hc i hi => by
    obtain ⟨ha, rfl⟩ := Array.getElem?_eq_some_iff.mp hc
    have q := List.all_eq_true.mp ((Array.all_eq_true_iff_forall_mem.mp hF) _ (Array.getElem_mem ha)) i (List.mem_range.mpr hi)
    simpa [Array.getElem?_eq_getElem hi] using q
  obtain ⟨i0, ei0⟩ := is_v ga0
  obtain rfl : w0 = (.int i0) := Option.some.inj ei0
  obtain ⟨i1, ei1⟩ := is_v ga1
  obtain rfl : w1 = (.int i1) := Option.some.inj ei1
  obtain ⟨nr0, hn0⟩ := and_e hn
  obtain ⟨nr1, hn1⟩ := and_e hn0
  obtain ⟨nr2, hn2⟩ := and_e hn1
  obtain ⟨nr3, hn3⟩ := and_e hn2
  obtain ⟨nr4, hn4⟩ := and_e hn3
  obtain ⟨nr5, hn5⟩ := and_e hn4
  obtain ⟨nr6, hn6⟩ := and_e hn5
  obtain ⟨nr7, hn7⟩ := and_e hn6
  obtain ⟨nr8, hn8⟩ := and_e hn7
  obtain ⟨nr9, hn9⟩ := and_e hn8
  obtain ⟨nr10, hn10⟩ := and_e hn9
  obtain ⟨nr11, hn11⟩ := and_e hn10
  obtain ⟨nr12, hn12⟩ := and_e hn11
  obtain ⟨nr13, hn13⟩ := and_e hn12
  obtain ⟨nr14, nr15⟩ := and_e hn13
  obtain ⟨wSUSCEPTIBLE, evwSUSCEPTIBLE⟩ := exa_v nr0
  have SSUSCEPTIBLE : Sta s s.heap "com/example/rippletide/rippletide/model/State" "SUSCEPTIBLE" "Lcom/example/rippletide/rippletide/model/State;" (.ref wSUSCEPTIBLE) := Sta.start evwSUSCEPTIBLE (Or.inr ⟨(hw _ (List.mem_of_getElem? (i := 1) rfl)), (hw _ (List.mem_of_getElem? (i := 2) rfl))⟩)
  obtain ⟨wSTATES, evwSTATES⟩ := arr_v nr1
  have SSTATES : Sta s s.heap "com/example/rippletide/rippletide/io/HistoryFormat" "STATES" "[Lcom/example/rippletide/rippletide/model/State;" (.ref wSTATES) := Sta.start evwSTATES (Or.inr ⟨(hw _ (List.mem_of_getElem? (i := 5) rfl)), (hw _ (List.mem_of_getElem? (i := 8) rfl))⟩)
  obtain ⟨wSWM, evwSWM⟩ := arr_v nr4
  have SSWM : Sta s s.heap "com/example/rippletide/rippletide/io/HistoryFormat$1" "$SwitchMap$com$example$rippletide$rippletide$model$State" "[I" (.ref wSWM) := Sta.start evwSWM (Or.inr ⟨(hw _ (List.mem_of_getElem? (i := 13) rfl)), (hw _ (List.mem_of_getElem? (i := 14) rfl))⟩)
  obtain ⟨wINFECTED, evwINFECTED⟩ := exa_v nr8
  have SINFECTED : Sta s s.heap "com/example/rippletide/rippletide/model/State" "INFECTED" "Lcom/example/rippletide/rippletide/model/State;" (.ref wINFECTED) := Sta.start evwINFECTED (Or.inr ⟨(hw _ (List.mem_of_getElem? (i := 1) rfl)), (hw _ (List.mem_of_getElem? (i := 25) rfl))⟩)
  obtain ⟨wRECOVERED, evwRECOVERED⟩ := exa_v nr12
  have SRECOVERED : Sta s s.heap "com/example/rippletide/rippletide/model/State" "RECOVERED" "Lcom/example/rippletide/rippletide/model/State;" (.ref wRECOVERED) := Sta.start evwRECOVERED (Or.inr ⟨(hw _ (List.mem_of_getElem? (i := 1) rfl)), (hw _ (List.mem_of_getElem? (i := 27) rfl))⟩)
  have ESUSCEPTIBLE : Exa s s.heap wSUSCEPTIBLE "com/example/rippletide/rippletide/model/State" := Exa.start evwSUSCEPTIBLE nr0
  have FSUSCEPTIBLE_ordinal : Fld s s.heap wSUSCEPTIBLE "java/lang/Enum" "ordinal" "I" (.int (0 : Int32)) := own_fldI evwSUSCEPTIBLE nr6
  have EINFECTED : Exa s s.heap wINFECTED "com/example/rippletide/rippletide/model/State" := Exa.start evwINFECTED nr8
  have FINFECTED_ordinal : Fld s s.heap wINFECTED "java/lang/Enum" "ordinal" "I" (.int (1 : Int32)) := own_fldI evwINFECTED nr10
  have ERECOVERED : Exa s s.heap wRECOVERED "com/example/rippletide/rippletide/model/State" := Exa.start evwRECOVERED nr12
  have FRECOVERED_ordinal : Fld s s.heap wRECOVERED "java/lang/Enum" "ordinal" "I" (.int (2 : Int32)) := own_fldI evwRECOVERED nr14
  obtain ⟨clwSTATES, ArwSTATES⟩ := Arr.start evwSTATES nr1
  have elwSTATES_0 : clwSTATES.slots[0]? = some (.ref wSUSCEPTIBLE) := own_elR evwSTATES evwSUSCEPTIBLE ArwSTATES.1 nr3 rfl
  have elwSTATES_1 : clwSTATES.slots[1]? = some (.ref wINFECTED) := own_elR evwSTATES evwINFECTED ArwSTATES.1 nr9 rfl
  have elwSTATES_2 : clwSTATES.slots[2]? = some (.ref wRECOVERED) := own_elR evwSTATES evwRECOVERED ArwSTATES.1 nr13 rfl
  obtain ⟨qlwSTATES, zlwSTATES⟩ := own_len evwSTATES ArwSTATES nr2
  have ASTATES : Arv s s.heap wSTATES clwSTATES.cls (.object "com/example/rippletide/rippletide/model/State") (3 : Int32) [(.ref wSUSCEPTIBLE), (.ref wINFECTED), (.ref wRECOVERED)] .null := Arv.start hfit ArwSTATES qlwSTATES zlwSTATES (by decide) rfl ⟨elwSTATES_0, elwSTATES_1, elwSTATES_2, trivial⟩
  obtain ⟨clwSWM, ArwSWM⟩ := Arr.start evwSWM nr4
  have elwSWM_0 : clwSWM.slots[0]? = some (.int (1 : Int32)) := own_elI evwSWM ArwSWM.1 nr7 rfl
  have elwSWM_1 : clwSWM.slots[1]? = some (.int (2 : Int32)) := own_elI evwSWM ArwSWM.1 nr11 rfl
  have elwSWM_2 : clwSWM.slots[2]? = some (.int (3 : Int32)) := own_elI evwSWM ArwSWM.1 nr15 rfl
  obtain ⟨qlwSWM, zlwSWM⟩ := own_len evwSWM ArwSWM nr5
  have ASWM : Arv s s.heap wSWM clwSWM.cls .int (3 : Int32) [(.int (1 : Int32)), (.int (2 : Int32)), (.int (3 : Int32))] (.int (0 : Int32)) := Arv.start hfit ArwSWM qlwSWM zlwSWM (by decide) rfl ⟨elwSWM_0, elwSWM_1, elwSWM_2, trivial⟩
  obtain ⟨n, o, h1, h2, h3, _, L, rfl, ⟨rfl, N⟩, hq⟩ := rm0 l s _ hw tables_1 i0 i1 wSUSCEPTIBLE wSTATES wSWM wINFECTED wRECOVERED clwSTATES.cls clwSWM.cls s.heap s.heap.size (Nat.le_refl _) ⟨SSUSCEPTIBLE, ESUSCEPTIBLE, SSTATES, SSWM, FSUSCEPTIBLE_ordinal, SINFECTED, EINFECTED, FINFECTED_ordinal, SRECOVERED, ERECOVERED, FRECOVERED_ordinal, ASTATES, ASWM, trivial⟩  p e ha hc hk s m _ below hf ((Spec.applies_iff_loose hf).mp happ).1 ⟨rfl, State.Warmed39.refl s, rfl⟩ trivial
  refine ⟨n, _, h1, h2, h3, hpost _ _ _ _ _ _ ⟨Cond.after_iff.mpr rfl, Cond.after_iff.mpr (eq_i res_at (Term.int_eval (1)) rfl), trivial⟩ ⟨hq.1, hq.2.1, (hq.2.2.sift fun y hy => Or.inr (N y hy)).mono (by decide) (by decide)⟩⟩
theorem main_1_1 : Claimed_1_1 := comes_1 fun _ _ _ _ _ _ h hF => ⟨h.1, hF⟩
theorem main_1_2 : Claimed_1_2 := comes_1 fun _ _ _ _ _ _ h hF => ⟨h.2.1, hF⟩
end Jvm.Pilot.@@N@@
namespace Jvm.Pilot.@@N@@
open Jvm Jvm.ClassFile Sem Op Lib Jvm.Free Jvm.Stand Jvm.Pilot.@@N@@.Jvm.D
/-! MADE BY PROGRAM (witnessworld.py) out of the Statement's table words and the real class files: 15 classes; the members and pool entries that the words name. The judged class is class 1, her method 1. -/
namespace start1
open Jvm.ClassFile
def u (s : String) : CpInfo := .utf8 (stringToUtf16 s)
/-- a pool by its gaps: so many unusable entries, then the entry; so many at the end -/
def gap : Nat → List CpInfo → List CpInfo
  | 0, r => r
  | n + 1, r => .unusable :: gap n r
def poolList (es : List (Nat × CpInfo)) (last : Nat) : List CpInfo := es.foldr (fun e r => gap e.1 (e.2 :: r)) (gap last [])
def pool (es : List (Nat × CpInfo)) (last : Nat) : Array CpInfo := ⟨poolList es last⟩
def fileOf (pool : Array CpInfo) (this : Nat) (attrs : Array Attribute := #[]) (ms : Array MethodInfo := #[]) (fl : Nat := 33) (sup : Nat := 0) (ifs : Array Nat := #[]) (fds : Array FieldInfo := #[]) : ClassFile where
  minorVersion := 0
  majorVersion := 65
  constantPool := pool
  accessFlags := fl
  thisClass := this
  superClass := sup
  interfaces := ifs
  fields := fds
  methods := ms
  attributes := attrs
def plain (name : String) (sup : Option ClassId) : Class where
  name := name
  kind := .ordinary
  loader := none
  accessFlags := 33
  super := sup
  interfaces := #[]
  cf := none
  fields := #[]
  methods := #[]
  instanceTypes := #[]
  staticTypes := #[]
  resolved := #[]
  callSites := []
  init := .initialized
  statics := none
  mirror := none

def pool0 : Array CpInfo := pool [(5, u "<init>"), (0, u "()V"), (1, .class_ 10), (1, u "java/lang/Object")] 113

def k0m0 : Method := { name := "<init>", desc := "()V", sig := { parameters := [], returnType := none }, accessFlags := 1, code := none }
/-- java/lang/Object -/
def k0 : Class := { plain "java/lang/Object" none with
  accessFlags := 33
  interfaces := #[]
  cf := some (fileOf pool0 8 #[] #[{ accessFlags := 1, nameIndex := 5, descriptorIndex := 6, attributes := #[] }] 33 0 #[] #[])
  fields := #[]
  methods := #[k0m0]
  instanceTypes := #[]
  staticTypes := #[]
  resolved := Array.replicate 124 none
  statics := none }

def pool1 : Array CpInfo := pool [(2, .class_ 4), (1, u "java/lang/Object"), (0, u "<init>"), (0, u "()V"), (0, .fieldref 8 9), (0, .class_ 10), (0, .nameAndType 11 12), (0, u "com/example/rippletide/rippletide/model/State"), (0, u "SUSCEPTIBLE"), (0, u "Lcom/example/rippletide/rippletide/model/State;"), (0, .fieldref 8 14), (0, .nameAndType 15 12), (0, u "INFECTED"), (0, .fieldref 8 17), (0, .nameAndType 18 12), (0, u "RECOVERED"), (0, .methodref 20 21), (0, .class_ 22), (0, .nameAndType 23 24), (0, u "com/example/rippletide/rippletide/io/HistoryFormat"), (0, u "state"), (0, u "(I)Lcom/example/rippletide/rippletide/model/State;"), (0, .methodref 20 26), (0, .nameAndType 27 28), (0, u "code"), (0, u "(Lcom/example/rippletide/rippletide/model/State;)I"), (0, .class_ 30), (0, u "com/example/rippletide/rippletide/io/HistoryFormatStatePinLaw"), (2, u "law"), (0, u "(II)Z")] 3

def k1m0 : Method := { name := "<init>", desc := "()V", sig := { parameters := [], returnType := none }, accessFlags := 2, code := none }
def k1c1 : Code := { maxStack := 2, maxLocals := 5, code := code, exceptionTable := #[], attributes := #[] }
def k1m1 : Method := { name := "law", desc := "(II)Z", sig := { parameters := [.int, .int], returnType := some .boolean }, accessFlags := 9, code := some k1c1 }
/-- com/example/rippletide/rippletide/io/HistoryFormatStatePinLaw -/
def k1 : Class := { plain "com/example/rippletide/rippletide/io/HistoryFormatStatePinLaw" (some 0) with
  accessFlags := 49
  interfaces := #[]
  cf := some (fileOf pool1 29 #[] #[{ accessFlags := 2, nameIndex := 5, descriptorIndex := 6, attributes := #[] }, { accessFlags := 9, nameIndex := 33, descriptorIndex := 34, attributes := #[] }] 49 2 #[] #[])
  fields := #[]
  methods := #[k1m0, k1m1]
  instanceTypes := #[]
  staticTypes := #[]
  resolved := Array.replicate 38 none
  statics := none }

def pool2 : Array CpInfo := pool [(1, .class_ 2), (0, u "java/lang/constant/Constable"), (0, .class_ 4), (0, u "java/lang/Object")] 6

/-- java/lang/constant/Constable -/
def k2 : Class := { plain "java/lang/constant/Constable" (some 0) with
  accessFlags := 1537
  interfaces := #[]
  cf := some (fileOf pool2 1 #[] #[] 1537 3 #[] #[])
  fields := #[]
  methods := #[]
  instanceTypes := #[]
  staticTypes := #[]
  resolved := Array.replicate 11 none
  statics := none }

def pool3 : Array CpInfo := pool [(1, .class_ 2), (0, u "java/lang/Comparable"), (0, .class_ 4), (0, u "java/lang/Object")] 7

/-- java/lang/Comparable -/
def k3 : Class := { plain "java/lang/Comparable" (some 0) with
  accessFlags := 1537
  interfaces := #[]
  cf := some (fileOf pool3 1 #[] #[] 1537 3 #[] #[])
  fields := #[]
  methods := #[]
  instanceTypes := #[]
  staticTypes := #[]
  resolved := Array.replicate 12 none
  statics := none }

def pool4 : Array CpInfo := pool [(1, .class_ 2), (0, u "java/io/Serializable"), (0, .class_ 4), (0, u "java/lang/Object")] 2

/-- java/io/Serializable -/
def k4 : Class := { plain "java/io/Serializable" (some 0) with
  accessFlags := 1537
  interfaces := #[]
  cf := some (fileOf pool4 1 #[] #[] 1537 3 #[] #[])
  fields := #[]
  methods := #[]
  instanceTypes := #[]
  staticTypes := #[]
  resolved := Array.replicate 7 none
  statics := none }

def pool5 : Array CpInfo := pool [(2, .class_ 4), (1, u "java/lang/Enum"), (0, u "name"), (0, u "Ljava/lang/String;"), (0, .fieldref 2 8), (0, .nameAndType 9 10), (0, u "ordinal"), (0, u "I"), (1, .class_ 14), (1, u "java/lang/Object"), (4, u "hash"), (86, .class_ 108), (1, u "java/lang/Enum$EnumDesc"), (2, .class_ 112), (0, u "java/lang/constant/Constable"), (0, .class_ 114), (0, u "java/lang/Comparable"), (0, .class_ 116), (0, u "java/io/Serializable"), (9, u "()I")] 77

def k5c0 : Code := { maxStack := 1, maxLocals := 1, code := jdk_37_method_2_code, exceptionTable := #[], attributes := #[] }
def k5m0 : Method := { name := "ordinal", desc := "()I", sig := { parameters := [], returnType := some .int }, accessFlags := 17, code := some k5c0 }
/-- java/lang/Enum -/
def k5 : Class := { plain "java/lang/Enum" (some 0) with
  accessFlags := 1057
  interfaces := #[2, 3, 4]
  cf := some (fileOf pool5 2 #[.nestMembers #[106]] #[{ accessFlags := 17, nameIndex := 9, descriptorIndex := 126, attributes := #[] }] 1057 12 #[111, 113, 115] #[{ accessFlags := 18, nameIndex := 5, descriptorIndex := 6, attributes := #[] }, { accessFlags := 18, nameIndex := 9, descriptorIndex := 10, attributes := #[] }, { accessFlags := 2, nameIndex := 19, descriptorIndex := 10, attributes := #[] }])
  fields := #[{ name := "name", type := (.object "java/lang/String"), accessFlags := 18, slot := 0, constantValue := 0 }, { name := "ordinal", type := .int, accessFlags := 18, slot := 1, constantValue := 0 }, { name := "hash", type := .int, accessFlags := 2, slot := 2, constantValue := 0 }]
  methods := #[k5m0]
  instanceTypes := #[(.object "java/lang/String"), .int, .int]
  staticTypes := #[]
  resolved := Array.replicate 204 none
  statics := none }

def pool6 : Array CpInfo := pool [(1, .class_ 2), (0, u "com/example/rippletide/rippletide/model/State"), (2, u "SUSCEPTIBLE"), (0, u "Lcom/example/rippletide/rippletide/model/State;"), (2, u "INFECTED"), (2, u "RECOVERED"), (2, u "$VALUES"), (0, u "[Lcom/example/rippletide/rippletide/model/State;"), (6, .class_ 25), (1, u "java/lang/Enum"), (8, u "letter"), (0, u "C"), (2, u "STATES")] 28

/-- com/example/rippletide/rippletide/model/State -/
def k6 : Class := { plain "com/example/rippletide/rippletide/model/State" (some 5) with
  accessFlags := 16433
  interfaces := #[]
  cf := some (fileOf pool6 1 #[] #[] 16433 23 #[] #[{ accessFlags := 16409, nameIndex := 5, descriptorIndex := 6, attributes := #[] }, { accessFlags := 16409, nameIndex := 9, descriptorIndex := 6, attributes := #[] }, { accessFlags := 16409, nameIndex := 12, descriptorIndex := 6, attributes := #[] }, { accessFlags := 26, nameIndex := 38, descriptorIndex := 16, attributes := #[] }, { accessFlags := 18, nameIndex := 34, descriptorIndex := 35, attributes := #[] }, { accessFlags := 4122, nameIndex := 15, descriptorIndex := 16, attributes := #[] }])
  fields := #[{ name := "SUSCEPTIBLE", type := (.object "com/example/rippletide/rippletide/model/State"), accessFlags := 16409, slot := 0, constantValue := 0 }, { name := "INFECTED", type := (.object "com/example/rippletide/rippletide/model/State"), accessFlags := 16409, slot := 1, constantValue := 0 }, { name := "RECOVERED", type := (.object "com/example/rippletide/rippletide/model/State"), accessFlags := 16409, slot := 2, constantValue := 0 }, { name := "STATES", type := (.array (.object "com/example/rippletide/rippletide/model/State")), accessFlags := 26, slot := 3, constantValue := 0 }, { name := "letter", type := .char, accessFlags := 18, slot := 3, constantValue := 0 }, { name := "$VALUES", type := (.array (.object "com/example/rippletide/rippletide/model/State")), accessFlags := 4122, slot := 4, constantValue := 0 }]
  methods := #[]
  instanceTypes := #[(.object "java/lang/String"), .int, .int, .char]
  staticTypes := #[(.object "com/example/rippletide/rippletide/model/State"), (.object "com/example/rippletide/rippletide/model/State"), (.object "com/example/rippletide/rippletide/model/State"), (.array (.object "com/example/rippletide/rippletide/model/State")), (.array (.object "com/example/rippletide/rippletide/model/State"))]
  resolved := Array.replicate 67 none
  statics := some 0 }

def pool7 : Array CpInfo := pool [(1, .class_ 2), (0, u "com/example/rippletide/rippletide/io/HistoryFormat"), (3, .class_ 8), (1, u "java/lang/Object"), (0, u "<init>"), (0, u "()V"), (0, .fieldref 12 13), (0, .class_ 14), (0, .nameAndType 15 16), (0, u "com/example/rippletide/rippletide/io/HistoryFormat$1"), (0, u "$SwitchMap$com$example$rippletide$rippletide$model$State"), (0, u "[I"), (0, .methodref 18 19), (0, .class_ 20), (0, .nameAndType 21 22), (0, u "com/example/rippletide/rippletide/model/State"), (0, u "ordinal"), (0, u "()I"), (5, .fieldref 1 29), (0, .nameAndType 30 31), (0, u "STATES"), (0, u "[Lcom/example/rippletide/rippletide/model/State;"), (159, u "VERSION"), (0, u "I"), (2, u "TAG"), (0, u "HEADER_BYTES"), (1, u "FRAME_HEADER_BYTES"), (1, u "BASELINE"), (0, u "B"), (1, u "CHANGE"), (1, u "END"), (1, u "END_PAYLOAD_BYTES"), (1, u "END_FRAME_BYTES"), (1, u "MAX_PAYLOAD"), (0, u "PART_BYTES"), (2, u "code"), (0, u "(Lcom/example/rippletide/rippletide/model/State;)I"), (1, u "state"), (0, u "(I)Lcom/example/rippletide/rippletide/model/State;")] 38

def k7m0 : Method := { name := "<init>", desc := "()V", sig := { parameters := [], returnType := none }, accessFlags := 2, code := none }
def k7c1 : Code := { maxStack := 4, maxLocals := 1, code := prog_13_method_2_code, exceptionTable := #[], attributes := #[] }
def k7m1 : Method := { name := "code", desc := "(Lcom/example/rippletide/rippletide/model/State;)I", sig := { parameters := [(.object "com/example/rippletide/rippletide/model/State")], returnType := some .int }, accessFlags := 8, code := some k7c1 }
def k7c2 : Code := { maxStack := 2, maxLocals := 1, code := prog_13_method_3_code, exceptionTable := #[], attributes := #[] }
def k7m2 : Method := { name := "state", desc := "(I)Lcom/example/rippletide/rippletide/model/State;", sig := { parameters := [.int], returnType := some (.object "com/example/rippletide/rippletide/model/State") }, accessFlags := 8, code := some k7c2 }
/-- com/example/rippletide/rippletide/io/HistoryFormat -/
def k7 : Class := { plain "com/example/rippletide/rippletide/io/HistoryFormat" (some 0) with
  accessFlags := 48
  interfaces := #[]
  cf := some (fileOf pool7 1 #[.nestMembers #[12]] #[{ accessFlags := 2, nameIndex := 9, descriptorIndex := 10, attributes := #[] }, { accessFlags := 8, nameIndex := 215, descriptorIndex := 216, attributes := #[] }, { accessFlags := 8, nameIndex := 218, descriptorIndex := 219, attributes := #[] }] 48 6 #[] #[{ accessFlags := 24, nameIndex := 191, descriptorIndex := 192, attributes := #[] }, { accessFlags := 24, nameIndex := 195, descriptorIndex := 192, attributes := #[] }, { accessFlags := 24, nameIndex := 196, descriptorIndex := 192, attributes := #[] }, { accessFlags := 24, nameIndex := 198, descriptorIndex := 192, attributes := #[] }, { accessFlags := 24, nameIndex := 200, descriptorIndex := 201, attributes := #[] }, { accessFlags := 24, nameIndex := 203, descriptorIndex := 201, attributes := #[] }, { accessFlags := 24, nameIndex := 205, descriptorIndex := 201, attributes := #[] }, { accessFlags := 24, nameIndex := 207, descriptorIndex := 192, attributes := #[] }, { accessFlags := 24, nameIndex := 209, descriptorIndex := 192, attributes := #[] }, { accessFlags := 24, nameIndex := 211, descriptorIndex := 192, attributes := #[] }, { accessFlags := 24, nameIndex := 212, descriptorIndex := 192, attributes := #[] }, { accessFlags := 26, nameIndex := 30, descriptorIndex := 31, attributes := #[] }])
  fields := #[{ name := "VERSION", type := .int, accessFlags := 24, slot := 0, constantValue := 0 }, { name := "TAG", type := .int, accessFlags := 24, slot := 1, constantValue := 0 }, { name := "HEADER_BYTES", type := .int, accessFlags := 24, slot := 2, constantValue := 0 }, { name := "FRAME_HEADER_BYTES", type := .int, accessFlags := 24, slot := 3, constantValue := 0 }, { name := "BASELINE", type := .byte, accessFlags := 24, slot := 4, constantValue := 0 }, { name := "CHANGE", type := .byte, accessFlags := 24, slot := 5, constantValue := 0 }, { name := "END", type := .byte, accessFlags := 24, slot := 6, constantValue := 0 }, { name := "END_PAYLOAD_BYTES", type := .int, accessFlags := 24, slot := 7, constantValue := 0 }, { name := "END_FRAME_BYTES", type := .int, accessFlags := 24, slot := 8, constantValue := 0 }, { name := "MAX_PAYLOAD", type := .int, accessFlags := 24, slot := 9, constantValue := 0 }, { name := "PART_BYTES", type := .int, accessFlags := 24, slot := 10, constantValue := 0 }, { name := "STATES", type := (.array (.object "com/example/rippletide/rippletide/model/State")), accessFlags := 26, slot := 11, constantValue := 0 }]
  methods := #[k7m0, k7m1, k7m2]
  instanceTypes := #[]
  staticTypes := #[.int, .int, .int, .int, .byte, .byte, .byte, .int, .int, .int, .int, (.array (.object "com/example/rippletide/rippletide/model/State"))]
  resolved := Array.replicate 258 none
  statics := some 1 }

def pool8 : Array CpInfo := pool [(8, .class_ 10), (1, u "com/example/rippletide/rippletide/io/HistoryFormat$1"), (0, u "$SwitchMap$com$example$rippletide$rippletide$model$State"), (0, u "[I"), (16, .class_ 30), (0, u "java/lang/Object"), (8, .class_ 40), (0, u "com/example/rippletide/rippletide/io/HistoryFormat")] 2

/-- com/example/rippletide/rippletide/io/HistoryFormat$1 -/
def k8 : Class := { plain "com/example/rippletide/rippletide/io/HistoryFormat$1" (some 0) with
  accessFlags := 4128
  interfaces := #[]
  cf := some (fileOf pool8 8 #[.nestHost 39] #[] 4128 29 #[] #[{ accessFlags := 4120, nameIndex := 11, descriptorIndex := 12, attributes := #[] }])
  fields := #[{ name := "$SwitchMap$com$example$rippletide$rippletide$model$State", type := (.array .int), accessFlags := 4120, slot := 0, constantValue := 0 }]
  methods := #[]
  instanceTypes := #[]
  staticTypes := #[(.array .int)]
  resolved := Array.replicate 43 none
  statics := some 2 }

def pool9 : Array CpInfo := pool [(1, u "java/lang/Cloneable"), (0, .class_ 1), (0, u "java/lang/Object"), (0, .class_ 3)] 3

/-- java/lang/Cloneable -/
def k9 : Class := { plain "java/lang/Cloneable" (some 0) with
  accessFlags := 1537
  interfaces := #[]
  cf := some (fileOf pool9 2 #[] #[] 1537 4 #[] #[])
  fields := #[]
  methods := #[]
  instanceTypes := #[]
  staticTypes := #[]
  resolved := Array.replicate 8 none
  statics := none }

/-- the primitive byte -/
def k10 : Class := { plain "byte" none with kind := .primitive 'B', accessFlags := 0x411 }
/-- [B -/
def k11 : Class := { plain "[B" (some 0) with kind := .array 10 .byte, interfaces := #[9, 4], accessFlags := 1041 }

/-- the primitive int -/
def k12 : Class := { plain "int" none with kind := .primitive 'I', accessFlags := 0x411 }
/-- [I -/
def k13 : Class := { plain "[I" (some 0) with kind := .array 12 .int, interfaces := #[9, 4], accessFlags := 1041 }

/-- [Lcom/example/rippletide/rippletide/model/State; -/
def k14 : Class := { plain "[Lcom/example/rippletide/rippletide/model/State;" (some 0) with kind := .array 6 (.object "com/example/rippletide/rippletide/model/State"), interfaces := #[9, 4], accessFlags := 1041 }

def heap : Heap := #[{ cls := 6, slots := #[.ref 4, .ref 5, .ref 6, .null, .null], vm := .statics 6 },
  { cls := 7, slots := #[.int 0, .int 0, .int 0, .int 0, .int 0, .int 0, .int 0, .int 0, .int 0, .int 0, .int 0, .ref 3], vm := .statics 7 },
  { cls := 8, slots := #[.ref 7], vm := .statics 8 },
  { cls := 14, slots := #[.ref 4, .ref 5, .ref 6], vm := .none },
  { cls := 6, slots := #[.null, .int 0, .int 0, .int 0], vm := .none },
  { cls := 6, slots := #[.null, .int 1, .int 0, .int 0], vm := .none },
  { cls := 6, slots := #[.null, .int 2, .int 0, .int 0], vm := .none },
  { cls := 13, slots := #[.int 1, .int 2, .int 3], vm := .none }]
def classes : Array Class := #[k0, k1, k2, k3, k4, k5, k6, k7, k8, k9, k10, k11, k12, k13, k14]
def interned : List (Array UInt16 × Addr) := []
def slotsUsed : Nat := 36
def theMethod : MethodId := ⟨1, 1⟩
def args0 : Array Value := #[.int 5, .int 7]
def aboutOver (below : List Frame) : State where
  vm := { classes := classes, interned := interned.toArray }
  heap := heap
  slotsUsed := slotsUsed
  threads := #[{ frames := .invoking theMethod args0 :: below }]
def below0 : List Frame := [.native { method := ⟨0, 0⟩, args := #[] }]
def about1 : State := aboutOver below0
def p0 : Program := .bare "" "" ""
def e0 : Env := launch0.env 0 0 0
theorem w_frames : about1.frames = Frame.invoking theMethod args0 :: below0 := rfl
set_option maxRecDepth 65536 in
theorem w_args : argsFit about1.vm theMethod args0 = true := by decide +kernel
set_option maxRecDepth 65536 in
theorem w_heap : heapFits about1 = true := by decide +kernel
set_option maxRecDepth 65536 in
theorem w_runnable : about1.curStatus? = some .runnable := by decide +kernel
set_option maxRecDepth 65536 in
theorem w_alone : about1.alone = true := by decide +kernel
set_option maxRecDepth 65536 in
theorem w_named : about1.methodNamed? x = some theMethod := by decide +kernel
set_option maxRecDepth 65536 in
theorem w_hears : about1.hears theMethod below0 = true := by decide +kernel
set_option maxRecDepth 65536 in
theorem w_ripe : about1.ripe theMethod args0 below0 = true := by decide +kernel
theorem w_running : about1.status = .running := rfl
set_option maxRecDepth 65536 in
theorem w_room : about1.hasRoom e0.platform room_1 = true :=
  launch0.hasRoom_least _ room_1 (by decide +kernel) (by decide +kernel) (by decide +kernel) (by decide +kernel) (by decide +kernel) (by decide +kernel)
theorem allAtoms_all (ts : List Jvm.Cond) (a : Array Jvm.Value) (st : Jvm.State) : (allAtoms ts).before a st = ts.all (fun c => c.before a st) := by
  induction ts with
  | nil => rfl
  | cons c t ih =>
    show (Jvm.Cond.and c (allAtoms t)).before a st = _
    rw [Jvm.Cond.before_and, ih, List.all_cons]
def words1 : List Jvm.Cond := Jvm.Cond.code x code maxLocals ret :: tables_1
/-- a 'code' word, met by the world's own term for the bytes: nothing is compared byte by byte -/
theorem code_word {y : MethodName} {bytes : ByteArray} {mx : Nat} {rt : Option FieldType} {a : Array Value} {s : State} {m : MethodId} {meth : Method} {c : Code} (h1 : s.methodNamed? y = some m) (h2 : s.vm.method? m = some meth) (h3 : meth.code = some c) (h4 : c.code = bytes)
    (h5 : (c.maxLocals == mx && c.exceptionTable.isEmpty && decide (c.maxStack ≤ mostOperands) && decide (meth.sig.returnType = rt) && !meth.locks && decide (parseMethodDescriptor y.desc = some meth.sig)) = true) : (Jvm.Cond.code y bytes mx rt).before a s = true := by
  simp only [Bool.and_eq_true, beq_iff_eq, Bool.not_eq_true', decide_eq_true_eq] at h5
  obtain ⟨⟨⟨⟨⟨g1, g2⟩, g3⟩, g4⟩, g5⟩, g6⟩ := h5
  simp [Cond.before, Cond.holds, Cond.value, h1, h2, h3, h4, g1, g2, g3, g4, g5, g6]
def isCode : Jvm.Cond → Bool
  | .code _ _ _ _ => true
  | _ => false
theorem all_split {L : List Jvm.Cond} {P : Jvm.Cond → Bool} (h1 : L.all (fun c => isCode c || P c) = true) (h2 : ∀ c ∈ L.filter isCode, P c = true) : L.all P = true := by
  refine List.all_eq_true.mpr fun c hc => ?_
  have h := List.all_eq_true.mp h1 c hc
  rcases Bool.eq_false_or_eq_true (isCode c) with hi | hi
  · exact h2 c (List.mem_filter.mpr ⟨hc, hi⟩)
  · simpa [hi] using h
set_option maxRecDepth 65536 in
theorem w_c0 : (Jvm.Cond.code x code maxLocals ret).before args0 about1 = true := code_word (m := ⟨1, 1⟩) (meth := k1m1) (c := k1c1) (by decide +kernel) rfl rfl rfl (by decide +kernel)
set_option maxRecDepth 65536 in
theorem w_c1 : (Jvm.Cond.code ({ cls := "com/example/rippletide/rippletide/io/HistoryFormat", name := "state", desc := "(I)Lcom/example/rippletide/rippletide/model/State;" } : Jvm.MethodName) prog_13_method_3_code (1 : Nat) (Option.some (Jvm.ClassFile.FieldType.object "com/example/rippletide/rippletide/model/State"))).before args0 about1 = true := code_word (m := ⟨7, 2⟩) (meth := k7m2) (c := k7c2) (by decide +kernel) rfl rfl rfl (by decide +kernel)
set_option maxRecDepth 65536 in
theorem w_c2 : (Jvm.Cond.code ({ cls := "com/example/rippletide/rippletide/io/HistoryFormat", name := "code", desc := "(Lcom/example/rippletide/rippletide/model/State;)I" } : Jvm.MethodName) prog_13_method_2_code (1 : Nat) (Option.some Jvm.ClassFile.FieldType.int)).before args0 about1 = true := code_word (m := ⟨7, 1⟩) (meth := k7m1) (c := k7c1) (by decide +kernel) rfl rfl rfl (by decide +kernel)
set_option maxRecDepth 65536 in
theorem w_c3 : (Jvm.Cond.code ({ cls := "java/lang/Enum", name := "ordinal", desc := "()I" } : Jvm.MethodName) jdk_37_method_2_code (1 : Nat) (Option.some Jvm.ClassFile.FieldType.int)).before args0 about1 = true := code_word (m := ⟨5, 0⟩) (meth := k5m0) (c := k5c0) (by decide +kernel) rfl rfl rfl (by decide +kernel)
def codes1 : List Jvm.Cond := [Jvm.Cond.code x code maxLocals ret, Jvm.Cond.code ({ cls := "com/example/rippletide/rippletide/io/HistoryFormat", name := "state", desc := "(I)Lcom/example/rippletide/rippletide/model/State;" } : Jvm.MethodName) prog_13_method_3_code (1 : Nat) (Option.some (Jvm.ClassFile.FieldType.object "com/example/rippletide/rippletide/model/State")), Jvm.Cond.code ({ cls := "com/example/rippletide/rippletide/io/HistoryFormat", name := "code", desc := "(Lcom/example/rippletide/rippletide/model/State;)I" } : Jvm.MethodName) prog_13_method_2_code (1 : Nat) (Option.some Jvm.ClassFile.FieldType.int), Jvm.Cond.code ({ cls := "java/lang/Enum", name := "ordinal", desc := "()I" } : Jvm.MethodName) jdk_37_method_2_code (1 : Nat) (Option.some Jvm.ClassFile.FieldType.int)]
set_option maxRecDepth 65536 in
theorem codes_eq : words1.filter isCode = codes1 := rfl
theorem w_codes : ∀ c ∈ words1.filter isCode, c.before args0 about1 = true := by
  rw [codes_eq]
  intro c hc
  simp only [codes1, List.mem_cons, List.not_mem_nil, or_false] at hc
  rcases hc with rfl | rfl | rfl | rfl
  · exact w_c0
  · exact w_c1
  · exact w_c2
  · exact w_c3
set_option maxRecDepth 65536 in
theorem w_t1 : (words1.take 24).all (fun c => isCode c || c.before args0 about1) = true := by decide +kernel
set_option maxRecDepth 65536 in
theorem w_t2 : (words1.drop 24).all (fun c => isCode c || c.before args0 about1) = true := by decide +kernel
theorem w_tables : (allAtoms (Jvm.Cond.code x code maxLocals ret :: tables_1)).before args0 about1 = true := by
  rw [allAtoms_all]
  show words1.all (fun c => c.before args0 about1) = true
  refine all_split ?_ w_codes
  rw [← List.take_append_drop 24 words1, List.all_append, w_t1, w_t2]
  rfl
set_option maxRecDepth 65536 in
theorem w_case : (Jvm.Cond.and given_1 narrow_1).before args0 about1 = true := by decide +kernel
theorem w_applies : (headSpec (Jvm.Cond.code x code maxLocals ret :: tables_1) room_1).applies x e0.platform about1 = true :=
  (Spec.applies_iff w_frames).mpr ⟨w_running, w_runnable, w_alone, w_named, w_hears, w_ripe, w_room, w_tables⟩
theorem atStart : AtStart classFile x code maxLocals ret World_1 tables_1 room_1 Calls_1 rest_1 Pre_1 launch0 p0 e0 about1 theMethod args0 below0 :=
  ⟨lists_1, trivial, launch0.admits_env _ _ _, launch0.least_env, fairChoices_fair.cas, fairChoices_fair.clock, w_frames, w_args, w_heap, w_applies, trivial, trivial, w_case⟩
end start1
theorem witness_1 : WitnessClaimed_1 := ⟨start1.p0, start1.e0, start1.about1, start1.theMethod, start1.args0, start1.below0, start1.atStart⟩
end Jvm.Pilot.@@N@@
