import JvmDerived
import JvmDerived.Pilot.@@N@@Statement
import JvmDerived.Pilot.@@N@@Code
set_option linter.unusedVariables false
set_option linter.unusedSimpArgs false
namespace Jvm.RoadKit
open Sem ClassFile Op Lib Jvm.Stand Jvm.Free Jvm.LawKit
section New
variable {p : Program} {l : Launch} {e : Env} {R : Room} {s : State} {m : MethodId} {args : Array Value} {below : List Frame} {meth : Method} {c : Code} {T : State} {locs : List Loc} {cells slots : Nat}
theorem own_retI (X : Stand p l e R s m args below meth c T locs cells slots) (hx : p.tables.exec = Jvm.exec) {pc : Nat} {Ls : Array Slot} {z : Int32} {rest : List Value} (hret : meth.sig.returnType = some .int) (hd : decode c.code pc = .ok (.ireturn, 1)) {fs : List Frame}
    (hl : ∀ (f : JFrame) (acts : List Action), f.method = m → f.locked = none → f.entered = [] → (doReturn e (T.setTop f) acts (some (.int z))).1 = T.setFrames fs) : Steps p.tables e below (T.setTop (mkF m pc Ls (.int z :: rest))) (T.setFrames fs) :=
  retOut X hx hret rfl (Or.inl ⟨rfl, Or.inl rfl, z, rfl⟩) hd hl
theorem own_retL (X : Stand p l e R s m args below meth c T locs cells slots) (hx : p.tables.exec = Jvm.exec) {pc : Nat} {Ls : Array Slot} {z : Int64} {rest : List Value} (hret : meth.sig.returnType = some .long) (hd : decode c.code pc = .ok (.lreturn, 1)) {fs : List Frame}
    (hl : ∀ (f : JFrame) (acts : List Action), f.method = m → f.locked = none → f.entered = [] → (doReturn e (T.setTop f) acts (some (.long z))).1 = T.setFrames fs) : Steps p.tables e below (T.setTop (mkF m pc Ls (.long z :: rest))) (T.setFrames fs) :=
  retOut X hx hret rfl (Or.inr (Or.inl ⟨rfl, rfl, z, rfl⟩)) hd hl
theorem own_retA (X : Stand p l e R s m args below meth c T locs cells slots) (hx : p.tables.exec = Jvm.exec) {pc : Nat} {Ls : Array Slot} {w : Value} {t : FieldType} {rest : List Value} (hret : meth.sig.returnType = some t) (ht : t.isReference = true) (hw : w.isRef = true) (hd : decode c.code pc = .ok (.areturn, 1)) {fs : List Frame}
    (hl : ∀ (f : JFrame) (acts : List Action), f.method = m → f.locked = none → f.entered = [] → (doReturn e (T.setTop f) acts (some w)).1 = T.setFrames fs) : Steps p.tables e below (T.setTop (mkF m pc Ls (w :: rest))) (T.setFrames fs) :=
  retOut X hx hret (by cases t <;> cases w <;> simp_all [narrow, Value.isRef, FieldType.isReference]) (Or.inr (Or.inr (Or.inr (Or.inr ⟨rfl, ht, hw⟩)))) hd hl
end New
end Jvm.RoadKit
namespace Jvm.Pilot.@@N@@
open Jvm Jvm.ClassFile Sem Op Lib Jvm.Free Jvm.Stand Jvm.LawKit Jvm.RoadKit Bundle Jvm.Pilot.@@N@@.Jvm.D
theorem own_lcEt {x y : Int64} (h : x = y) : lcmpW x y = (0 : Int32) := by rw [lcW]; exact (lc_eq x y).mpr h
theorem own_lcEf {x y : Int64} (h : ¬ (x = y)) : ¬ (lcmpW x y = (0 : Int32)) := by rw [lcW]; exact fun q => h ((lc_eq x y).mp q)
theorem own_lcLt {x y : Int64} (h : x < y) : lcmpW x y < (0 : Int32) := by rw [lcW]; exact (lc_lt x y).mpr h
theorem own_lcLf {x y : Int64} (h : ¬ (x < y)) : ¬ (lcmpW x y < (0 : Int32)) := by rw [lcW]; exact fun q => h ((lc_lt x y).mp q)
theorem own_lcGt {x y : Int64} (h : y < x) : (0 : Int32) < lcmpW x y := by rw [lcW]; exact (lc_gt x y).mpr h
theorem own_lcGf {x y : Int64} (h : ¬ (y < x)) : ¬ ((0 : Int32) < lcmpW x y) := by rw [lcW]; exact fun q => h ((lc_gt x y).mp q)
theorem own_ext_refl (h : Heap) : Ext h h := ⟨Nat.le_refl _, fun _ _ q => q⟩
theorem own_ext_trans {h h' h'' : Heap} (E : Ext h h') (F : Ext h' h'') : Ext h h'' := ⟨Nat.le_trans E.1 F.1, fun a c q => F.2 a c (E.2 a c q)⟩
theorem own_ext_wr {h h' h'' : Heap} {a : Addr} {sl : Nat} {v : Value} (E : Ext h h') (W : Wr h' h'' a sl v) (q : h.size ≤ a) : Ext h h'' := by
  obtain ⟨cell, -, -, -, rfl⟩ := W
  refine ⟨by simpa using E.1, fun b c r => ?_⟩
  have hb : b < h.size := (Array.getElem?_eq_some_iff.mp r).1
  rw [Array.getElem?_setIfInBounds_ne (Nat.ne_of_gt (Nat.lt_of_lt_of_le hb q))]
  exact E.2 b c r
theorem own_fldI {args : Array Value} {s : State} {t : Term} {a : Addr} {C n d : String} {k : Int32} (ev : t.eval args s none [] s = some (.ref a)) (h : (Cond.eq (.field t C n d) (.int k)).value args s none s [] = some true) : Fld s s.heap a C n d (.int k) := by
  obtain ⟨u, v, h1, h2, -, k2⟩ := cmp_v (Or.inl h)
  have e2 : (Term.int k).eval args s none [] s = some (.int k) := rfl
  cases e2.symm.trans h2
  obtain ⟨z, rfl⟩ := k2
  have q : z = k := by simpa [Cond.value, h1, e2] using h
  subst q
  exact Fld.start ((fld_at ev).symm.trans h1)
theorem own_fldJ {args : Array Value} {s : State} {t : Term} {a : Addr} {C n d : String} {k : Int64} (ev : t.eval args s none [] s = some (.ref a)) (h : (Cond.eq (.field t C n d) (.long k)).value args s none s [] = some true) : Fld s s.heap a C n d (.long k) := by
  obtain ⟨u, v, h1, h2, -, k2⟩ := cmp_v (Or.inl h)
  have e2 : (Term.long k).eval args s none [] s = some (.long k) := rfl
  cases e2.symm.trans h2
  obtain ⟨z, rfl⟩ := k2
  have q : z = k := by simpa [Cond.value, h1, e2] using h
  subst q
  exact Fld.start ((fld_at ev).symm.trans h1)
theorem own_fldN {args : Array Value} {s : State} {t : Term} {a : Addr} {C n d : String} (ev : t.eval args s none [] s = some (.ref a)) (h : (Cond.eq (.field t C n d) .null).value args s none s [] = some true) : Fld s s.heap a C n d .null :=
  Fld.start ((fld_at ev).symm.trans (null_v h))
theorem own_eqR {args : Array Value} {s : State} {t u : Term} {b : Addr} (eu : u.eval args s none [] s = some (.ref b)) (h : (Cond.eq t u).value args s none s [] = some true) : t.eval args s none [] s = some (.ref b) := by
  obtain ⟨x, y, h1, h2, k1, k2⟩ := cmp_v (Or.inl h)
  cases eu.symm.trans h2
  have hx : x.isRef = true := k2.2
  have q := gotT (eq_R h1 h2 hx rfl) h
  rw [h1, q]
theorem own_fldR {args : Array Value} {s : State} {t u : Term} {a b : Addr} {C n d : String} (ev : t.eval args s none [] s = some (.ref a)) (eu : u.eval args s none [] s = some (.ref b)) (h : (Cond.eq (.field t C n d) u).value args s none s [] = some true) : Fld s s.heap a C n d (.ref b) :=
  Fld.start ((fld_at ev).symm.trans (own_eqR eu h))
theorem own_elI {args : Array Value} {s : State} {t : Term} {a : Addr} {cl : Cell} {j k : Int32} {i : Nat} (ev : t.eval args s none [] s = some (.ref a)) (hc : s.heap[a]? = some cl) (h : (Cond.eq (.elem t (.int j)) (.int k)).value args s none s [] = some true) (hj : j.toNatClampNeg = i) : cl.slots[i]? = some (.int k) := by
  obtain ⟨u, v, h1, h2, -, k2⟩ := cmp_v (Or.inl h)
  have e2 : (Term.int k).eval args s none [] s = some (.int k) := rfl
  cases e2.symm.trans h2
  obtain ⟨z, rfl⟩ := k2
  have q : z = k := by simpa [Cond.value, h1, e2] using h
  subst q hj
  exact (elem_in h1 ev (rfl : (Term.int j).eval args s none [] s = some (.int j)) hc).2
theorem own_elR {args : Array Value} {s : State} {t u : Term} {a b : Addr} {cl : Cell} {j : Int32} {i : Nat} (ev : t.eval args s none [] s = some (.ref a)) (eu : u.eval args s none [] s = some (.ref b)) (hc : s.heap[a]? = some cl) (h : (Cond.eq (.elem t (.int j)) u).value args s none s [] = some true) (hj : j.toNatClampNeg = i) : cl.slots[i]? = some (.ref b) := by
  subst hj
  exact (elem_in (own_eqR eu h) ev (rfl : (Term.int j).eval args s none [] s = some (.int j)) hc).2
theorem own_len {args : Array Value} {s : State} {t : Term} {a : Addr} {cl : Cell} {ty : FieldType} {k : Int32} (ev : t.eval args s none [] s = some (.ref a)) (A : Arr s s.heap a cl ty) (h : (Cond.eq (.length t) (.int k)).value args s none s [] = some true) : cl.slots.size < 2 ^ 31 ∧ cl.slots.size.toInt32 = k := by
  obtain ⟨u, v, h1, h2, -, k2⟩ := cmp_v (Or.inl h)
  have e2 : (Term.int k).eval args s none [] s = some (.int k) := rfl
  cases e2.symm.trans h2
  obtain ⟨z, rfl⟩ := k2
  have q : z = k := by simpa [Cond.value, h1, e2] using h
  subst q
  have ha := A.fin (Vm.Alike.refl _)
  simp only [Term.eval, ev, ha, Option.bind_eq_bind, Option.bind_some] at h1
  split at h1
  · rename_i q
    exact ⟨q, by simpa using h1⟩
  · cases h1
def World (Z : State) (h : Heap) (wTRUE : Addr) (wUNKNOWN : Addr) (wFALSE : Addr) : Prop := Sta Z h "com/example/turtlehead/turtlehead/Truth" "TRUE" "Lcom/example/turtlehead/turtlehead/Truth;" (.ref wTRUE) ∧ Exa Z h wTRUE "com/example/turtlehead/turtlehead/Truth" ∧ Sta Z h "com/example/turtlehead/turtlehead/Truth" "UNKNOWN" "Lcom/example/turtlehead/turtlehead/Truth;" (.ref wUNKNOWN) ∧ Exa Z h wUNKNOWN "com/example/turtlehead/turtlehead/Truth" ∧ Sta Z h "com/example/turtlehead/turtlehead/Truth" "FALSE" "Lcom/example/turtlehead/turtlehead/Truth;" (.ref wFALSE) ∧ Exa Z h wFALSE "com/example/turtlehead/turtlehead/Truth" ∧ Fld Z h wFALSE "java/lang/Enum" "ordinal" "I" (.int (1 : Int32)) ∧ Fld Z h wTRUE "java/lang/Enum" "ordinal" "I" (.int (0 : Int32)) ∧ Fld Z h wUNKNOWN "java/lang/Enum" "ordinal" "I" (.int (2 : Int32)) ∧ True
theorem World.ext {Z : State} {h h' : Heap} {wTRUE : Addr} {wUNKNOWN : Addr} {wFALSE : Addr} (W : World Z h wTRUE wUNKNOWN wFALSE) (E : Ext h h') : World Z h' wTRUE wUNKNOWN wFALSE := by
  obtain ⟨STRUE, ETRUE, SUNKNOWN, EUNKNOWN, SFALSE, EFALSE, FFALSE_ordinal, FTRUE_ordinal, FUNKNOWN_ordinal, -⟩ := W
  exact ⟨STRUE.ext E, ETRUE.ext E, SUNKNOWN.ext E, EUNKNOWN.ext E, SFALSE.ext E, EFALSE.ext E, FFALSE_ordinal.ext E, FTRUE_ordinal.ext E, FUNKNOWN_ordinal.ext E, trivial⟩
theorem d1_0 : decode method_2_code 0 = .ok (.iload_n 0, 1) := by decide +kernel
theorem d1_1 : decode method_2_code 1 = .ok (.ifCond .ne 7, 3) := by decide +kernel
theorem d1_4 : decode method_2_code 4 = .ok (.getstatic 7, 3) := by decide +kernel
theorem d1_7 : decode method_2_code 7 = .ok (.areturn, 1) := by decide +kernel
theorem d1_8 : decode method_2_code 8 = .ok (.iload_n 0, 1) := by decide +kernel
theorem d1_9 : decode method_2_code 9 = .ok (.iconst 1, 1) := by decide +kernel
theorem d1_10 : decode method_2_code 10 = .ok (.if_icmp .ne 7, 3) := by decide +kernel
theorem d1_13 : decode method_2_code 13 = .ok (.getstatic 13, 3) := by decide +kernel
theorem d1_16 : decode method_2_code 16 = .ok (.areturn, 1) := by decide +kernel
theorem d1_17 : decode method_2_code 17 = .ok (.getstatic 16, 3) := by decide +kernel
theorem d1_20 : decode method_2_code 20 = .ok (.areturn, 1) := by decide +kernel
theorem pn_0 : plainName "com/example/turtlehead/turtlehead/TruthNotPinLaw" = true := by first | (simp [plainName, overriddenIn]; done) | decide +kernel
def f1 (p0 : Int32) (wTRUE : Addr) (wUNKNOWN : Addr) (wFALSE : Addr) : Addr := if p0 = (0 : Int32) then wTRUE else if p0 = (1 : Int32) then wFALSE else wUNKNOWN
theorem ef_1 (m : MethodId) (p0 : Int32) : entryFrame m #[(.int p0)] 1 = mkF m 0 #[.val (.int p0)] [] := by first | (simp [entryFrame, mkF, argsToLocals, Value.category]; done) | rfl
def Q1 (Z : State) (p0 : Int32) (wTRUE : Addr) (wUNKNOWN : Addr) (wFALSE : Addr) (h0 : Heap) (n0 : Nat) (v : Option Value) (h : Heap) (L : List Loc) : Prop := v = some (.ref (f1 p0 wTRUE wUNKNOWN wFALSE)) ∧ Fr n0 L ∧ h = h0
set_option maxRecDepth 65536 in
set_option maxHeartbeats 40000000 in
theorem rm1 (l : Launch) (Z : State) (a0 : Array Value) (hw : ∀ d ∈ tables_1, d.before a0 Z = true) (ws : List Jvm.Cond) (p0 : Int32) (wTRUE : Addr) (wUNKNOWN : Addr) (wFALSE : Addr) (h0 : Heap) (n0 : Nat) (Z0 : n0 ≤ h0.size) (W0 : World Z h0 wTRUE wUNKNOWN wFALSE) :
    MetFree l (⟨"com/example/turtlehead/turtlehead/TruthNotPinLaw", "pick", "(I)Lcom/example/turtlehead/turtlehead/Truth;"⟩ : MethodName) (head1 (Jvm.Cond.code (⟨"com/example/turtlehead/turtlehead/TruthNotPinLaw", "pick", "(I)Lcom/example/turtlehead/turtlehead/Truth;"⟩ : MethodName) method_2_code 1 (some (.object "com/example/turtlehead/turtlehead/Truth")) :: ws) ({ frames := 0, cells := 0, slots := 0, locals := 0 } : Room)) (fun a U => a = #[(.int p0)] ∧ Z.Warmed39 U.vm ∧ U.heap = h0) (fun _ _ _ _ _ => True) (fun _ U o U' => ∃ v L, o = .returned v ∧ Q1 Z p0 wTRUE wUNKNOWN wFALSE h0 n0 v U'.heap L ∧ FrameEnd U o U' L ({ frames := 0, cells := 0, slots := 0, locals := 0 } : Room).cells ({ frames := 0, cells := 0, slots := 0, locals := 0 } : Room).slots) := by
  refine MetFree.of_bodySF (plainFor_of_name pn_0) hisR ?_
  intro p e s m args below meth c s₁ Bd hml0 hP hK
  obtain ⟨rfl, hZ, hh⟩ := hP
  have hx := Bd.exec
  have hby := Bd.bytes
  have hml : c.maxLocals = 1 := hml0
  have hown : s.vm.findClass "com/example/turtlehead/turtlehead/TruthNotPinLaw" = some m.cls := findClass_of_methodNamed Bd.named
  have X0 : Stand p l e ({ frames := 0, cells := 0, slots := 0, locals := 0 } : Room) s m #[(.int p0)] below meth c s₁ [] 0 0 := Stand.of_body Bd
  have e0 : s₁.heap = h0 := by rw [← hh, Bd.state]; rfl
  have N0 := Fr.nil n0
  have W1 := W0
  obtain ⟨STRUE, ETRUE, SUNKNOWN, EUNKNOWN, SFALSE, EFALSE, FFALSE_ordinal, FTRUE_ordinal, FUNKNOWN_ordinal, -⟩ := W1
  have pre0 : ∀ t, Steps p.tables e below (s₁.setTop (mkF m 0 #[.val (.int p0)] [])) t → Steps p.tables e below (s₁.setTop (entryFrame m #[(.int p0)] 1)) t := fun t k => castTop (ef_1 m p0) k
  have k1 : ∀ t, Steps p.tables e below (s₁.setTop (mkF m 1 #[.val (.int p0)] [(.int p0)])) t → Steps p.tables e below (s₁.setTop (entryFrame m #[(.int p0)] 1)) t := fun t kt => pre0 t (by
    show Steps p.tables e below (s₁.setTop (mkF m 0 #[.val (.int p0)] [])) _
    refine XS.iloadN X0.here hx rfl (hb hby d1_0) rfl ?_
    exact kt)
  by_cases hc2 : p0 = (0 : Int32)
  · obtain ⟨T3, X3, e3, st3⟩ := getS2 X0 hx hZ hown (host := "") (Or.inl (hw _ (List.mem_of_getElem? (i := 5) rfl))) Via.refl e0 STRUE (g := (mkF m 4 #[.val (.int p0)] [])) rfl (hb hby d1_4)
    obtain ⟨fs, hr, hrun, hended, hW, hsame⟩ := X3.leave (v := some (.ref wTRUE)) (fun h => by rw [Bd.returns] at h; cases h)
    refine ⟨_, _, k1 _ ?_, hrun, hended, _, _, rfl, ?_, ⟨_, rfl⟩, hW, hsame.mono (by decide) (by decide)⟩
    · show Steps p.tables e below (s₁.setTop (mkF m 1 #[.val (.int p0)] [(.int p0)])) _
      refine XS.ifNo X0.here hx rfl (hb hby d1_1) rfl ((if0 _ _).trans (teq (hc2 : p0 = (0 : Int32))).2) ?_
      show Steps p.tables e below (s₁.setTop (mkF m 4 #[.val (.int p0)] [])) _
      refine st3 _ ?_
      show Steps p.tables e below (T3.setTop (mkF m 7 #[.val (.int p0)] [(.ref wTRUE)])) _
      exact own_retA X3 hx Bd.returns rfl rfl (hb hby d1_7) hr
    · show Q1 Z p0 wTRUE wUNKNOWN wFALSE h0 n0 _ T3.heap _
      rw [e3]
      exact ⟨by rw [f1, if_pos hc2], N0, rfl⟩
  · have k4 : ∀ t, Steps p.tables e below (s₁.setTop (mkF m 10 #[.val (.int p0)] [(.int (1 : Int32)), (.int p0)])) t → Steps p.tables e below (s₁.setTop (entryFrame m #[(.int p0)] 1)) t := fun t kt => k1 t (by
      show Steps p.tables e below (s₁.setTop (mkF m 1 #[.val (.int p0)] [(.int p0)])) _
      refine XS.ifYes X0.here hx rfl (pc0 := 1) (pc' := 8) rfl (hb hby d1_1) rfl ((if0 _ _).trans (feq (hc2 : ¬ (p0 = (0 : Int32)))).2) (by decide) (by decide) ?_
      show Steps p.tables e below (s₁.setTop (mkF m 8 #[.val (.int p0)] [])) _
      refine XS.iloadN X0.here hx rfl (hb hby d1_8) rfl ?_
      show Steps p.tables e below (s₁.setTop (mkF m 9 #[.val (.int p0)] [(.int p0)])) _
      refine XS.iconst X0.here hx rfl (hb hby d1_9) ?_
      exact kt)
    by_cases hc5 : p0 = (1 : Int32)
    · obtain ⟨T6, X6, e6, st6⟩ := getS2 X0 hx hZ hown (host := "") (Or.inl (hw _ (List.mem_of_getElem? (i := 21) rfl))) Via.refl e0 SFALSE (g := (mkF m 13 #[.val (.int p0)] [])) rfl (hb hby d1_13)
      obtain ⟨fs, hr, hrun, hended, hW, hsame⟩ := X6.leave (v := some (.ref wFALSE)) (fun h => by rw [Bd.returns] at h; cases h)
      refine ⟨_, _, k4 _ ?_, hrun, hended, _, _, rfl, ?_, ⟨_, rfl⟩, hW, hsame.mono (by decide) (by decide)⟩
      · show Steps p.tables e below (s₁.setTop (mkF m 10 #[.val (.int p0)] [(.int (1 : Int32)), (.int p0)])) _
        refine XS.icmpNo X0.here hx rfl (hb hby d1_10) rfl (teq (hc5 : p0 = (1 : Int32))).2 ?_
        show Steps p.tables e below (s₁.setTop (mkF m 13 #[.val (.int p0)] [])) _
        refine st6 _ ?_
        show Steps p.tables e below (T6.setTop (mkF m 16 #[.val (.int p0)] [(.ref wFALSE)])) _
        exact own_retA X6 hx Bd.returns rfl rfl (hb hby d1_16) hr
      · show Q1 Z p0 wTRUE wUNKNOWN wFALSE h0 n0 _ T6.heap _
        rw [e6]
        exact ⟨by rw [f1, if_neg hc2, if_pos hc5], N0, rfl⟩
    · obtain ⟨T7, X7, e7, st7⟩ := getS2 X0 hx hZ hown (host := "") (Or.inl (hw _ (List.mem_of_getElem? (i := 22) rfl))) Via.refl e0 SUNKNOWN (g := (mkF m 17 #[.val (.int p0)] [])) rfl (hb hby d1_17)
      obtain ⟨fs, hr, hrun, hended, hW, hsame⟩ := X7.leave (v := some (.ref wUNKNOWN)) (fun h => by rw [Bd.returns] at h; cases h)
      refine ⟨_, _, k4 _ ?_, hrun, hended, _, _, rfl, ?_, ⟨_, rfl⟩, hW, hsame.mono (by decide) (by decide)⟩
      · show Steps p.tables e below (s₁.setTop (mkF m 10 #[.val (.int p0)] [(.int (1 : Int32)), (.int p0)])) _
        refine XS.icmpYes X0.here hx rfl (pc0 := 10) (pc' := 17) rfl (hb hby d1_10) rfl (feq (hc5 : ¬ (p0 = (1 : Int32)))).2 (by decide) (by decide) ?_
        show Steps p.tables e below (s₁.setTop (mkF m 17 #[.val (.int p0)] [])) _
        refine st7 _ ?_
        show Steps p.tables e below (T7.setTop (mkF m 20 #[.val (.int p0)] [(.ref wUNKNOWN)])) _
        exact own_retA X7 hx Bd.returns rfl rfl (hb hby d1_20) hr
      · show Q1 Z p0 wTRUE wUNKNOWN wFALSE h0 n0 _ T7.heap _
        rw [e7]
        exact ⟨by rw [f1, if_neg hc2, if_neg hc5], N0, rfl⟩
theorem d2_0 : decode prog_105_method_5_code 0 = .ok (.getstatic 10, 3) := by decide +kernel
theorem d2_3 : decode prog_105_method_5_code 3 = .ok (.astore_n 1, 1) := by decide +kernel
theorem d2_4 : decode prog_105_method_5_code 4 = .ok (.aload_n 0, 1) := by decide +kernel
theorem d2_5 : decode prog_105_method_5_code 5 = .ok (.getstatic 3, 3) := by decide +kernel
theorem d2_8 : decode prog_105_method_5_code 8 = .ok (.if_acmp .ne 10, 3) := by decide +kernel
theorem d2_11 : decode prog_105_method_5_code 11 = .ok (.getstatic 7, 3) := by decide +kernel
theorem d2_14 : decode prog_105_method_5_code 14 = .ok (.astore_n 1, 1) := by decide +kernel
theorem d2_15 : decode prog_105_method_5_code 15 = .ok (.goto 14, 3) := by decide +kernel
theorem d2_29 : decode prog_105_method_5_code 29 = .ok (.aload_n 1, 1) := by decide +kernel
theorem d2_30 : decode prog_105_method_5_code 30 = .ok (.areturn, 1) := by decide +kernel
theorem d2_18 : decode prog_105_method_5_code 18 = .ok (.aload_n 0, 1) := by decide +kernel
theorem d2_19 : decode prog_105_method_5_code 19 = .ok (.getstatic 7, 3) := by decide +kernel
theorem d2_22 : decode prog_105_method_5_code 22 = .ok (.if_acmp .ne 7, 3) := by decide +kernel
theorem d2_25 : decode prog_105_method_5_code 25 = .ok (.getstatic 3, 3) := by decide +kernel
theorem d2_28 : decode prog_105_method_5_code 28 = .ok (.astore_n 1, 1) := by decide +kernel
theorem pn_1 : plainName "com/example/turtlehead/turtlehead/Truth" = true := by first | (simp [plainName, overriddenIn]; done) | decide +kernel
def f2 (p0 : Addr) (wTRUE : Addr) (wUNKNOWN : Addr) (wFALSE : Addr) : Addr := if p0 = wTRUE then wFALSE else if p0 = wFALSE then wTRUE else wUNKNOWN
theorem ef_2 (m : MethodId) (p0 : Addr) : entryFrame m #[(.ref p0)] 2 = mkF m 0 #[.val (.ref p0), .unset] [] := by first | (simp [entryFrame, mkF, argsToLocals, Value.category]; done) | rfl
def Q2 (Z : State) (p0 : Addr) (wTRUE : Addr) (wUNKNOWN : Addr) (wFALSE : Addr) (h0 : Heap) (n0 : Nat) (v : Option Value) (h : Heap) (L : List Loc) : Prop := v = some (.ref (f2 p0 wTRUE wUNKNOWN wFALSE)) ∧ Fr n0 L ∧ h = h0
set_option maxRecDepth 65536 in
set_option maxHeartbeats 40000000 in
theorem rm2 (l : Launch) (Z : State) (a0 : Array Value) (hw : ∀ d ∈ tables_1, d.before a0 Z = true) (ws : List Jvm.Cond) (p0 : Addr) (wTRUE : Addr) (wUNKNOWN : Addr) (wFALSE : Addr) (h0 : Heap) (n0 : Nat) (Z0 : n0 ≤ h0.size) (W0 : World Z h0 wTRUE wUNKNOWN wFALSE) :
    MetFree l (⟨"com/example/turtlehead/turtlehead/Truth", "not", "()Lcom/example/turtlehead/turtlehead/Truth;"⟩ : MethodName) (head1 (Jvm.Cond.code (⟨"com/example/turtlehead/turtlehead/Truth", "not", "()Lcom/example/turtlehead/turtlehead/Truth;"⟩ : MethodName) prog_105_method_5_code 2 (some (.object "com/example/turtlehead/turtlehead/Truth")) :: ws) ({ frames := 0, cells := 0, slots := 0, locals := 0 } : Room)) (fun a U => a = #[(.ref p0)] ∧ Z.Warmed39 U.vm ∧ U.heap = h0) (fun _ _ _ _ _ => True) (fun _ U o U' => ∃ v L, o = .returned v ∧ Q2 Z p0 wTRUE wUNKNOWN wFALSE h0 n0 v U'.heap L ∧ FrameEnd U o U' L ({ frames := 0, cells := 0, slots := 0, locals := 0 } : Room).cells ({ frames := 0, cells := 0, slots := 0, locals := 0 } : Room).slots) := by
  refine MetFree.of_bodySF (plainFor_of_name pn_1) hisR ?_
  intro p e s m args below meth c s₁ Bd hml0 hP hK
  obtain ⟨rfl, hZ, hh⟩ := hP
  have hx := Bd.exec
  have hby := Bd.bytes
  have hml : c.maxLocals = 2 := hml0
  have hown : s.vm.findClass "com/example/turtlehead/turtlehead/Truth" = some m.cls := findClass_of_methodNamed Bd.named
  have X0 : Stand p l e ({ frames := 0, cells := 0, slots := 0, locals := 0 } : Room) s m #[(.ref p0)] below meth c s₁ [] 0 0 := Stand.of_body Bd
  have e0 : s₁.heap = h0 := by rw [← hh, Bd.state]; rfl
  have N0 := Fr.nil n0
  have W1 := W0
  obtain ⟨STRUE, ETRUE, SUNKNOWN, EUNKNOWN, SFALSE, EFALSE, FFALSE_ordinal, FTRUE_ordinal, FUNKNOWN_ordinal, -⟩ := W1
  have pre0 : ∀ t, Steps p.tables e below (s₁.setTop (mkF m 0 #[.val (.ref p0), .unset] [])) t → Steps p.tables e below (s₁.setTop (entryFrame m #[(.ref p0)] 2)) t := fun t k => castTop (ef_2 m p0) k
  obtain ⟨T8, X8, e8, st8⟩ := getS2 X0 hx hZ hown (host := "") (Or.inl (hw _ (List.mem_of_getElem? (i := 13) rfl))) Via.refl e0 SUNKNOWN (g := (mkF m 0 #[.val (.ref p0), .unset] [])) rfl (hb hby d2_0)
  obtain ⟨T9, X9, e9, st9⟩ := getS2 X8 hx hZ hown (host := "") (Or.inl (hw _ (List.mem_of_getElem? (i := 15) rfl))) Via.refl e8 STRUE (g := (mkF m 5 #[.val (.ref p0), .val (.ref wUNKNOWN)] [(.ref p0)])) rfl (hb hby d2_5)
  have k10 : ∀ t, Steps p.tables e below (T9.setTop (mkF m 8 #[.val (.ref p0), .val (.ref wUNKNOWN)] [(.ref wTRUE), (.ref p0)])) t → Steps p.tables e below (s₁.setTop (entryFrame m #[(.ref p0)] 2)) t := fun t kt => pre0 t (by
    show Steps p.tables e below (s₁.setTop (mkF m 0 #[.val (.ref p0), .unset] [])) _
    refine st8 _ ?_
    show Steps p.tables e below (T8.setTop (mkF m 3 #[.val (.ref p0), .unset] [(.ref wUNKNOWN)])) _
    refine XS.astoreN X8.here hx rfl (hb hby d2_3) rfl rfl (l' := #[.val (.ref p0), .val (.ref wUNKNOWN)]) rfl ?_
    show Steps p.tables e below (T8.setTop (mkF m 4 #[.val (.ref p0), .val (.ref wUNKNOWN)] [])) _
    refine XS.aloadN X8.here hx rfl (hb hby d2_4) rfl rfl ?_
    show Steps p.tables e below (T8.setTop (mkF m 5 #[.val (.ref p0), .val (.ref wUNKNOWN)] [(.ref p0)])) _
    refine st9 _ ?_
    exact kt)
  by_cases hc11 : p0 = wTRUE
  · obtain ⟨T12, X12, e12, st12⟩ := getS2 X9 hx hZ hown (host := "") (Or.inl (hw _ (List.mem_of_getElem? (i := 16) rfl))) Via.refl e9 SFALSE (g := (mkF m 11 #[.val (.ref p0), .val (.ref wUNKNOWN)] [])) rfl (hb hby d2_11)
    obtain ⟨fs, hr, hrun, hended, hW, hsame⟩ := X12.leave (v := some (.ref wFALSE)) (fun h => by rw [Bd.returns] at h; cases h)
    refine ⟨_, _, k10 _ ?_, hrun, hended, _, _, rfl, ?_, ⟨_, rfl⟩, hW, hsame.mono (by decide) (by decide)⟩
    · show Steps p.tables e below (T9.setTop (mkF m 8 #[.val (.ref p0), .val (.ref wUNKNOWN)] [(.ref wTRUE), (.ref p0)])) _
      refine Jvm.RoadKit.acmp (g := (mkF m 8 #[.val (.ref p0), .val (.ref wUNKNOWN)] [(.ref wTRUE), (.ref p0)])) X9 hx rfl rfl rfl (pc0 := 8) (pc' := 11) (same := true) rfl (hb hby d2_8) rfl (decide_eq_true (congrArg Value.ref (hc11 : p0 = wTRUE))) (by decide) (by decide) ?_
      show Steps p.tables e below (T9.setTop (mkF m 11 #[.val (.ref p0), .val (.ref wUNKNOWN)] [])) _
      refine st12 _ ?_
      show Steps p.tables e below (T12.setTop (mkF m 14 #[.val (.ref p0), .val (.ref wUNKNOWN)] [(.ref wFALSE)])) _
      refine XS.astoreN X12.here hx rfl (hb hby d2_14) rfl rfl (l' := #[.val (.ref p0), .val (.ref wFALSE)]) rfl ?_
      show Steps p.tables e below (T12.setTop (mkF m 15 #[.val (.ref p0), .val (.ref wFALSE)] [])) _
      refine XS.goto X12.here hx rfl (pc0 := 15) (pc' := 29) rfl (hb hby d2_15) (by decide) (by decide) ?_
      show Steps p.tables e below (T12.setTop (mkF m 29 #[.val (.ref p0), .val (.ref wFALSE)] [])) _
      refine XS.aloadN X12.here hx rfl (hb hby d2_29) rfl rfl ?_
      show Steps p.tables e below (T12.setTop (mkF m 30 #[.val (.ref p0), .val (.ref wFALSE)] [(.ref wFALSE)])) _
      exact own_retA X12 hx Bd.returns rfl rfl (hb hby d2_30) hr
    · show Q2 Z p0 wTRUE wUNKNOWN wFALSE h0 n0 _ T12.heap _
      rw [e12]
      exact ⟨by rw [f2, if_pos hc11], N0, rfl⟩
  · obtain ⟨T13, X13, e13, st13⟩ := getS2 X9 hx hZ hown (host := "") (Or.inl (hw _ (List.mem_of_getElem? (i := 16) rfl))) Via.refl e9 SFALSE (g := (mkF m 19 #[.val (.ref p0), .val (.ref wUNKNOWN)] [(.ref p0)])) rfl (hb hby d2_19)
    have k14 : ∀ t, Steps p.tables e below (T13.setTop (mkF m 22 #[.val (.ref p0), .val (.ref wUNKNOWN)] [(.ref wFALSE), (.ref p0)])) t → Steps p.tables e below (s₁.setTop (entryFrame m #[(.ref p0)] 2)) t := fun t kt => k10 t (by
      show Steps p.tables e below (T9.setTop (mkF m 8 #[.val (.ref p0), .val (.ref wUNKNOWN)] [(.ref wTRUE), (.ref p0)])) _
      refine Jvm.RoadKit.acmp (g := (mkF m 8 #[.val (.ref p0), .val (.ref wUNKNOWN)] [(.ref wTRUE), (.ref p0)])) X9 hx rfl rfl rfl (pc0 := 8) (pc' := 18) (same := false) rfl (hb hby d2_8) rfl (decide_eq_false fun q => (hc11 : ¬ (p0 = wTRUE)) (Value.ref.inj q)) (by decide) (by decide) ?_
      show Steps p.tables e below (T9.setTop (mkF m 18 #[.val (.ref p0), .val (.ref wUNKNOWN)] [])) _
      refine XS.aloadN X9.here hx rfl (hb hby d2_18) rfl rfl ?_
      show Steps p.tables e below (T9.setTop (mkF m 19 #[.val (.ref p0), .val (.ref wUNKNOWN)] [(.ref p0)])) _
      refine st13 _ ?_
      exact kt)
    by_cases hc15 : p0 = wFALSE
    · obtain ⟨T16, X16, e16, st16⟩ := getS2 X13 hx hZ hown (host := "") (Or.inl (hw _ (List.mem_of_getElem? (i := 15) rfl))) Via.refl e13 STRUE (g := (mkF m 25 #[.val (.ref p0), .val (.ref wUNKNOWN)] [])) rfl (hb hby d2_25)
      obtain ⟨fs, hr, hrun, hended, hW, hsame⟩ := X16.leave (v := some (.ref wTRUE)) (fun h => by rw [Bd.returns] at h; cases h)
      refine ⟨_, _, k14 _ ?_, hrun, hended, _, _, rfl, ?_, ⟨_, rfl⟩, hW, hsame.mono (by decide) (by decide)⟩
      · show Steps p.tables e below (T13.setTop (mkF m 22 #[.val (.ref p0), .val (.ref wUNKNOWN)] [(.ref wFALSE), (.ref p0)])) _
        refine Jvm.RoadKit.acmp (g := (mkF m 22 #[.val (.ref p0), .val (.ref wUNKNOWN)] [(.ref wFALSE), (.ref p0)])) X13 hx rfl rfl rfl (pc0 := 22) (pc' := 25) (same := true) rfl (hb hby d2_22) rfl (decide_eq_true (congrArg Value.ref (hc15 : p0 = wFALSE))) (by decide) (by decide) ?_
        show Steps p.tables e below (T13.setTop (mkF m 25 #[.val (.ref p0), .val (.ref wUNKNOWN)] [])) _
        refine st16 _ ?_
        show Steps p.tables e below (T16.setTop (mkF m 28 #[.val (.ref p0), .val (.ref wUNKNOWN)] [(.ref wTRUE)])) _
        refine XS.astoreN X16.here hx rfl (hb hby d2_28) rfl rfl (l' := #[.val (.ref p0), .val (.ref wTRUE)]) rfl ?_
        show Steps p.tables e below (T16.setTop (mkF m 29 #[.val (.ref p0), .val (.ref wTRUE)] [])) _
        refine XS.aloadN X16.here hx rfl (hb hby d2_29) rfl rfl ?_
        show Steps p.tables e below (T16.setTop (mkF m 30 #[.val (.ref p0), .val (.ref wTRUE)] [(.ref wTRUE)])) _
        exact own_retA X16 hx Bd.returns rfl rfl (hb hby d2_30) hr
      · show Q2 Z p0 wTRUE wUNKNOWN wFALSE h0 n0 _ T16.heap _
        rw [e16]
        exact ⟨by rw [f2, if_neg hc11, if_pos hc15], N0, rfl⟩
    · obtain ⟨fs, hr, hrun, hended, hW, hsame⟩ := X13.leave (v := some (.ref wUNKNOWN)) (fun h => by rw [Bd.returns] at h; cases h)
      refine ⟨_, _, k14 _ ?_, hrun, hended, _, _, rfl, ?_, ⟨_, rfl⟩, hW, hsame.mono (by decide) (by decide)⟩
      · show Steps p.tables e below (T13.setTop (mkF m 22 #[.val (.ref p0), .val (.ref wUNKNOWN)] [(.ref wFALSE), (.ref p0)])) _
        refine Jvm.RoadKit.acmp (g := (mkF m 22 #[.val (.ref p0), .val (.ref wUNKNOWN)] [(.ref wFALSE), (.ref p0)])) X13 hx rfl rfl rfl (pc0 := 22) (pc' := 29) (same := false) rfl (hb hby d2_22) rfl (decide_eq_false fun q => (hc15 : ¬ (p0 = wFALSE)) (Value.ref.inj q)) (by decide) (by decide) ?_
        show Steps p.tables e below (T13.setTop (mkF m 29 #[.val (.ref p0), .val (.ref wUNKNOWN)] [])) _
        refine XS.aloadN X13.here hx rfl (hb hby d2_29) rfl rfl ?_
        show Steps p.tables e below (T13.setTop (mkF m 30 #[.val (.ref p0), .val (.ref wUNKNOWN)] [(.ref wUNKNOWN)])) _
        exact own_retA X13 hx Bd.returns rfl rfl (hb hby d2_30) hr
      · show Q2 Z p0 wTRUE wUNKNOWN wFALSE h0 n0 _ T13.heap _
        rw [e13]
        exact ⟨by rw [f2, if_neg hc11, if_neg hc15], N0, rfl⟩
theorem d3_0 : decode method_3_code 0 = .ok (.iload_n 0, 1) := by decide +kernel
theorem d3_1 : decode method_3_code 1 = .ok (.ifCond .ne 7, 3) := by decide +kernel
theorem d3_4 : decode method_3_code 4 = .ok (.getstatic 13, 3) := by decide +kernel
theorem d3_7 : decode method_3_code 7 = .ok (.areturn, 1) := by decide +kernel
theorem d3_8 : decode method_3_code 8 = .ok (.iload_n 0, 1) := by decide +kernel
theorem d3_9 : decode method_3_code 9 = .ok (.iconst 1, 1) := by decide +kernel
theorem d3_10 : decode method_3_code 10 = .ok (.if_icmp .ne 7, 3) := by decide +kernel
theorem d3_13 : decode method_3_code 13 = .ok (.getstatic 7, 3) := by decide +kernel
theorem d3_16 : decode method_3_code 16 = .ok (.areturn, 1) := by decide +kernel
theorem d3_17 : decode method_3_code 17 = .ok (.getstatic 16, 3) := by decide +kernel
theorem d3_20 : decode method_3_code 20 = .ok (.areturn, 1) := by decide +kernel
def f3 (p0 : Int32) (wTRUE : Addr) (wUNKNOWN : Addr) (wFALSE : Addr) : Addr := if p0 = (0 : Int32) then wFALSE else if p0 = (1 : Int32) then wTRUE else wUNKNOWN
theorem ef_3 (m : MethodId) (p0 : Int32) : entryFrame m #[(.int p0)] 1 = mkF m 0 #[.val (.int p0)] [] := by first | (simp [entryFrame, mkF, argsToLocals, Value.category]; done) | rfl
def Q3 (Z : State) (p0 : Int32) (wTRUE : Addr) (wUNKNOWN : Addr) (wFALSE : Addr) (h0 : Heap) (n0 : Nat) (v : Option Value) (h : Heap) (L : List Loc) : Prop := v = some (.ref (f3 p0 wTRUE wUNKNOWN wFALSE)) ∧ Fr n0 L ∧ h = h0
set_option maxRecDepth 65536 in
set_option maxHeartbeats 40000000 in
theorem rm3 (l : Launch) (Z : State) (a0 : Array Value) (hw : ∀ d ∈ tables_1, d.before a0 Z = true) (ws : List Jvm.Cond) (p0 : Int32) (wTRUE : Addr) (wUNKNOWN : Addr) (wFALSE : Addr) (h0 : Heap) (n0 : Nat) (Z0 : n0 ≤ h0.size) (W0 : World Z h0 wTRUE wUNKNOWN wFALSE) :
    MetFree l (⟨"com/example/turtlehead/turtlehead/TruthNotPinLaw", "expectedNot", "(I)Lcom/example/turtlehead/turtlehead/Truth;"⟩ : MethodName) (head1 (Jvm.Cond.code (⟨"com/example/turtlehead/turtlehead/TruthNotPinLaw", "expectedNot", "(I)Lcom/example/turtlehead/turtlehead/Truth;"⟩ : MethodName) method_3_code 1 (some (.object "com/example/turtlehead/turtlehead/Truth")) :: ws) ({ frames := 0, cells := 0, slots := 0, locals := 0 } : Room)) (fun a U => a = #[(.int p0)] ∧ Z.Warmed39 U.vm ∧ U.heap = h0) (fun _ _ _ _ _ => True) (fun _ U o U' => ∃ v L, o = .returned v ∧ Q3 Z p0 wTRUE wUNKNOWN wFALSE h0 n0 v U'.heap L ∧ FrameEnd U o U' L ({ frames := 0, cells := 0, slots := 0, locals := 0 } : Room).cells ({ frames := 0, cells := 0, slots := 0, locals := 0 } : Room).slots) := by
  refine MetFree.of_bodySF (plainFor_of_name pn_0) hisR ?_
  intro p e s m args below meth c s₁ Bd hml0 hP hK
  obtain ⟨rfl, hZ, hh⟩ := hP
  have hx := Bd.exec
  have hby := Bd.bytes
  have hml : c.maxLocals = 1 := hml0
  have hown : s.vm.findClass "com/example/turtlehead/turtlehead/TruthNotPinLaw" = some m.cls := findClass_of_methodNamed Bd.named
  have X0 : Stand p l e ({ frames := 0, cells := 0, slots := 0, locals := 0 } : Room) s m #[(.int p0)] below meth c s₁ [] 0 0 := Stand.of_body Bd
  have e0 : s₁.heap = h0 := by rw [← hh, Bd.state]; rfl
  have N0 := Fr.nil n0
  have W1 := W0
  obtain ⟨STRUE, ETRUE, SUNKNOWN, EUNKNOWN, SFALSE, EFALSE, FFALSE_ordinal, FTRUE_ordinal, FUNKNOWN_ordinal, -⟩ := W1
  have pre0 : ∀ t, Steps p.tables e below (s₁.setTop (mkF m 0 #[.val (.int p0)] [])) t → Steps p.tables e below (s₁.setTop (entryFrame m #[(.int p0)] 1)) t := fun t k => castTop (ef_3 m p0) k
  have k17 : ∀ t, Steps p.tables e below (s₁.setTop (mkF m 1 #[.val (.int p0)] [(.int p0)])) t → Steps p.tables e below (s₁.setTop (entryFrame m #[(.int p0)] 1)) t := fun t kt => pre0 t (by
    show Steps p.tables e below (s₁.setTop (mkF m 0 #[.val (.int p0)] [])) _
    refine XS.iloadN X0.here hx rfl (hb hby d3_0) rfl ?_
    exact kt)
  by_cases hc18 : p0 = (0 : Int32)
  · obtain ⟨T19, X19, e19, st19⟩ := getS2 X0 hx hZ hown (host := "") (Or.inl (hw _ (List.mem_of_getElem? (i := 21) rfl))) Via.refl e0 SFALSE (g := (mkF m 4 #[.val (.int p0)] [])) rfl (hb hby d3_4)
    obtain ⟨fs, hr, hrun, hended, hW, hsame⟩ := X19.leave (v := some (.ref wFALSE)) (fun h => by rw [Bd.returns] at h; cases h)
    refine ⟨_, _, k17 _ ?_, hrun, hended, _, _, rfl, ?_, ⟨_, rfl⟩, hW, hsame.mono (by decide) (by decide)⟩
    · show Steps p.tables e below (s₁.setTop (mkF m 1 #[.val (.int p0)] [(.int p0)])) _
      refine XS.ifNo X0.here hx rfl (hb hby d3_1) rfl ((if0 _ _).trans (teq (hc18 : p0 = (0 : Int32))).2) ?_
      show Steps p.tables e below (s₁.setTop (mkF m 4 #[.val (.int p0)] [])) _
      refine st19 _ ?_
      show Steps p.tables e below (T19.setTop (mkF m 7 #[.val (.int p0)] [(.ref wFALSE)])) _
      exact own_retA X19 hx Bd.returns rfl rfl (hb hby d3_7) hr
    · show Q3 Z p0 wTRUE wUNKNOWN wFALSE h0 n0 _ T19.heap _
      rw [e19]
      exact ⟨by rw [f3, if_pos hc18], N0, rfl⟩
  · have k20 : ∀ t, Steps p.tables e below (s₁.setTop (mkF m 10 #[.val (.int p0)] [(.int (1 : Int32)), (.int p0)])) t → Steps p.tables e below (s₁.setTop (entryFrame m #[(.int p0)] 1)) t := fun t kt => k17 t (by
      show Steps p.tables e below (s₁.setTop (mkF m 1 #[.val (.int p0)] [(.int p0)])) _
      refine XS.ifYes X0.here hx rfl (pc0 := 1) (pc' := 8) rfl (hb hby d3_1) rfl ((if0 _ _).trans (feq (hc18 : ¬ (p0 = (0 : Int32)))).2) (by decide) (by decide) ?_
      show Steps p.tables e below (s₁.setTop (mkF m 8 #[.val (.int p0)] [])) _
      refine XS.iloadN X0.here hx rfl (hb hby d3_8) rfl ?_
      show Steps p.tables e below (s₁.setTop (mkF m 9 #[.val (.int p0)] [(.int p0)])) _
      refine XS.iconst X0.here hx rfl (hb hby d3_9) ?_
      exact kt)
    by_cases hc21 : p0 = (1 : Int32)
    · obtain ⟨T22, X22, e22, st22⟩ := getS2 X0 hx hZ hown (host := "") (Or.inl (hw _ (List.mem_of_getElem? (i := 5) rfl))) Via.refl e0 STRUE (g := (mkF m 13 #[.val (.int p0)] [])) rfl (hb hby d3_13)
      obtain ⟨fs, hr, hrun, hended, hW, hsame⟩ := X22.leave (v := some (.ref wTRUE)) (fun h => by rw [Bd.returns] at h; cases h)
      refine ⟨_, _, k20 _ ?_, hrun, hended, _, _, rfl, ?_, ⟨_, rfl⟩, hW, hsame.mono (by decide) (by decide)⟩
      · show Steps p.tables e below (s₁.setTop (mkF m 10 #[.val (.int p0)] [(.int (1 : Int32)), (.int p0)])) _
        refine XS.icmpNo X0.here hx rfl (hb hby d3_10) rfl (teq (hc21 : p0 = (1 : Int32))).2 ?_
        show Steps p.tables e below (s₁.setTop (mkF m 13 #[.val (.int p0)] [])) _
        refine st22 _ ?_
        show Steps p.tables e below (T22.setTop (mkF m 16 #[.val (.int p0)] [(.ref wTRUE)])) _
        exact own_retA X22 hx Bd.returns rfl rfl (hb hby d3_16) hr
      · show Q3 Z p0 wTRUE wUNKNOWN wFALSE h0 n0 _ T22.heap _
        rw [e22]
        exact ⟨by rw [f3, if_neg hc18, if_pos hc21], N0, rfl⟩
    · obtain ⟨T23, X23, e23, st23⟩ := getS2 X0 hx hZ hown (host := "") (Or.inl (hw _ (List.mem_of_getElem? (i := 22) rfl))) Via.refl e0 SUNKNOWN (g := (mkF m 17 #[.val (.int p0)] [])) rfl (hb hby d3_17)
      obtain ⟨fs, hr, hrun, hended, hW, hsame⟩ := X23.leave (v := some (.ref wUNKNOWN)) (fun h => by rw [Bd.returns] at h; cases h)
      refine ⟨_, _, k20 _ ?_, hrun, hended, _, _, rfl, ?_, ⟨_, rfl⟩, hW, hsame.mono (by decide) (by decide)⟩
      · show Steps p.tables e below (s₁.setTop (mkF m 10 #[.val (.int p0)] [(.int (1 : Int32)), (.int p0)])) _
        refine XS.icmpYes X0.here hx rfl (pc0 := 10) (pc' := 17) rfl (hb hby d3_10) rfl (feq (hc21 : ¬ (p0 = (1 : Int32)))).2 (by decide) (by decide) ?_
        show Steps p.tables e below (s₁.setTop (mkF m 17 #[.val (.int p0)] [])) _
        refine st23 _ ?_
        show Steps p.tables e below (T23.setTop (mkF m 20 #[.val (.int p0)] [(.ref wUNKNOWN)])) _
        exact own_retA X23 hx Bd.returns rfl rfl (hb hby d3_20) hr
      · show Q3 Z p0 wTRUE wUNKNOWN wFALSE h0 n0 _ T23.heap _
        rw [e23]
        exact ⟨by rw [f3, if_neg hc18, if_neg hc21], N0, rfl⟩
theorem pd_0 : parseMethodDescriptor "(I)Lcom/example/turtlehead/turtlehead/Truth;" = some ⟨[.int], some (.object "com/example/turtlehead/turtlehead/Truth")⟩ := by decide +kernel
theorem pd_1 : parseMethodDescriptor "()Lcom/example/turtlehead/turtlehead/Truth;" = some ⟨[], some (.object "com/example/turtlehead/turtlehead/Truth")⟩ := by decide +kernel
theorem ef_0 (m : MethodId) (p0 : Int32) : entryFrame m #[(.int p0)] maxLocals = mkF m 0 #[.val (.int p0), .unset, .unset, .unset, .unset] [] := by first | (simp [entryFrame, mkF, argsToLocals, Value.category, maxLocals]; done) | rfl
def Q0 (Z : State) (p0 : Int32) (wTRUE : Addr) (wUNKNOWN : Addr) (wFALSE : Addr) (h0 : Heap) (n0 : Nat) (v : Option Value) (h : Heap) (L : List Loc) : Prop := v = some (.int 1) ∧ Fr n0 L
set_option maxRecDepth 65536 in
set_option maxHeartbeats 40000000 in
theorem rm0 (l : Launch) (Z : State) (a0 : Array Value) (hw : ∀ d ∈ tables_1, d.before a0 Z = true) (ws : List Jvm.Cond) (p0 : Int32) (wTRUE : Addr) (wUNKNOWN : Addr) (wFALSE : Addr) (h0 : Heap) (n0 : Nat) (Z0 : n0 ≤ h0.size) (W0 : World Z h0 wTRUE wUNKNOWN wFALSE) :
    MetFree l x (head1 (Jvm.Cond.code x code maxLocals ret :: ws) room_1) (fun a U => a = #[(.int p0)] ∧ Z.Warmed39 U.vm ∧ U.heap = h0) (fun _ _ _ _ _ => True) (fun _ U o U' => ∃ v L, o = .returned v ∧ Q0 Z p0 wTRUE wUNKNOWN wFALSE h0 n0 v U'.heap L ∧ FrameEnd U o U' L room_1.cells room_1.slots) := by
  refine MetFree.of_bodySF (plainFor_of_name pn_0) hisR ?_
  intro p e s m args below meth c s₁ Bd hml0 hP hK
  obtain ⟨rfl, hZ, hh⟩ := hP
  have hx := Bd.exec
  have hby := Bd.bytes
  have hml : c.maxLocals = 5 := hml0
  have hown : s.vm.findClass "com/example/turtlehead/turtlehead/TruthNotPinLaw" = some m.cls := findClass_of_methodNamed Bd.named
  have X0 : Stand p l e room_1 s m #[(.int p0)] below meth c s₁ [] 0 0 := Stand.of_body Bd
  have e0 : s₁.heap = h0 := by rw [← hh, Bd.state]; rfl
  have N0 := Fr.nil n0
  have W1 := W0
  obtain ⟨STRUE, ETRUE, SUNKNOWN, EUNKNOWN, SFALSE, EFALSE, FFALSE_ordinal, FTRUE_ordinal, FUNKNOWN_ordinal, -⟩ := W1
  have pre0 : ∀ t, Steps p.tables e below (s₁.setTop (mkF m 0 #[.val (.int p0), .unset, .unset, .unset, .unset] [])) t → Steps p.tables e below (s₁.setTop (entryFrame m #[(.int p0)] maxLocals)) t := fun t k => castTop (ef_0 m p0) k
  obtain ⟨i24, hi24⟩ : ∃ z, z = ((p0 &&& (2147483647 : Int32)) % (3 : Int32)) := ⟨_, rfl⟩
  obtain ⟨_, _, ⟨T25, L25, k25, n25⟩, -, X25, ⟨Lc25, hQ25, l25, y25, z25⟩, st25⟩ := Jvm.LawKit.callS X0 hx (y := (⟨"com/example/turtlehead/turtlehead/TruthNotPinLaw", "pick", "(I)Lcom/example/turtlehead/turtlehead/Truth;"⟩ : MethodName)) hown (mvT hZ (hw _ (List.mem_of_getElem? (i := 1) rfl))) (mvT hZ (hw _ (List.mem_of_getElem? (i := 2) rfl))) (mvT hZ (hw _ (List.mem_of_getElem? (i := 3) rfl))) (mvT hZ (hw _ (List.mem_of_getElem? (i := 4) rfl))) (by decide) (backOf (W := 0) (rm1 l Z a0 hw [] i24 wTRUE wUNKNOWN wFALSE h0 n0 Z0 W0 ) hZ (hw _ (List.mem_of_getElem? (i := 4) rfl)) (hw _ (List.mem_of_getElem? (i := 3) rfl)) (by decide) (by decide)) (g := (mkF m 8 #[.val (.int p0), .val (.int i24), .unset, .unset, .unset] [(.int i24)])) rfl (by rw [hml]; rfl) (argsL := [(.int i24)]) (rest := []) (lenOf pd_0 rfl) rfl (by show 2 * 0 + _ ≤ _; exact Nat.le_of_eq rfl) (hb hby at_8) (fun _ _ => ⟨rfl, e0, (by decide : 0 + 0 ≤ _), (by decide : 0 + 0 ≤ _)⟩)
  dsimp only [Pt.U, Pt.locs, Pt.cells, Pt.slots] at X25 l25 y25 z25 st25 hQ25
  subst l25 y25 z25
  unfold Q1 at hQ25
  have k26 : ∀ t, Steps p.tables e below (s₁.setTop (mkF m 8 #[.val (.int p0), .val (.int i24), .unset, .unset, .unset] [(.int i24)])) t → Steps p.tables e below (s₁.setTop (entryFrame m #[(.int p0)] maxLocals)) t := fun t kt => pre0 t (by
    show Steps p.tables e below (s₁.setTop (mkF m 0 #[.val (.int p0), .unset, .unset, .unset, .unset] [])) _
    refine XS.iloadN X0.here hx rfl (hb hby at_0) rfl ?_
    show Steps p.tables e below (s₁.setTop (mkF m 1 #[.val (.int p0), .unset, .unset, .unset, .unset] [(.int p0)])) _
    refine X0.ldcInt hx hown (mvT hZ (hw _ (List.mem_of_getElem? (i := 0) rfl))) (g := (mkF m 1 #[.val (.int p0), .unset, .unset, .unset, .unset] [(.int p0)])) rfl (hb hby at_1) _ ?_
    show Steps p.tables e below (s₁.setTop (mkF m 3 #[.val (.int p0), .unset, .unset, .unset, .unset] [(.int (2147483647 : Int32)), (.int p0)])) _
    refine XS.iand X0.here hx rfl (hb hby at_3) rfl ?_
    show Steps p.tables e below (s₁.setTop (mkF m 4 #[.val (.int p0), .unset, .unset, .unset, .unset] [(.int (p0 &&& (2147483647 : Int32)))])) _
    refine XS.iconst X0.here hx rfl (hb hby at_4) ?_
    show Steps p.tables e below (s₁.setTop (mkF m 5 #[.val (.int p0), .unset, .unset, .unset, .unset] [(.int (3 : Int32)), (.int (p0 &&& (2147483647 : Int32)))])) _
    refine iremM X0 hx rfl (hb hby at_5) rfl (by decide) ?_
    rw [← hi24]
    show Steps p.tables e below (s₁.setTop (mkF m 6 #[.val (.int p0), .unset, .unset, .unset, .unset] [(.int i24)])) _
    refine XS.istoreN X0.here hx rfl (hb hby at_6) rfl (l' := #[.val (.int p0), .val (.int i24), .unset, .unset, .unset]) rfl ?_
    show Steps p.tables e below (s₁.setTop (mkF m 7 #[.val (.int p0), .val (.int i24), .unset, .unset, .unset] [])) _
    refine XS.iloadN X0.here hx rfl (hb hby at_7) rfl ?_
    exact kt)
  by_cases hc27 : i24 = (0 : Int32)
  · rw [((by rw [f1, if_pos (hc27 : i24 = (0 : Int32))]) : (f1 i24 wTRUE wUNKNOWN wFALSE) = wTRUE)] at hQ25
    obtain ⟨rfl, N25q, e25⟩ := hQ25
    have N25 := Fr.app N0 N25q
    obtain ⟨cq28, kq28, q28a, q28b, q28c⟩ := isOf hZ e25 ETRUE
    obtain ⟨_, _, ⟨T28, L28, k28, n28⟩, -, X28, ⟨Lc28, hQ28, l28, y28, z28⟩, st28⟩ := X25.virtualBack hx (y := (⟨"com/example/turtlehead/turtlehead/Truth", "not", "()Lcom/example/turtlehead/turtlehead/Truth;"⟩ : MethodName)) (z := (⟨"com/example/turtlehead/turtlehead/Truth", "not", "()Lcom/example/turtlehead/turtlehead/Truth;"⟩ : MethodName)) hown (mvT hZ (hw _ (List.mem_of_getElem? (i := 8) rfl))) (mvT hZ (hw _ (List.mem_of_getElem? (i := 9) rfl))) (notFace_of_selects (args := #[]) (mvT hZ (hw _ (List.mem_of_getElem? (i := 11) rfl)))) (mvT hZ (hw _ (List.mem_of_getElem? (i := 11) rfl))) (mvT hZ (hw _ (List.mem_of_getElem? (i := 10) rfl))) (by decide) (backOf (W := 0) (rm2 l Z a0 hw [] wTRUE wTRUE wUNKNOWN wFALSE h0 n0 Z0 W0 ) hZ (hw _ (List.mem_of_getElem? (i := 12) rfl)) (hw _ (List.mem_of_getElem? (i := 6) rfl)) (by decide) (by decide)) q28a q28c (g := (mkF m 13 #[.val (.int p0), .val (.int i24), .val (.ref wTRUE), .unset, .unset] [(.ref wTRUE)])) rfl (by rw [hml]; rfl) (Steps.refl _) (argsL := []) (rest := []) (lenOf pd_1 rfl) rfl (by show 2 * 0 + _ ≤ _; exact Nat.le_of_eq rfl) (hb hby at_13) (fun _ _ => ⟨rfl, e25, (by decide : 0 + 0 ≤ _), (by decide : 0 + 0 ≤ _)⟩)
    dsimp only [Pt.U, Pt.locs, Pt.cells, Pt.slots] at X28 l28 y28 z28 st28 hQ28
    subst l28 y28 z28
    unfold Q2 at hQ28
    have k29 : ∀ t, Steps p.tables e below (T25.setTop (mkF m 13 #[.val (.int p0), .val (.int i24), .val (.ref wTRUE), .unset, .unset] [(.ref wTRUE)])) t → Steps p.tables e below (s₁.setTop (entryFrame m #[(.int p0)] maxLocals)) t := fun t kt => k26 t (by
      show Steps p.tables e below (s₁.setTop (mkF m 8 #[.val (.int p0), .val (.int i24), .unset, .unset, .unset] [(.int i24)])) _
      refine st25 _ ?_
      show Steps p.tables e below (T25.setTop (mkF m 11 #[.val (.int p0), .val (.int i24), .unset, .unset, .unset] [(.ref wTRUE)])) _
      refine XS.astoreN X25.here hx rfl (hb hby at_11) rfl rfl (l' := #[.val (.int p0), .val (.int i24), .val (.ref wTRUE), .unset, .unset]) rfl ?_
      show Steps p.tables e below (T25.setTop (mkF m 12 #[.val (.int p0), .val (.int i24), .val (.ref wTRUE), .unset, .unset] [])) _
      refine XS.aloadN X25.here hx rfl (hb hby at_12) rfl rfl ?_
      exact kt)
    rw [((by rw [f2, if_pos (rfl : wTRUE = wTRUE)]) : (f2 wTRUE wTRUE wUNKNOWN wFALSE) = wFALSE)] at hQ28
    obtain ⟨rfl, N28q, e28⟩ := hQ28
    have N28 := Fr.app N25 N28q
    obtain ⟨_, _, ⟨T30, L30, k30, n30⟩, -, X30, ⟨Lc30, hQ30, l30, y30, z30⟩, st30⟩ := Jvm.LawKit.callS X28 hx (y := (⟨"com/example/turtlehead/turtlehead/TruthNotPinLaw", "expectedNot", "(I)Lcom/example/turtlehead/turtlehead/Truth;"⟩ : MethodName)) hown (mvT hZ (hw _ (List.mem_of_getElem? (i := 18) rfl))) (mvT hZ (hw _ (List.mem_of_getElem? (i := 19) rfl))) (mvT hZ (hw _ (List.mem_of_getElem? (i := 3) rfl))) (mvT hZ (hw _ (List.mem_of_getElem? (i := 20) rfl))) (by decide) (backOf (W := 1) (rm3 l Z a0 hw [] i24 wTRUE wUNKNOWN wFALSE h0 n0 Z0 W0 ) hZ (hw _ (List.mem_of_getElem? (i := 20) rfl)) (hw _ (List.mem_of_getElem? (i := 3) rfl)) (by decide) (by decide)) (g := (mkF m 19 #[.val (.int p0), .val (.int i24), .val (.ref wTRUE), .val (.ref wFALSE), .unset] [(.int i24), (.ref wFALSE)])) rfl (by rw [hml]; rfl) (argsL := [(.int i24)]) (rest := [(.ref wFALSE)]) (lenOf pd_0 rfl) rfl (by show 2 * 0 + _ ≤ _; exact Nat.le_of_eq rfl) (hb hby at_19) (fun _ _ => ⟨rfl, e28, (by decide : 0 + 0 ≤ _), (by decide : 0 + 0 ≤ _)⟩)
    dsimp only [Pt.U, Pt.locs, Pt.cells, Pt.slots] at X30 l30 y30 z30 st30 hQ30
    subst l30 y30 z30
    unfold Q3 at hQ30
    have k31 : ∀ t, Steps p.tables e below (T28.setTop (mkF m 19 #[.val (.int p0), .val (.int i24), .val (.ref wTRUE), .val (.ref wFALSE), .unset] [(.int i24), (.ref wFALSE)])) t → Steps p.tables e below (s₁.setTop (entryFrame m #[(.int p0)] maxLocals)) t := fun t kt => k29 t (by
      show Steps p.tables e below (T25.setTop (mkF m 13 #[.val (.int p0), .val (.int i24), .val (.ref wTRUE), .unset, .unset] [(.ref wTRUE)])) _
      refine st28.trans ?_
      show Steps p.tables e below (T28.setTop (mkF m 16 #[.val (.int p0), .val (.int i24), .val (.ref wTRUE), .unset, .unset] [(.ref wFALSE)])) _
      refine XS.astoreN X28.here hx rfl (hb hby at_16) rfl rfl (l' := #[.val (.int p0), .val (.int i24), .val (.ref wTRUE), .val (.ref wFALSE), .unset]) rfl ?_
      show Steps p.tables e below (T28.setTop (mkF m 17 #[.val (.int p0), .val (.int i24), .val (.ref wTRUE), .val (.ref wFALSE), .unset] [])) _
      refine XS.aloadN X28.here hx rfl (hb hby at_17) rfl rfl ?_
      show Steps p.tables e below (T28.setTop (mkF m 18 #[.val (.int p0), .val (.int i24), .val (.ref wTRUE), .val (.ref wFALSE), .unset] [(.ref wFALSE)])) _
      refine XS.iloadN X28.here hx rfl (hb hby at_18) rfl ?_
      exact kt)
    rw [((by rw [f3, if_pos (hc27 : i24 = (0 : Int32))]) : (f3 i24 wTRUE wUNKNOWN wFALSE) = wFALSE)] at hQ30
    obtain ⟨rfl, N30q, e30⟩ := hQ30
    have N30 := Fr.app N28 N30q
    obtain ⟨cq32, kq32, q32a, q32b, q32c⟩ := isOf hZ e30 EFALSE
    obtain ⟨_, _, ⟨T32, L32, k32, n32⟩, -, X32, ⟨Lc32, hQ32, l32, y32, z32⟩, st32⟩ := X30.virtualBack hx (y := (⟨"com/example/turtlehead/turtlehead/Truth", "not", "()Lcom/example/turtlehead/turtlehead/Truth;"⟩ : MethodName)) (z := (⟨"com/example/turtlehead/turtlehead/Truth", "not", "()Lcom/example/turtlehead/turtlehead/Truth;"⟩ : MethodName)) hown (mvT hZ (hw _ (List.mem_of_getElem? (i := 8) rfl))) (mvT hZ (hw _ (List.mem_of_getElem? (i := 9) rfl))) (notFace_of_selects (args := #[]) (mvT hZ (hw _ (List.mem_of_getElem? (i := 11) rfl)))) (mvT hZ (hw _ (List.mem_of_getElem? (i := 11) rfl))) (mvT hZ (hw _ (List.mem_of_getElem? (i := 10) rfl))) (by decide) (backOf (W := 0) (rm2 l Z a0 hw [] wFALSE wTRUE wUNKNOWN wFALSE h0 n0 Z0 W0 ) hZ (hw _ (List.mem_of_getElem? (i := 12) rfl)) (hw _ (List.mem_of_getElem? (i := 6) rfl)) (by decide) (by decide)) q32a q32c (g := (mkF m 28 #[.val (.int p0), .val (.int i24), .val (.ref wTRUE), .val (.ref wFALSE), .unset] [(.ref wFALSE)])) rfl (by rw [hml]; rfl) (Steps.refl _) (argsL := []) (rest := []) (lenOf pd_1 rfl) rfl (by show 2 * 0 + _ ≤ _; exact Nat.le_of_eq rfl) (hb hby at_28) (fun _ _ => ⟨rfl, e30, (by decide : 0 + 0 ≤ _), (by decide : 0 + 0 ≤ _)⟩)
    dsimp only [Pt.U, Pt.locs, Pt.cells, Pt.slots] at X32 l32 y32 z32 st32 hQ32
    subst l32 y32 z32
    unfold Q2 at hQ32
    have k33 : ∀ t, Steps p.tables e below (T30.setTop (mkF m 28 #[.val (.int p0), .val (.int i24), .val (.ref wTRUE), .val (.ref wFALSE), .unset] [(.ref wFALSE)])) t → Steps p.tables e below (s₁.setTop (entryFrame m #[(.int p0)] maxLocals)) t := fun t kt => k31 t (by
      show Steps p.tables e below (T28.setTop (mkF m 19 #[.val (.int p0), .val (.int i24), .val (.ref wTRUE), .val (.ref wFALSE), .unset] [(.int i24), (.ref wFALSE)])) _
      refine st30 _ ?_
      show Steps p.tables e below (T30.setTop (mkF m 22 #[.val (.int p0), .val (.int i24), .val (.ref wTRUE), .val (.ref wFALSE), .unset] [(.ref wFALSE), (.ref wFALSE)])) _
      refine Jvm.RoadKit.acmp (g := (mkF m 22 #[.val (.int p0), .val (.int i24), .val (.ref wTRUE), .val (.ref wFALSE), .unset] [(.ref wFALSE), (.ref wFALSE)])) X30 hx rfl rfl rfl (pc0 := 22) (pc' := 27) (same := true) rfl (hb hby at_22) rfl (decide_eq_true (congrArg Value.ref (rfl : wFALSE = wFALSE))) (by decide) (by decide) ?_
      show Steps p.tables e below (T30.setTop (mkF m 27 #[.val (.int p0), .val (.int i24), .val (.ref wTRUE), .val (.ref wFALSE), .unset] [])) _
      refine XS.aloadN X30.here hx rfl (hb hby at_27) rfl rfl ?_
      exact kt)
    rw [((by rw [f2, if_neg ((Fld.ne FFALSE_ordinal FTRUE_ordinal (by decide)) : ¬ (wFALSE = wTRUE)), if_pos (rfl : wFALSE = wFALSE)]) : (f2 wFALSE wTRUE wUNKNOWN wFALSE) = wTRUE)] at hQ32
    obtain ⟨rfl, N32q, e32⟩ := hQ32
    have N32 := Fr.app N30 N32q
    obtain ⟨fs, hr, hrun, hended, hW, hsame⟩ := X32.leave (v := some (.int (1 : Int32))) (fun h => by rw [Bd.returns] at h; cases h)
    refine ⟨_, _, k33 _ ?_, hrun, hended, _, _, rfl, ?_, ⟨_, rfl⟩, hW, hsame.mono (by decide) (by decide)⟩
    · show Steps p.tables e below (T30.setTop (mkF m 28 #[.val (.int p0), .val (.int i24), .val (.ref wTRUE), .val (.ref wFALSE), .unset] [(.ref wFALSE)])) _
      refine st32.trans ?_
      show Steps p.tables e below (T32.setTop (mkF m 31 #[.val (.int p0), .val (.int i24), .val (.ref wTRUE), .val (.ref wFALSE), .unset] [(.ref wTRUE)])) _
      refine XS.astore X32.here hx rfl (hb hby at_31) rfl rfl (l' := #[.val (.int p0), .val (.int i24), .val (.ref wTRUE), .val (.ref wFALSE), .val (.ref wTRUE)]) rfl ?_
      show Steps p.tables e below (T32.setTop (mkF m 33 #[.val (.int p0), .val (.int i24), .val (.ref wTRUE), .val (.ref wFALSE), .val (.ref wTRUE)] [])) _
      refine XS.aload X32.here hx rfl (hb hby at_33) rfl rfl ?_
      show Steps p.tables e below (T32.setTop (mkF m 35 #[.val (.int p0), .val (.int i24), .val (.ref wTRUE), .val (.ref wFALSE), .val (.ref wTRUE)] [(.ref wTRUE)])) _
      refine XS.aloadN X32.here hx rfl (hb hby at_35) rfl rfl ?_
      show Steps p.tables e below (T32.setTop (mkF m 36 #[.val (.int p0), .val (.int i24), .val (.ref wTRUE), .val (.ref wFALSE), .val (.ref wTRUE)] [(.ref wTRUE), (.ref wTRUE)])) _
      refine Jvm.RoadKit.acmp (g := (mkF m 36 #[.val (.int p0), .val (.int i24), .val (.ref wTRUE), .val (.ref wFALSE), .val (.ref wTRUE)] [(.ref wTRUE), (.ref wTRUE)])) X32 hx rfl rfl rfl (pc0 := 36) (pc' := 39) (same := true) rfl (hb hby at_36) rfl (decide_eq_true (congrArg Value.ref (rfl : wTRUE = wTRUE))) (by decide) (by decide) ?_
      show Steps p.tables e below (T32.setTop (mkF m 39 #[.val (.int p0), .val (.int i24), .val (.ref wTRUE), .val (.ref wFALSE), .val (.ref wTRUE)] [])) _
      refine XS.iconst X32.here hx rfl (hb hby at_39) ?_
      show Steps p.tables e below (T32.setTop (mkF m 40 #[.val (.int p0), .val (.int i24), .val (.ref wTRUE), .val (.ref wFALSE), .val (.ref wTRUE)] [(.int (1 : Int32))])) _
      refine XS.goto X32.here hx rfl (pc0 := 40) (pc' := 44) rfl (hb hby at_40) (by decide) (by decide) ?_
      show Steps p.tables e below (T32.setTop (mkF m 44 #[.val (.int p0), .val (.int i24), .val (.ref wTRUE), .val (.ref wFALSE), .val (.ref wTRUE)] [(.int (1 : Int32))])) _
      exact retN X32 hx (t := .boolean) Bd.returns (by simp) (hb hby at_44) hr
    · show Q0 Z p0 wTRUE wUNKNOWN wFALSE h0 n0 _ T32.heap _
      rw [e32]
      exact ⟨rfl, N32⟩
  · by_cases hc34 : i24 = (1 : Int32)
    · rw [((by rw [f1, if_neg (hc27 : ¬ (i24 = (0 : Int32))), if_pos (hc34 : i24 = (1 : Int32))]) : (f1 i24 wTRUE wUNKNOWN wFALSE) = wFALSE)] at hQ25
      obtain ⟨rfl, N25q, e25⟩ := hQ25
      have N25 := Fr.app N0 N25q
      obtain ⟨cq35, kq35, q35a, q35b, q35c⟩ := isOf hZ e25 EFALSE
      obtain ⟨_, _, ⟨T35, L35, k35, n35⟩, -, X35, ⟨Lc35, hQ35, l35, y35, z35⟩, st35⟩ := X25.virtualBack hx (y := (⟨"com/example/turtlehead/turtlehead/Truth", "not", "()Lcom/example/turtlehead/turtlehead/Truth;"⟩ : MethodName)) (z := (⟨"com/example/turtlehead/turtlehead/Truth", "not", "()Lcom/example/turtlehead/turtlehead/Truth;"⟩ : MethodName)) hown (mvT hZ (hw _ (List.mem_of_getElem? (i := 8) rfl))) (mvT hZ (hw _ (List.mem_of_getElem? (i := 9) rfl))) (notFace_of_selects (args := #[]) (mvT hZ (hw _ (List.mem_of_getElem? (i := 11) rfl)))) (mvT hZ (hw _ (List.mem_of_getElem? (i := 11) rfl))) (mvT hZ (hw _ (List.mem_of_getElem? (i := 10) rfl))) (by decide) (backOf (W := 0) (rm2 l Z a0 hw [] wFALSE wTRUE wUNKNOWN wFALSE h0 n0 Z0 W0 ) hZ (hw _ (List.mem_of_getElem? (i := 12) rfl)) (hw _ (List.mem_of_getElem? (i := 6) rfl)) (by decide) (by decide)) q35a q35c (g := (mkF m 13 #[.val (.int p0), .val (.int i24), .val (.ref wFALSE), .unset, .unset] [(.ref wFALSE)])) rfl (by rw [hml]; rfl) (Steps.refl _) (argsL := []) (rest := []) (lenOf pd_1 rfl) rfl (by show 2 * 0 + _ ≤ _; exact Nat.le_of_eq rfl) (hb hby at_13) (fun _ _ => ⟨rfl, e25, (by decide : 0 + 0 ≤ _), (by decide : 0 + 0 ≤ _)⟩)
      dsimp only [Pt.U, Pt.locs, Pt.cells, Pt.slots] at X35 l35 y35 z35 st35 hQ35
      subst l35 y35 z35
      unfold Q2 at hQ35
      have k36 : ∀ t, Steps p.tables e below (T25.setTop (mkF m 13 #[.val (.int p0), .val (.int i24), .val (.ref wFALSE), .unset, .unset] [(.ref wFALSE)])) t → Steps p.tables e below (s₁.setTop (entryFrame m #[(.int p0)] maxLocals)) t := fun t kt => k26 t (by
        show Steps p.tables e below (s₁.setTop (mkF m 8 #[.val (.int p0), .val (.int i24), .unset, .unset, .unset] [(.int i24)])) _
        refine st25 _ ?_
        show Steps p.tables e below (T25.setTop (mkF m 11 #[.val (.int p0), .val (.int i24), .unset, .unset, .unset] [(.ref wFALSE)])) _
        refine XS.astoreN X25.here hx rfl (hb hby at_11) rfl rfl (l' := #[.val (.int p0), .val (.int i24), .val (.ref wFALSE), .unset, .unset]) rfl ?_
        show Steps p.tables e below (T25.setTop (mkF m 12 #[.val (.int p0), .val (.int i24), .val (.ref wFALSE), .unset, .unset] [])) _
        refine XS.aloadN X25.here hx rfl (hb hby at_12) rfl rfl ?_
        exact kt)
      rw [((by rw [f2, if_neg ((Fld.ne FFALSE_ordinal FTRUE_ordinal (by decide)) : ¬ (wFALSE = wTRUE)), if_pos (rfl : wFALSE = wFALSE)]) : (f2 wFALSE wTRUE wUNKNOWN wFALSE) = wTRUE)] at hQ35
      obtain ⟨rfl, N35q, e35⟩ := hQ35
      have N35 := Fr.app N25 N35q
      obtain ⟨_, _, ⟨T37, L37, k37, n37⟩, -, X37, ⟨Lc37, hQ37, l37, y37, z37⟩, st37⟩ := Jvm.LawKit.callS X35 hx (y := (⟨"com/example/turtlehead/turtlehead/TruthNotPinLaw", "expectedNot", "(I)Lcom/example/turtlehead/turtlehead/Truth;"⟩ : MethodName)) hown (mvT hZ (hw _ (List.mem_of_getElem? (i := 18) rfl))) (mvT hZ (hw _ (List.mem_of_getElem? (i := 19) rfl))) (mvT hZ (hw _ (List.mem_of_getElem? (i := 3) rfl))) (mvT hZ (hw _ (List.mem_of_getElem? (i := 20) rfl))) (by decide) (backOf (W := 1) (rm3 l Z a0 hw [] i24 wTRUE wUNKNOWN wFALSE h0 n0 Z0 W0 ) hZ (hw _ (List.mem_of_getElem? (i := 20) rfl)) (hw _ (List.mem_of_getElem? (i := 3) rfl)) (by decide) (by decide)) (g := (mkF m 19 #[.val (.int p0), .val (.int i24), .val (.ref wFALSE), .val (.ref wTRUE), .unset] [(.int i24), (.ref wTRUE)])) rfl (by rw [hml]; rfl) (argsL := [(.int i24)]) (rest := [(.ref wTRUE)]) (lenOf pd_0 rfl) rfl (by show 2 * 0 + _ ≤ _; exact Nat.le_of_eq rfl) (hb hby at_19) (fun _ _ => ⟨rfl, e35, (by decide : 0 + 0 ≤ _), (by decide : 0 + 0 ≤ _)⟩)
      dsimp only [Pt.U, Pt.locs, Pt.cells, Pt.slots] at X37 l37 y37 z37 st37 hQ37
      subst l37 y37 z37
      unfold Q3 at hQ37
      have k38 : ∀ t, Steps p.tables e below (T35.setTop (mkF m 19 #[.val (.int p0), .val (.int i24), .val (.ref wFALSE), .val (.ref wTRUE), .unset] [(.int i24), (.ref wTRUE)])) t → Steps p.tables e below (s₁.setTop (entryFrame m #[(.int p0)] maxLocals)) t := fun t kt => k36 t (by
        show Steps p.tables e below (T25.setTop (mkF m 13 #[.val (.int p0), .val (.int i24), .val (.ref wFALSE), .unset, .unset] [(.ref wFALSE)])) _
        refine st35.trans ?_
        show Steps p.tables e below (T35.setTop (mkF m 16 #[.val (.int p0), .val (.int i24), .val (.ref wFALSE), .unset, .unset] [(.ref wTRUE)])) _
        refine XS.astoreN X35.here hx rfl (hb hby at_16) rfl rfl (l' := #[.val (.int p0), .val (.int i24), .val (.ref wFALSE), .val (.ref wTRUE), .unset]) rfl ?_
        show Steps p.tables e below (T35.setTop (mkF m 17 #[.val (.int p0), .val (.int i24), .val (.ref wFALSE), .val (.ref wTRUE), .unset] [])) _
        refine XS.aloadN X35.here hx rfl (hb hby at_17) rfl rfl ?_
        show Steps p.tables e below (T35.setTop (mkF m 18 #[.val (.int p0), .val (.int i24), .val (.ref wFALSE), .val (.ref wTRUE), .unset] [(.ref wTRUE)])) _
        refine XS.iloadN X35.here hx rfl (hb hby at_18) rfl ?_
        exact kt)
      rw [((by rw [f3, if_neg (hc27 : ¬ (i24 = (0 : Int32))), if_pos (hc34 : i24 = (1 : Int32))]) : (f3 i24 wTRUE wUNKNOWN wFALSE) = wTRUE)] at hQ37
      obtain ⟨rfl, N37q, e37⟩ := hQ37
      have N37 := Fr.app N35 N37q
      obtain ⟨cq39, kq39, q39a, q39b, q39c⟩ := isOf hZ e37 ETRUE
      obtain ⟨_, _, ⟨T39, L39, k39, n39⟩, -, X39, ⟨Lc39, hQ39, l39, y39, z39⟩, st39⟩ := X37.virtualBack hx (y := (⟨"com/example/turtlehead/turtlehead/Truth", "not", "()Lcom/example/turtlehead/turtlehead/Truth;"⟩ : MethodName)) (z := (⟨"com/example/turtlehead/turtlehead/Truth", "not", "()Lcom/example/turtlehead/turtlehead/Truth;"⟩ : MethodName)) hown (mvT hZ (hw _ (List.mem_of_getElem? (i := 8) rfl))) (mvT hZ (hw _ (List.mem_of_getElem? (i := 9) rfl))) (notFace_of_selects (args := #[]) (mvT hZ (hw _ (List.mem_of_getElem? (i := 11) rfl)))) (mvT hZ (hw _ (List.mem_of_getElem? (i := 11) rfl))) (mvT hZ (hw _ (List.mem_of_getElem? (i := 10) rfl))) (by decide) (backOf (W := 0) (rm2 l Z a0 hw [] wTRUE wTRUE wUNKNOWN wFALSE h0 n0 Z0 W0 ) hZ (hw _ (List.mem_of_getElem? (i := 12) rfl)) (hw _ (List.mem_of_getElem? (i := 6) rfl)) (by decide) (by decide)) q39a q39c (g := (mkF m 28 #[.val (.int p0), .val (.int i24), .val (.ref wFALSE), .val (.ref wTRUE), .unset] [(.ref wTRUE)])) rfl (by rw [hml]; rfl) (Steps.refl _) (argsL := []) (rest := []) (lenOf pd_1 rfl) rfl (by show 2 * 0 + _ ≤ _; exact Nat.le_of_eq rfl) (hb hby at_28) (fun _ _ => ⟨rfl, e37, (by decide : 0 + 0 ≤ _), (by decide : 0 + 0 ≤ _)⟩)
      dsimp only [Pt.U, Pt.locs, Pt.cells, Pt.slots] at X39 l39 y39 z39 st39 hQ39
      subst l39 y39 z39
      unfold Q2 at hQ39
      have k40 : ∀ t, Steps p.tables e below (T37.setTop (mkF m 28 #[.val (.int p0), .val (.int i24), .val (.ref wFALSE), .val (.ref wTRUE), .unset] [(.ref wTRUE)])) t → Steps p.tables e below (s₁.setTop (entryFrame m #[(.int p0)] maxLocals)) t := fun t kt => k38 t (by
        show Steps p.tables e below (T35.setTop (mkF m 19 #[.val (.int p0), .val (.int i24), .val (.ref wFALSE), .val (.ref wTRUE), .unset] [(.int i24), (.ref wTRUE)])) _
        refine st37 _ ?_
        show Steps p.tables e below (T37.setTop (mkF m 22 #[.val (.int p0), .val (.int i24), .val (.ref wFALSE), .val (.ref wTRUE), .unset] [(.ref wTRUE), (.ref wTRUE)])) _
        refine Jvm.RoadKit.acmp (g := (mkF m 22 #[.val (.int p0), .val (.int i24), .val (.ref wFALSE), .val (.ref wTRUE), .unset] [(.ref wTRUE), (.ref wTRUE)])) X37 hx rfl rfl rfl (pc0 := 22) (pc' := 27) (same := true) rfl (hb hby at_22) rfl (decide_eq_true (congrArg Value.ref (rfl : wTRUE = wTRUE))) (by decide) (by decide) ?_
        show Steps p.tables e below (T37.setTop (mkF m 27 #[.val (.int p0), .val (.int i24), .val (.ref wFALSE), .val (.ref wTRUE), .unset] [])) _
        refine XS.aloadN X37.here hx rfl (hb hby at_27) rfl rfl ?_
        exact kt)
      rw [((by rw [f2, if_pos (rfl : wTRUE = wTRUE)]) : (f2 wTRUE wTRUE wUNKNOWN wFALSE) = wFALSE)] at hQ39
      obtain ⟨rfl, N39q, e39⟩ := hQ39
      have N39 := Fr.app N37 N39q
      obtain ⟨fs, hr, hrun, hended, hW, hsame⟩ := X39.leave (v := some (.int (1 : Int32))) (fun h => by rw [Bd.returns] at h; cases h)
      refine ⟨_, _, k40 _ ?_, hrun, hended, _, _, rfl, ?_, ⟨_, rfl⟩, hW, hsame.mono (by decide) (by decide)⟩
      · show Steps p.tables e below (T37.setTop (mkF m 28 #[.val (.int p0), .val (.int i24), .val (.ref wFALSE), .val (.ref wTRUE), .unset] [(.ref wTRUE)])) _
        refine st39.trans ?_
        show Steps p.tables e below (T39.setTop (mkF m 31 #[.val (.int p0), .val (.int i24), .val (.ref wFALSE), .val (.ref wTRUE), .unset] [(.ref wFALSE)])) _
        refine XS.astore X39.here hx rfl (hb hby at_31) rfl rfl (l' := #[.val (.int p0), .val (.int i24), .val (.ref wFALSE), .val (.ref wTRUE), .val (.ref wFALSE)]) rfl ?_
        show Steps p.tables e below (T39.setTop (mkF m 33 #[.val (.int p0), .val (.int i24), .val (.ref wFALSE), .val (.ref wTRUE), .val (.ref wFALSE)] [])) _
        refine XS.aload X39.here hx rfl (hb hby at_33) rfl rfl ?_
        show Steps p.tables e below (T39.setTop (mkF m 35 #[.val (.int p0), .val (.int i24), .val (.ref wFALSE), .val (.ref wTRUE), .val (.ref wFALSE)] [(.ref wFALSE)])) _
        refine XS.aloadN X39.here hx rfl (hb hby at_35) rfl rfl ?_
        show Steps p.tables e below (T39.setTop (mkF m 36 #[.val (.int p0), .val (.int i24), .val (.ref wFALSE), .val (.ref wTRUE), .val (.ref wFALSE)] [(.ref wFALSE), (.ref wFALSE)])) _
        refine Jvm.RoadKit.acmp (g := (mkF m 36 #[.val (.int p0), .val (.int i24), .val (.ref wFALSE), .val (.ref wTRUE), .val (.ref wFALSE)] [(.ref wFALSE), (.ref wFALSE)])) X39 hx rfl rfl rfl (pc0 := 36) (pc' := 39) (same := true) rfl (hb hby at_36) rfl (decide_eq_true (congrArg Value.ref (rfl : wFALSE = wFALSE))) (by decide) (by decide) ?_
        show Steps p.tables e below (T39.setTop (mkF m 39 #[.val (.int p0), .val (.int i24), .val (.ref wFALSE), .val (.ref wTRUE), .val (.ref wFALSE)] [])) _
        refine XS.iconst X39.here hx rfl (hb hby at_39) ?_
        show Steps p.tables e below (T39.setTop (mkF m 40 #[.val (.int p0), .val (.int i24), .val (.ref wFALSE), .val (.ref wTRUE), .val (.ref wFALSE)] [(.int (1 : Int32))])) _
        refine XS.goto X39.here hx rfl (pc0 := 40) (pc' := 44) rfl (hb hby at_40) (by decide) (by decide) ?_
        show Steps p.tables e below (T39.setTop (mkF m 44 #[.val (.int p0), .val (.int i24), .val (.ref wFALSE), .val (.ref wTRUE), .val (.ref wFALSE)] [(.int (1 : Int32))])) _
        exact retN X39 hx (t := .boolean) Bd.returns (by simp) (hb hby at_44) hr
      · show Q0 Z p0 wTRUE wUNKNOWN wFALSE h0 n0 _ T39.heap _
        rw [e39]
        exact ⟨rfl, N39⟩
    · rw [((by rw [f1, if_neg (hc27 : ¬ (i24 = (0 : Int32))), if_neg (hc34 : ¬ (i24 = (1 : Int32)))]) : (f1 i24 wTRUE wUNKNOWN wFALSE) = wUNKNOWN)] at hQ25
      obtain ⟨rfl, N25q, e25⟩ := hQ25
      have N25 := Fr.app N0 N25q
      obtain ⟨cq41, kq41, q41a, q41b, q41c⟩ := isOf hZ e25 EUNKNOWN
      obtain ⟨_, _, ⟨T41, L41, k41, n41⟩, -, X41, ⟨Lc41, hQ41, l41, y41, z41⟩, st41⟩ := X25.virtualBack hx (y := (⟨"com/example/turtlehead/turtlehead/Truth", "not", "()Lcom/example/turtlehead/turtlehead/Truth;"⟩ : MethodName)) (z := (⟨"com/example/turtlehead/turtlehead/Truth", "not", "()Lcom/example/turtlehead/turtlehead/Truth;"⟩ : MethodName)) hown (mvT hZ (hw _ (List.mem_of_getElem? (i := 8) rfl))) (mvT hZ (hw _ (List.mem_of_getElem? (i := 9) rfl))) (notFace_of_selects (args := #[]) (mvT hZ (hw _ (List.mem_of_getElem? (i := 11) rfl)))) (mvT hZ (hw _ (List.mem_of_getElem? (i := 11) rfl))) (mvT hZ (hw _ (List.mem_of_getElem? (i := 10) rfl))) (by decide) (backOf (W := 0) (rm2 l Z a0 hw [] wUNKNOWN wTRUE wUNKNOWN wFALSE h0 n0 Z0 W0 ) hZ (hw _ (List.mem_of_getElem? (i := 12) rfl)) (hw _ (List.mem_of_getElem? (i := 6) rfl)) (by decide) (by decide)) q41a q41c (g := (mkF m 13 #[.val (.int p0), .val (.int i24), .val (.ref wUNKNOWN), .unset, .unset] [(.ref wUNKNOWN)])) rfl (by rw [hml]; rfl) (Steps.refl _) (argsL := []) (rest := []) (lenOf pd_1 rfl) rfl (by show 2 * 0 + _ ≤ _; exact Nat.le_of_eq rfl) (hb hby at_13) (fun _ _ => ⟨rfl, e25, (by decide : 0 + 0 ≤ _), (by decide : 0 + 0 ≤ _)⟩)
      dsimp only [Pt.U, Pt.locs, Pt.cells, Pt.slots] at X41 l41 y41 z41 st41 hQ41
      subst l41 y41 z41
      unfold Q2 at hQ41
      have k42 : ∀ t, Steps p.tables e below (T25.setTop (mkF m 13 #[.val (.int p0), .val (.int i24), .val (.ref wUNKNOWN), .unset, .unset] [(.ref wUNKNOWN)])) t → Steps p.tables e below (s₁.setTop (entryFrame m #[(.int p0)] maxLocals)) t := fun t kt => k26 t (by
        show Steps p.tables e below (s₁.setTop (mkF m 8 #[.val (.int p0), .val (.int i24), .unset, .unset, .unset] [(.int i24)])) _
        refine st25 _ ?_
        show Steps p.tables e below (T25.setTop (mkF m 11 #[.val (.int p0), .val (.int i24), .unset, .unset, .unset] [(.ref wUNKNOWN)])) _
        refine XS.astoreN X25.here hx rfl (hb hby at_11) rfl rfl (l' := #[.val (.int p0), .val (.int i24), .val (.ref wUNKNOWN), .unset, .unset]) rfl ?_
        show Steps p.tables e below (T25.setTop (mkF m 12 #[.val (.int p0), .val (.int i24), .val (.ref wUNKNOWN), .unset, .unset] [])) _
        refine XS.aloadN X25.here hx rfl (hb hby at_12) rfl rfl ?_
        exact kt)
      rw [((by rw [f2, if_neg ((Fld.ne FUNKNOWN_ordinal FTRUE_ordinal (by decide)) : ¬ (wUNKNOWN = wTRUE)), if_neg ((Fld.ne FUNKNOWN_ordinal FFALSE_ordinal (by decide)) : ¬ (wUNKNOWN = wFALSE))]) : (f2 wUNKNOWN wTRUE wUNKNOWN wFALSE) = wUNKNOWN)] at hQ41
      obtain ⟨rfl, N41q, e41⟩ := hQ41
      have N41 := Fr.app N25 N41q
      obtain ⟨_, _, ⟨T43, L43, k43, n43⟩, -, X43, ⟨Lc43, hQ43, l43, y43, z43⟩, st43⟩ := Jvm.LawKit.callS X41 hx (y := (⟨"com/example/turtlehead/turtlehead/TruthNotPinLaw", "expectedNot", "(I)Lcom/example/turtlehead/turtlehead/Truth;"⟩ : MethodName)) hown (mvT hZ (hw _ (List.mem_of_getElem? (i := 18) rfl))) (mvT hZ (hw _ (List.mem_of_getElem? (i := 19) rfl))) (mvT hZ (hw _ (List.mem_of_getElem? (i := 3) rfl))) (mvT hZ (hw _ (List.mem_of_getElem? (i := 20) rfl))) (by decide) (backOf (W := 1) (rm3 l Z a0 hw [] i24 wTRUE wUNKNOWN wFALSE h0 n0 Z0 W0 ) hZ (hw _ (List.mem_of_getElem? (i := 20) rfl)) (hw _ (List.mem_of_getElem? (i := 3) rfl)) (by decide) (by decide)) (g := (mkF m 19 #[.val (.int p0), .val (.int i24), .val (.ref wUNKNOWN), .val (.ref wUNKNOWN), .unset] [(.int i24), (.ref wUNKNOWN)])) rfl (by rw [hml]; rfl) (argsL := [(.int i24)]) (rest := [(.ref wUNKNOWN)]) (lenOf pd_0 rfl) rfl (by show 2 * 0 + _ ≤ _; exact Nat.le_of_eq rfl) (hb hby at_19) (fun _ _ => ⟨rfl, e41, (by decide : 0 + 0 ≤ _), (by decide : 0 + 0 ≤ _)⟩)
      dsimp only [Pt.U, Pt.locs, Pt.cells, Pt.slots] at X43 l43 y43 z43 st43 hQ43
      subst l43 y43 z43
      unfold Q3 at hQ43
      have k44 : ∀ t, Steps p.tables e below (T41.setTop (mkF m 19 #[.val (.int p0), .val (.int i24), .val (.ref wUNKNOWN), .val (.ref wUNKNOWN), .unset] [(.int i24), (.ref wUNKNOWN)])) t → Steps p.tables e below (s₁.setTop (entryFrame m #[(.int p0)] maxLocals)) t := fun t kt => k42 t (by
        show Steps p.tables e below (T25.setTop (mkF m 13 #[.val (.int p0), .val (.int i24), .val (.ref wUNKNOWN), .unset, .unset] [(.ref wUNKNOWN)])) _
        refine st41.trans ?_
        show Steps p.tables e below (T41.setTop (mkF m 16 #[.val (.int p0), .val (.int i24), .val (.ref wUNKNOWN), .unset, .unset] [(.ref wUNKNOWN)])) _
        refine XS.astoreN X41.here hx rfl (hb hby at_16) rfl rfl (l' := #[.val (.int p0), .val (.int i24), .val (.ref wUNKNOWN), .val (.ref wUNKNOWN), .unset]) rfl ?_
        show Steps p.tables e below (T41.setTop (mkF m 17 #[.val (.int p0), .val (.int i24), .val (.ref wUNKNOWN), .val (.ref wUNKNOWN), .unset] [])) _
        refine XS.aloadN X41.here hx rfl (hb hby at_17) rfl rfl ?_
        show Steps p.tables e below (T41.setTop (mkF m 18 #[.val (.int p0), .val (.int i24), .val (.ref wUNKNOWN), .val (.ref wUNKNOWN), .unset] [(.ref wUNKNOWN)])) _
        refine XS.iloadN X41.here hx rfl (hb hby at_18) rfl ?_
        exact kt)
      rw [((by rw [f3, if_neg (hc27 : ¬ (i24 = (0 : Int32))), if_neg (hc34 : ¬ (i24 = (1 : Int32)))]) : (f3 i24 wTRUE wUNKNOWN wFALSE) = wUNKNOWN)] at hQ43
      obtain ⟨rfl, N43q, e43⟩ := hQ43
      have N43 := Fr.app N41 N43q
      obtain ⟨cq45, kq45, q45a, q45b, q45c⟩ := isOf hZ e43 EUNKNOWN
      obtain ⟨_, _, ⟨T45, L45, k45, n45⟩, -, X45, ⟨Lc45, hQ45, l45, y45, z45⟩, st45⟩ := X43.virtualBack hx (y := (⟨"com/example/turtlehead/turtlehead/Truth", "not", "()Lcom/example/turtlehead/turtlehead/Truth;"⟩ : MethodName)) (z := (⟨"com/example/turtlehead/turtlehead/Truth", "not", "()Lcom/example/turtlehead/turtlehead/Truth;"⟩ : MethodName)) hown (mvT hZ (hw _ (List.mem_of_getElem? (i := 8) rfl))) (mvT hZ (hw _ (List.mem_of_getElem? (i := 9) rfl))) (notFace_of_selects (args := #[]) (mvT hZ (hw _ (List.mem_of_getElem? (i := 11) rfl)))) (mvT hZ (hw _ (List.mem_of_getElem? (i := 11) rfl))) (mvT hZ (hw _ (List.mem_of_getElem? (i := 10) rfl))) (by decide) (backOf (W := 0) (rm2 l Z a0 hw [] wUNKNOWN wTRUE wUNKNOWN wFALSE h0 n0 Z0 W0 ) hZ (hw _ (List.mem_of_getElem? (i := 12) rfl)) (hw _ (List.mem_of_getElem? (i := 6) rfl)) (by decide) (by decide)) q45a q45c (g := (mkF m 28 #[.val (.int p0), .val (.int i24), .val (.ref wUNKNOWN), .val (.ref wUNKNOWN), .unset] [(.ref wUNKNOWN)])) rfl (by rw [hml]; rfl) (Steps.refl _) (argsL := []) (rest := []) (lenOf pd_1 rfl) rfl (by show 2 * 0 + _ ≤ _; exact Nat.le_of_eq rfl) (hb hby at_28) (fun _ _ => ⟨rfl, e43, (by decide : 0 + 0 ≤ _), (by decide : 0 + 0 ≤ _)⟩)
      dsimp only [Pt.U, Pt.locs, Pt.cells, Pt.slots] at X45 l45 y45 z45 st45 hQ45
      subst l45 y45 z45
      unfold Q2 at hQ45
      have k46 : ∀ t, Steps p.tables e below (T43.setTop (mkF m 28 #[.val (.int p0), .val (.int i24), .val (.ref wUNKNOWN), .val (.ref wUNKNOWN), .unset] [(.ref wUNKNOWN)])) t → Steps p.tables e below (s₁.setTop (entryFrame m #[(.int p0)] maxLocals)) t := fun t kt => k44 t (by
        show Steps p.tables e below (T41.setTop (mkF m 19 #[.val (.int p0), .val (.int i24), .val (.ref wUNKNOWN), .val (.ref wUNKNOWN), .unset] [(.int i24), (.ref wUNKNOWN)])) _
        refine st43 _ ?_
        show Steps p.tables e below (T43.setTop (mkF m 22 #[.val (.int p0), .val (.int i24), .val (.ref wUNKNOWN), .val (.ref wUNKNOWN), .unset] [(.ref wUNKNOWN), (.ref wUNKNOWN)])) _
        refine Jvm.RoadKit.acmp (g := (mkF m 22 #[.val (.int p0), .val (.int i24), .val (.ref wUNKNOWN), .val (.ref wUNKNOWN), .unset] [(.ref wUNKNOWN), (.ref wUNKNOWN)])) X43 hx rfl rfl rfl (pc0 := 22) (pc' := 27) (same := true) rfl (hb hby at_22) rfl (decide_eq_true (congrArg Value.ref (rfl : wUNKNOWN = wUNKNOWN))) (by decide) (by decide) ?_
        show Steps p.tables e below (T43.setTop (mkF m 27 #[.val (.int p0), .val (.int i24), .val (.ref wUNKNOWN), .val (.ref wUNKNOWN), .unset] [])) _
        refine XS.aloadN X43.here hx rfl (hb hby at_27) rfl rfl ?_
        exact kt)
      rw [((by rw [f2, if_neg ((Fld.ne FUNKNOWN_ordinal FTRUE_ordinal (by decide)) : ¬ (wUNKNOWN = wTRUE)), if_neg ((Fld.ne FUNKNOWN_ordinal FFALSE_ordinal (by decide)) : ¬ (wUNKNOWN = wFALSE))]) : (f2 wUNKNOWN wTRUE wUNKNOWN wFALSE) = wUNKNOWN)] at hQ45
      obtain ⟨rfl, N45q, e45⟩ := hQ45
      have N45 := Fr.app N43 N45q
      obtain ⟨fs, hr, hrun, hended, hW, hsame⟩ := X45.leave (v := some (.int (1 : Int32))) (fun h => by rw [Bd.returns] at h; cases h)
      refine ⟨_, _, k46 _ ?_, hrun, hended, _, _, rfl, ?_, ⟨_, rfl⟩, hW, hsame.mono (by decide) (by decide)⟩
      · show Steps p.tables e below (T43.setTop (mkF m 28 #[.val (.int p0), .val (.int i24), .val (.ref wUNKNOWN), .val (.ref wUNKNOWN), .unset] [(.ref wUNKNOWN)])) _
        refine st45.trans ?_
        show Steps p.tables e below (T45.setTop (mkF m 31 #[.val (.int p0), .val (.int i24), .val (.ref wUNKNOWN), .val (.ref wUNKNOWN), .unset] [(.ref wUNKNOWN)])) _
        refine XS.astore X45.here hx rfl (hb hby at_31) rfl rfl (l' := #[.val (.int p0), .val (.int i24), .val (.ref wUNKNOWN), .val (.ref wUNKNOWN), .val (.ref wUNKNOWN)]) rfl ?_
        show Steps p.tables e below (T45.setTop (mkF m 33 #[.val (.int p0), .val (.int i24), .val (.ref wUNKNOWN), .val (.ref wUNKNOWN), .val (.ref wUNKNOWN)] [])) _
        refine XS.aload X45.here hx rfl (hb hby at_33) rfl rfl ?_
        show Steps p.tables e below (T45.setTop (mkF m 35 #[.val (.int p0), .val (.int i24), .val (.ref wUNKNOWN), .val (.ref wUNKNOWN), .val (.ref wUNKNOWN)] [(.ref wUNKNOWN)])) _
        refine XS.aloadN X45.here hx rfl (hb hby at_35) rfl rfl ?_
        show Steps p.tables e below (T45.setTop (mkF m 36 #[.val (.int p0), .val (.int i24), .val (.ref wUNKNOWN), .val (.ref wUNKNOWN), .val (.ref wUNKNOWN)] [(.ref wUNKNOWN), (.ref wUNKNOWN)])) _
        refine Jvm.RoadKit.acmp (g := (mkF m 36 #[.val (.int p0), .val (.int i24), .val (.ref wUNKNOWN), .val (.ref wUNKNOWN), .val (.ref wUNKNOWN)] [(.ref wUNKNOWN), (.ref wUNKNOWN)])) X45 hx rfl rfl rfl (pc0 := 36) (pc' := 39) (same := true) rfl (hb hby at_36) rfl (decide_eq_true (congrArg Value.ref (rfl : wUNKNOWN = wUNKNOWN))) (by decide) (by decide) ?_
        show Steps p.tables e below (T45.setTop (mkF m 39 #[.val (.int p0), .val (.int i24), .val (.ref wUNKNOWN), .val (.ref wUNKNOWN), .val (.ref wUNKNOWN)] [])) _
        refine XS.iconst X45.here hx rfl (hb hby at_39) ?_
        show Steps p.tables e below (T45.setTop (mkF m 40 #[.val (.int p0), .val (.int i24), .val (.ref wUNKNOWN), .val (.ref wUNKNOWN), .val (.ref wUNKNOWN)] [(.int (1 : Int32))])) _
        refine XS.goto X45.here hx rfl (pc0 := 40) (pc' := 44) rfl (hb hby at_40) (by decide) (by decide) ?_
        show Steps p.tables e below (T45.setTop (mkF m 44 #[.val (.int p0), .val (.int i24), .val (.ref wUNKNOWN), .val (.ref wUNKNOWN), .val (.ref wUNKNOWN)] [(.int (1 : Int32))])) _
        exact retN X45 hx (t := .boolean) Bd.returns (by simp) (hb hby at_44) hr
      · show Q0 Z p0 wTRUE wUNKNOWN wFALSE h0 n0 _ T45.heap _
        rw [e45]
        exact ⟨rfl, N45⟩
set_option maxRecDepth 65536 in
set_option maxHeartbeats 40000000 in
theorem comes_1 {Post : Tables → Env → Array Value → State → Outcome → State → Prop} (hpost : ∀ tb e args s v u, (limb_1_1.after args s (.returned v) u = true ∧ limb_1_2.after args s (.returned v) u = true ∧ True) → FrameEnd s (.returned v) u (Jvm.fieldLocs frame_1_writes args s ++ Jvm.arrayLocs frame_1_arrays args s ++ Jvm.staticLocs frame_1_statics s) 0 0 → Post tb e args s (.returned v) u) :
    ArmFor flags0 classFile x code maxLocals ret World_1 tables_1 room_1 Calls_1 rest_1 Pre_1 Post := by
  intro l hfl _ _ p e ha hc hk s m args below hf hA hF happ hP
  obtain ⟨hcalls, hrest, hpre⟩ := hP
  obtain ⟨-, -, -, hnamed, -, -, -, hat⟩ := (Spec.applies_iff hf).mp happ
  obtain ⟨hg, hn⟩ := and_e (Cond.before_iff.mp (show (Jvm.Cond.and given_1 narrow_1).before args s = true from hpre))
  obtain ⟨gc, ga0⟩ := and_e hg
  obtain ⟨w0, rfl⟩ : ∃ w0 : Value, args = #[w0] := by
    have hs : args.size = 1 := by simpa [Cond.value, given_1] using gc
    obtain ⟨L⟩ := args
    match L, hs with
    | [w0], _ => exact ⟨w0, rfl⟩
  have hw := fun d (hd : d ∈ tables_1) => atoms_spec (ws := Jvm.Cond.code x code maxLocals ret :: tables_1) hat d (List.mem_cons_of_mem _ hd)
  have hfit : Fit s := fun {y c} hc i hi => by
    obtain ⟨ha, rfl⟩ := Array.getElem?_eq_some_iff.mp hc
    have q := List.all_eq_true.mp ((Array.all_eq_true_iff_forall_mem.mp hF) _ (Array.getElem_mem ha)) i (List.mem_range.mpr hi)
    simpa [Array.getElem?_eq_getElem hi] using q
  obtain ⟨i0, ei0⟩ := is_v ga0
  obtain rfl : w0 = (.int i0) := Option.some.inj ei0
  obtain ⟨nr0, hn0⟩ := and_e hn
  obtain ⟨nr1, hn1⟩ := and_e hn0
  obtain ⟨nr2, hn2⟩ := and_e hn1
  obtain ⟨nr3, hn3⟩ := and_e hn2
  obtain ⟨nr4, nr5⟩ := and_e hn3
  obtain ⟨wTRUE, evwTRUE⟩ := exa_v nr0
  have STRUE : Sta s s.heap "com/example/turtlehead/turtlehead/Truth" "TRUE" "Lcom/example/turtlehead/turtlehead/Truth;" (.ref wTRUE) := Sta.start evwTRUE (Or.inr ⟨(hw _ (List.mem_of_getElem? (i := 6) rfl)), (hw _ (List.mem_of_getElem? (i := 7) rfl))⟩)
  obtain ⟨wUNKNOWN, evwUNKNOWN⟩ := exa_v nr1
  have SUNKNOWN : Sta s s.heap "com/example/turtlehead/turtlehead/Truth" "UNKNOWN" "Lcom/example/turtlehead/turtlehead/Truth;" (.ref wUNKNOWN) := Sta.start evwUNKNOWN (Or.inr ⟨(hw _ (List.mem_of_getElem? (i := 6) rfl)), (hw _ (List.mem_of_getElem? (i := 14) rfl))⟩)
  obtain ⟨wFALSE, evwFALSE⟩ := exa_v nr2
  have SFALSE : Sta s s.heap "com/example/turtlehead/turtlehead/Truth" "FALSE" "Lcom/example/turtlehead/turtlehead/Truth;" (.ref wFALSE) := Sta.start evwFALSE (Or.inr ⟨(hw _ (List.mem_of_getElem? (i := 6) rfl)), (hw _ (List.mem_of_getElem? (i := 17) rfl))⟩)
  have ETRUE : Exa s s.heap wTRUE "com/example/turtlehead/turtlehead/Truth" := Exa.start evwTRUE nr0
  have EUNKNOWN : Exa s s.heap wUNKNOWN "com/example/turtlehead/turtlehead/Truth" := Exa.start evwUNKNOWN nr1
  have EFALSE : Exa s s.heap wFALSE "com/example/turtlehead/turtlehead/Truth" := Exa.start evwFALSE nr2
  have FFALSE_ordinal : Fld s s.heap wFALSE "java/lang/Enum" "ordinal" "I" (.int (1 : Int32)) := own_fldI evwFALSE nr3
  have FTRUE_ordinal : Fld s s.heap wTRUE "java/lang/Enum" "ordinal" "I" (.int (0 : Int32)) := own_fldI evwTRUE nr4
  have FUNKNOWN_ordinal : Fld s s.heap wUNKNOWN "java/lang/Enum" "ordinal" "I" (.int (2 : Int32)) := own_fldI evwUNKNOWN nr5
  obtain ⟨n, o, h1, h2, h3, _, L, rfl, ⟨rfl, N⟩, hq⟩ := rm0 l s _ hw tables_1 i0 wTRUE wUNKNOWN wFALSE s.heap s.heap.size (Nat.le_refl _) ⟨STRUE, ETRUE, SUNKNOWN, EUNKNOWN, SFALSE, EFALSE, FFALSE_ordinal, FTRUE_ordinal, FUNKNOWN_ordinal, trivial⟩  p e ha hc hk s m _ below hf ((Spec.applies_iff_loose hf).mp happ).1 ⟨rfl, State.Warmed39.refl s, rfl⟩ trivial
  refine ⟨n, _, h1, h2, h3, hpost _ _ _ _ _ _ ⟨Cond.after_iff.mpr rfl, Cond.after_iff.mpr (eq_i res_at (Term.int_eval (1)) rfl), trivial⟩ ⟨hq.1, hq.2.1, (hq.2.2.sift fun y hy => Or.inr (N y hy)).mono (by decide) (by decide)⟩⟩
theorem main_1_1 : Claimed_1_1 := comes_1 fun _ _ _ _ _ _ h hF => ⟨h.1, hF⟩
theorem main_1_2 : Claimed_1_2 := comes_1 fun _ _ _ _ _ _ h hF => ⟨h.2.1, hF⟩
end Jvm.Pilot.@@N@@
namespace Jvm.Pilot.@@N@@
open Jvm Jvm.ClassFile Sem Op Lib Jvm.Free Jvm.Stand Jvm.Pilot.@@N@@.Jvm.D
/-! MADE BY PROGRAM (witnessworld.py) out of the Statement's table words and the real class files: 12 classes; the members and pool entries that the words name. The judged class is class 1, her method 3. -/
namespace start1
open Jvm.ClassFile
def u (s : String) : CpInfo := .utf8 (stringToUtf16 s)
/-- a pool by its gaps: so many unusable entries, then the entry; so many at the end -/
def gap : Nat → List CpInfo → List CpInfo
  | 0, r => r
  | n + 1, r => .unusable :: gap n r
def poolList (es : List (Nat × CpInfo)) (last : Nat) : List CpInfo := es.foldr (fun e r => gap e.1 (e.2 :: r)) (gap last [])
def pool (es : List (Nat × CpInfo)) (last : Nat) : Array CpInfo := ⟨poolList es last⟩
def fileOf (pool : Array CpInfo) (this : Nat) (attrs : Array Attribute := #[]) (ms : Array MethodInfo := #[]) (fl : Nat := 33) (sup : Nat := 0) (ifs : Array Nat := #[]) (fds : Array FieldInfo := #[]) : ClassFile where
  minorVersion := 0
  majorVersion := 65
  constantPool := pool
  accessFlags := fl
  thisClass := this
  superClass := sup
  interfaces := ifs
  fields := fds
  methods := ms
  attributes := attrs
def plain (name : String) (sup : Option ClassId) : Class where
  name := name
  kind := .ordinary
  loader := none
  accessFlags := 33
  super := sup
  interfaces := #[]
  cf := none
  fields := #[]
  methods := #[]
  instanceTypes := #[]
  staticTypes := #[]
  resolved := #[]
  callSites := []
  init := .initialized
  statics := none
  mirror := none

def pool0 : Array CpInfo := pool [(5, u "<init>"), (0, u "()V"), (1, .class_ 10), (1, u "java/lang/Object")] 113

def k0m0 : Method := { name := "<init>", desc := "()V", sig := { parameters := [], returnType := none }, accessFlags := 1, code := none }
/-- java/lang/Object -/
def k0 : Class := { plain "java/lang/Object" none with
  accessFlags := 33
  interfaces := #[]
  cf := some (fileOf pool0 8 #[] #[{ accessFlags := 1, nameIndex := 5, descriptorIndex := 6, attributes := #[] }] 33 0 #[] #[])
  fields := #[]
  methods := #[k0m0]
  instanceTypes := #[]
  staticTypes := #[]
  resolved := Array.replicate 124 none
  statics := none }

def pool1 : Array CpInfo := pool [(2, .class_ 4), (1, u "java/lang/Object"), (0, u "<init>"), (0, u "()V"), (0, .fieldref 8 9), (0, .class_ 10), (0, .nameAndType 11 12), (0, u "com/example/turtlehead/turtlehead/Truth"), (0, u "TRUE"), (0, u "Lcom/example/turtlehead/turtlehead/Truth;"), (0, .fieldref 8 14), (0, .nameAndType 15 12), (0, u "FALSE"), (0, .fieldref 8 17), (0, .nameAndType 18 12), (0, u "UNKNOWN"), (0, .integer 2147483647), (0, .methodref 21 22), (0, .class_ 23), (0, .nameAndType 24 25), (0, u "com/example/turtlehead/turtlehead/TruthNotPinLaw"), (0, u "pick"), (0, u "(I)Lcom/example/turtlehead/turtlehead/Truth;"), (0, .methodref 8 27), (0, .nameAndType 28 29), (0, u "not"), (0, u "()Lcom/example/turtlehead/turtlehead/Truth;"), (0, .methodref 21 31), (0, .nameAndType 32 25), (0, u "expectedNot"), (3, u "law"), (0, u "(I)Z")] 2

def k1m0 : Method := { name := "<init>", desc := "()V", sig := { parameters := [], returnType := none }, accessFlags := 2, code := none }
def k1c1 : Code := { maxStack := 2, maxLocals := 1, code := method_2_code, exceptionTable := #[], attributes := #[] }
def k1m1 : Method := { name := "pick", desc := "(I)Lcom/example/turtlehead/turtlehead/Truth;", sig := { parameters := [.int], returnType := some (.object "com/example/turtlehead/turtlehead/Truth") }, accessFlags := 10, code := some k1c1 }
def k1c2 : Code := { maxStack := 2, maxLocals := 1, code := method_3_code, exceptionTable := #[], attributes := #[] }
def k1m2 : Method := { name := "expectedNot", desc := "(I)Lcom/example/turtlehead/turtlehead/Truth;", sig := { parameters := [.int], returnType := some (.object "com/example/turtlehead/turtlehead/Truth") }, accessFlags := 10, code := some k1c2 }
def k1c3 : Code := { maxStack := 2, maxLocals := 5, code := code, exceptionTable := #[], attributes := #[] }
def k1m3 : Method := { name := "law", desc := "(I)Z", sig := { parameters := [.int], returnType := some .boolean }, accessFlags := 9, code := some k1c3 }
/-- com/example/turtlehead/turtlehead/TruthNotPinLaw -/
def k1 : Class := { plain "com/example/turtlehead/turtlehead/TruthNotPinLaw" (some 0) with
  accessFlags := 49
  interfaces := #[]
  cf := some (fileOf pool1 21 #[] #[{ accessFlags := 2, nameIndex := 5, descriptorIndex := 6, attributes := #[] }, { accessFlags := 10, nameIndex := 24, descriptorIndex := 25, attributes := #[] }, { accessFlags := 10, nameIndex := 32, descriptorIndex := 25, attributes := #[] }, { accessFlags := 9, nameIndex := 36, descriptorIndex := 37, attributes := #[] }] 49 2 #[] #[])
  fields := #[]
  methods := #[k1m0, k1m1, k1m2, k1m3]
  instanceTypes := #[]
  staticTypes := #[]
  resolved := Array.replicate 40 none
  statics := none }

def pool2 : Array CpInfo := pool [(1, .class_ 2), (0, u "java/lang/constant/Constable"), (0, .class_ 4), (0, u "java/lang/Object")] 6

/-- java/lang/constant/Constable -/
def k2 : Class := { plain "java/lang/constant/Constable" (some 0) with
  accessFlags := 1537
  interfaces := #[]
  cf := some (fileOf pool2 1 #[] #[] 1537 3 #[] #[])
  fields := #[]
  methods := #[]
  instanceTypes := #[]
  staticTypes := #[]
  resolved := Array.replicate 11 none
  statics := none }

def pool3 : Array CpInfo := pool [(1, .class_ 2), (0, u "java/lang/Comparable"), (0, .class_ 4), (0, u "java/lang/Object")] 7

/-- java/lang/Comparable -/
def k3 : Class := { plain "java/lang/Comparable" (some 0) with
  accessFlags := 1537
  interfaces := #[]
  cf := some (fileOf pool3 1 #[] #[] 1537 3 #[] #[])
  fields := #[]
  methods := #[]
  instanceTypes := #[]
  staticTypes := #[]
  resolved := Array.replicate 12 none
  statics := none }

def pool4 : Array CpInfo := pool [(1, .class_ 2), (0, u "java/io/Serializable"), (0, .class_ 4), (0, u "java/lang/Object")] 2

/-- java/io/Serializable -/
def k4 : Class := { plain "java/io/Serializable" (some 0) with
  accessFlags := 1537
  interfaces := #[]
  cf := some (fileOf pool4 1 #[] #[] 1537 3 #[] #[])
  fields := #[]
  methods := #[]
  instanceTypes := #[]
  staticTypes := #[]
  resolved := Array.replicate 7 none
  statics := none }

def pool5 : Array CpInfo := pool [(2, .class_ 4), (1, u "java/lang/Enum"), (0, u "name"), (0, u "Ljava/lang/String;"), (2, u "ordinal"), (0, u "I"), (1, .class_ 14), (1, u "java/lang/Object"), (4, u "hash"), (86, .class_ 108), (1, u "java/lang/Enum$EnumDesc"), (2, .class_ 112), (0, u "java/lang/constant/Constable"), (0, .class_ 114), (0, u "java/lang/Comparable"), (0, .class_ 116), (0, u "java/io/Serializable")] 87

/-- java/lang/Enum -/
def k5 : Class := { plain "java/lang/Enum" (some 0) with
  accessFlags := 1057
  interfaces := #[2, 3, 4]
  cf := some (fileOf pool5 2 #[.nestMembers #[106]] #[] 1057 12 #[111, 113, 115] #[{ accessFlags := 18, nameIndex := 5, descriptorIndex := 6, attributes := #[] }, { accessFlags := 18, nameIndex := 9, descriptorIndex := 10, attributes := #[] }, { accessFlags := 2, nameIndex := 19, descriptorIndex := 10, attributes := #[] }])
  fields := #[{ name := "name", type := (.object "java/lang/String"), accessFlags := 18, slot := 0, constantValue := 0 }, { name := "ordinal", type := .int, accessFlags := 18, slot := 1, constantValue := 0 }, { name := "hash", type := .int, accessFlags := 2, slot := 2, constantValue := 0 }]
  methods := #[]
  instanceTypes := #[(.object "java/lang/String"), .int, .int]
  staticTypes := #[]
  resolved := Array.replicate 204 none
  statics := none }

def pool6 : Array CpInfo := pool [(1, .class_ 2), (0, u "com/example/turtlehead/turtlehead/Truth"), (0, .fieldref 1 4), (0, .nameAndType 5 6), (0, u "TRUE"), (0, u "Lcom/example/turtlehead/turtlehead/Truth;"), (0, .fieldref 1 8), (0, .nameAndType 9 6), (0, u "FALSE"), (0, .fieldref 1 11), (0, .nameAndType 12 6), (0, u "UNKNOWN"), (2, u "$VALUES"), (0, u "[Lcom/example/turtlehead/turtlehead/Truth;"), (6, .class_ 25), (1, u "java/lang/Enum"), (24, u "not"), (0, u "()Lcom/example/turtlehead/turtlehead/Truth;")] 7

def k6c0 : Code := { maxStack := 2, maxLocals := 2, code := prog_105_method_5_code, exceptionTable := #[], attributes := #[] }
def k6m0 : Method := { name := "not", desc := "()Lcom/example/turtlehead/turtlehead/Truth;", sig := { parameters := [], returnType := some (.object "com/example/turtlehead/turtlehead/Truth") }, accessFlags := 1, code := some k6c0 }
/-- com/example/turtlehead/turtlehead/Truth -/
def k6 : Class := { plain "com/example/turtlehead/turtlehead/Truth" (some 5) with
  accessFlags := 16433
  interfaces := #[]
  cf := some (fileOf pool6 1 #[] #[{ accessFlags := 1, nameIndex := 50, descriptorIndex := 51, attributes := #[] }] 16433 23 #[] #[{ accessFlags := 16409, nameIndex := 5, descriptorIndex := 6, attributes := #[] }, { accessFlags := 16409, nameIndex := 9, descriptorIndex := 6, attributes := #[] }, { accessFlags := 16409, nameIndex := 12, descriptorIndex := 6, attributes := #[] }, { accessFlags := 4122, nameIndex := 15, descriptorIndex := 16, attributes := #[] }])
  fields := #[{ name := "TRUE", type := (.object "com/example/turtlehead/turtlehead/Truth"), accessFlags := 16409, slot := 0, constantValue := 0 }, { name := "FALSE", type := (.object "com/example/turtlehead/turtlehead/Truth"), accessFlags := 16409, slot := 1, constantValue := 0 }, { name := "UNKNOWN", type := (.object "com/example/turtlehead/turtlehead/Truth"), accessFlags := 16409, slot := 2, constantValue := 0 }, { name := "$VALUES", type := (.array (.object "com/example/turtlehead/turtlehead/Truth")), accessFlags := 4122, slot := 3, constantValue := 0 }]
  methods := #[k6m0]
  instanceTypes := #[(.object "java/lang/String"), .int, .int]
  staticTypes := #[(.object "com/example/turtlehead/turtlehead/Truth"), (.object "com/example/turtlehead/turtlehead/Truth"), (.object "com/example/turtlehead/turtlehead/Truth"), (.array (.object "com/example/turtlehead/turtlehead/Truth"))]
  resolved := Array.replicate 59 none
  statics := some 0 }

def pool7 : Array CpInfo := pool [(1, u "java/lang/Cloneable"), (0, .class_ 1), (0, u "java/lang/Object"), (0, .class_ 3)] 3

/-- java/lang/Cloneable -/
def k7 : Class := { plain "java/lang/Cloneable" (some 0) with
  accessFlags := 1537
  interfaces := #[]
  cf := some (fileOf pool7 2 #[] #[] 1537 4 #[] #[])
  fields := #[]
  methods := #[]
  instanceTypes := #[]
  staticTypes := #[]
  resolved := Array.replicate 8 none
  statics := none }

/-- the primitive byte -/
def k8 : Class := { plain "byte" none with kind := .primitive 'B', accessFlags := 0x411 }
/-- [B -/
def k9 : Class := { plain "[B" (some 0) with kind := .array 8 .byte, interfaces := #[7, 4], accessFlags := 1041 }

/-- the primitive int -/
def k10 : Class := { plain "int" none with kind := .primitive 'I', accessFlags := 0x411 }
/-- [I -/
def k11 : Class := { plain "[I" (some 0) with kind := .array 10 .int, interfaces := #[7, 4], accessFlags := 1041 }

def heap : Heap := #[{ cls := 6, slots := #[.ref 1, .ref 3, .ref 2, .null], vm := .statics 6 },
  { cls := 6, slots := #[.null, .int 0, .int 0], vm := .none },
  { cls := 6, slots := #[.null, .int 2, .int 0], vm := .none },
  { cls := 6, slots := #[.null, .int 1, .int 0], vm := .none }]
def classes : Array Class := #[k0, k1, k2, k3, k4, k5, k6, k7, k8, k9, k10, k11]
def interned : List (Array UInt16 × Addr) := []
def slotsUsed : Nat := 13
def theMethod : MethodId := ⟨1, 3⟩
def args0 : Array Value := #[.int 5]
def aboutOver (below : List Frame) : State where
  vm := { classes := classes, interned := interned.toArray }
  heap := heap
  slotsUsed := slotsUsed
  threads := #[{ frames := .invoking theMethod args0 :: below }]
def below0 : List Frame := [.native { method := ⟨0, 0⟩, args := #[] }]
def about1 : State := aboutOver below0
def p0 : Program := .bare "" "" ""
def e0 : Env := launch0.env 0 0 0
theorem w_frames : about1.frames = Frame.invoking theMethod args0 :: below0 := rfl
set_option maxRecDepth 65536 in
theorem w_args : argsFit about1.vm theMethod args0 = true := by decide +kernel
set_option maxRecDepth 65536 in
theorem w_heap : heapFits about1 = true := by decide +kernel
set_option maxRecDepth 65536 in
theorem w_runnable : about1.curStatus? = some .runnable := by decide +kernel
set_option maxRecDepth 65536 in
theorem w_alone : about1.alone = true := by decide +kernel
set_option maxRecDepth 65536 in
theorem w_named : about1.methodNamed? x = some theMethod := by decide +kernel
set_option maxRecDepth 65536 in
theorem w_hears : about1.hears theMethod below0 = true := by decide +kernel
set_option maxRecDepth 65536 in
theorem w_ripe : about1.ripe theMethod args0 below0 = true := by decide +kernel
theorem w_running : about1.status = .running := rfl
set_option maxRecDepth 65536 in
theorem w_room : about1.hasRoom e0.platform room_1 = true :=
  launch0.hasRoom_least _ room_1 (by decide +kernel) (by decide +kernel) (by decide +kernel) (by decide +kernel) (by decide +kernel) (by decide +kernel)
theorem allAtoms_all (ts : List Jvm.Cond) (a : Array Jvm.Value) (st : Jvm.State) : (allAtoms ts).before a st = ts.all (fun c => c.before a st) := by
  induction ts with
  | nil => rfl
  | cons c t ih =>
    show (Jvm.Cond.and c (allAtoms t)).before a st = _
    rw [Jvm.Cond.before_and, ih, List.all_cons]
def words1 : List Jvm.Cond := Jvm.Cond.code x code maxLocals ret :: tables_1
/-- a 'code' word, met by the world's own term for the bytes: nothing is compared byte by byte -/
theorem code_word {y : MethodName} {bytes : ByteArray} {mx : Nat} {rt : Option FieldType} {a : Array Value} {s : State} {m : MethodId} {meth : Method} {c : Code} (h1 : s.methodNamed? y = some m) (h2 : s.vm.method? m = some meth) (h3 : meth.code = some c) (h4 : c.code = bytes)
    (h5 : (c.maxLocals == mx && c.exceptionTable.isEmpty && decide (c.maxStack ≤ mostOperands) && decide (meth.sig.returnType = rt) && !meth.locks && decide (parseMethodDescriptor y.desc = some meth.sig)) = true) : (Jvm.Cond.code y bytes mx rt).before a s = true := by
  simp only [Bool.and_eq_true, beq_iff_eq, Bool.not_eq_true', decide_eq_true_eq] at h5
  obtain ⟨⟨⟨⟨⟨g1, g2⟩, g3⟩, g4⟩, g5⟩, g6⟩ := h5
  simp [Cond.before, Cond.holds, Cond.value, h1, h2, h3, h4, g1, g2, g3, g4, g5, g6]
def isCode : Jvm.Cond → Bool
  | .code _ _ _ _ => true
  | _ => false
theorem all_split {L : List Jvm.Cond} {P : Jvm.Cond → Bool} (h1 : L.all (fun c => isCode c || P c) = true) (h2 : ∀ c ∈ L.filter isCode, P c = true) : L.all P = true := by
  refine List.all_eq_true.mpr fun c hc => ?_
  have h := List.all_eq_true.mp h1 c hc
  rcases Bool.eq_false_or_eq_true (isCode c) with hi | hi
  · exact h2 c (List.mem_filter.mpr ⟨hc, hi⟩)
  · simpa [hi] using h
set_option maxRecDepth 65536 in
theorem w_c0 : (Jvm.Cond.code x code maxLocals ret).before args0 about1 = true := code_word (m := ⟨1, 3⟩) (meth := k1m3) (c := k1c3) (by decide +kernel) rfl rfl rfl (by decide +kernel)
set_option maxRecDepth 65536 in
theorem w_c1 : (Jvm.Cond.code ({ cls := "com/example/turtlehead/turtlehead/TruthNotPinLaw", name := "pick", desc := "(I)Lcom/example/turtlehead/turtlehead/Truth;" } : Jvm.MethodName) method_2_code (1 : Nat) (Option.some (Jvm.ClassFile.FieldType.object "com/example/turtlehead/turtlehead/Truth"))).before args0 about1 = true := code_word (m := ⟨1, 1⟩) (meth := k1m1) (c := k1c1) (by decide +kernel) rfl rfl rfl (by decide +kernel)
set_option maxRecDepth 65536 in
theorem w_c2 : (Jvm.Cond.code ({ cls := "com/example/turtlehead/turtlehead/Truth", name := "not", desc := "()Lcom/example/turtlehead/turtlehead/Truth;" } : Jvm.MethodName) prog_105_method_5_code (2 : Nat) (Option.some (Jvm.ClassFile.FieldType.object "com/example/turtlehead/turtlehead/Truth"))).before args0 about1 = true := code_word (m := ⟨6, 0⟩) (meth := k6m0) (c := k6c0) (by decide +kernel) rfl rfl rfl (by decide +kernel)
set_option maxRecDepth 65536 in
theorem w_c3 : (Jvm.Cond.code ({ cls := "com/example/turtlehead/turtlehead/TruthNotPinLaw", name := "expectedNot", desc := "(I)Lcom/example/turtlehead/turtlehead/Truth;" } : Jvm.MethodName) method_3_code (1 : Nat) (Option.some (Jvm.ClassFile.FieldType.object "com/example/turtlehead/turtlehead/Truth"))).before args0 about1 = true := code_word (m := ⟨1, 2⟩) (meth := k1m2) (c := k1c2) (by decide +kernel) rfl rfl rfl (by decide +kernel)
def codes1 : List Jvm.Cond := [Jvm.Cond.code x code maxLocals ret, Jvm.Cond.code ({ cls := "com/example/turtlehead/turtlehead/TruthNotPinLaw", name := "pick", desc := "(I)Lcom/example/turtlehead/turtlehead/Truth;" } : Jvm.MethodName) method_2_code (1 : Nat) (Option.some (Jvm.ClassFile.FieldType.object "com/example/turtlehead/turtlehead/Truth")), Jvm.Cond.code ({ cls := "com/example/turtlehead/turtlehead/Truth", name := "not", desc := "()Lcom/example/turtlehead/turtlehead/Truth;" } : Jvm.MethodName) prog_105_method_5_code (2 : Nat) (Option.some (Jvm.ClassFile.FieldType.object "com/example/turtlehead/turtlehead/Truth")), Jvm.Cond.code ({ cls := "com/example/turtlehead/turtlehead/TruthNotPinLaw", name := "expectedNot", desc := "(I)Lcom/example/turtlehead/turtlehead/Truth;" } : Jvm.MethodName) method_3_code (1 : Nat) (Option.some (Jvm.ClassFile.FieldType.object "com/example/turtlehead/turtlehead/Truth"))]
set_option maxRecDepth 65536 in
theorem codes_eq : words1.filter isCode = codes1 := rfl
theorem w_codes : ∀ c ∈ words1.filter isCode, c.before args0 about1 = true := by
  rw [codes_eq]
  intro c hc
  simp only [codes1, List.mem_cons, List.not_mem_nil, or_false] at hc
  rcases hc with rfl | rfl | rfl | rfl
  · exact w_c0
  · exact w_c1
  · exact w_c2
  · exact w_c3
set_option maxRecDepth 65536 in
theorem w_t1 : words1.all (fun c => isCode c || c.before args0 about1) = true := by decide +kernel
theorem w_tables : (allAtoms (Jvm.Cond.code x code maxLocals ret :: tables_1)).before args0 about1 = true := by
  rw [allAtoms_all]
  show words1.all (fun c => c.before args0 about1) = true
  refine all_split ?_ w_codes
  rw [w_t1]
set_option maxRecDepth 65536 in
theorem w_case : (Jvm.Cond.and given_1 narrow_1).before args0 about1 = true := by decide +kernel
theorem w_applies : (headSpec (Jvm.Cond.code x code maxLocals ret :: tables_1) room_1).applies x e0.platform about1 = true :=
  (Spec.applies_iff w_frames).mpr ⟨w_running, w_runnable, w_alone, w_named, w_hears, w_ripe, w_room, w_tables⟩
theorem atStart : AtStart classFile x code maxLocals ret World_1 tables_1 room_1 Calls_1 rest_1 Pre_1 launch0 p0 e0 about1 theMethod args0 below0 :=
  ⟨lists_1, trivial, launch0.admits_env _ _ _, launch0.least_env, fairChoices_fair.cas, fairChoices_fair.clock, w_frames, w_args, w_heap, w_applies, trivial, trivial, w_case⟩
end start1
theorem witness_1 : WitnessClaimed_1 := ⟨start1.p0, start1.e0, start1.about1, start1.theMethod, start1.args0, start1.below0, start1.atStart⟩
end Jvm.Pilot.@@N@@
