import JvmDerived
import JvmDerived.Pilot.@@N@@Statement
import JvmDerived.Pilot.@@N@@Code
set_option linter.unusedVariables false
set_option linter.unusedSimpArgs false
namespace Jvm.RoadKit
open Sem ClassFile Op Lib Jvm.Stand Jvm.Free Jvm.LawKit
section New
variable {p : Program} {l : Launch} {e : Env} {R : Room} {s : State} {m : MethodId} {args : Array Value} {below : List Frame} {meth : Method} {c : Code} {T : State} {locs : List Loc} {cells slots : Nat}
theorem own_retI (X : Stand p l e R s m args below meth c T locs cells slots) (hx : p.tables.exec = Jvm.exec) {pc : Nat} {Ls : Array Slot} {z : Int32} {rest : List Value} (hret : meth.sig.returnType = some .int) (hd : decode c.code pc = .ok (.ireturn, 1)) {fs : List Frame}
    (hl : ∀ (f : JFrame) (acts : List Action), f.method = m → f.locked = none → f.entered = [] → (doReturn e (T.setTop f) acts (some (.int z))).1 = T.setFrames fs) : Steps p.tables e below (T.setTop (mkF m pc Ls (.int z :: rest))) (T.setFrames fs) :=
  retOut X hx hret rfl (Or.inl ⟨rfl, Or.inl rfl, z, rfl⟩) hd hl
theorem own_retL (X : Stand p l e R s m args below meth c T locs cells slots) (hx : p.tables.exec = Jvm.exec) {pc : Nat} {Ls : Array Slot} {z : Int64} {rest : List Value} (hret : meth.sig.returnType = some .long) (hd : decode c.code pc = .ok (.lreturn, 1)) {fs : List Frame}
    (hl : ∀ (f : JFrame) (acts : List Action), f.method = m → f.locked = none → f.entered = [] → (doReturn e (T.setTop f) acts (some (.long z))).1 = T.setFrames fs) : Steps p.tables e below (T.setTop (mkF m pc Ls (.long z :: rest))) (T.setFrames fs) :=
  retOut X hx hret rfl (Or.inr (Or.inl ⟨rfl, rfl, z, rfl⟩)) hd hl
theorem own_retA (X : Stand p l e R s m args below meth c T locs cells slots) (hx : p.tables.exec = Jvm.exec) {pc : Nat} {Ls : Array Slot} {w : Value} {t : FieldType} {rest : List Value} (hret : meth.sig.returnType = some t) (ht : t.isReference = true) (hw : w.isRef = true) (hd : decode c.code pc = .ok (.areturn, 1)) {fs : List Frame}
    (hl : ∀ (f : JFrame) (acts : List Action), f.method = m → f.locked = none → f.entered = [] → (doReturn e (T.setTop f) acts (some w)).1 = T.setFrames fs) : Steps p.tables e below (T.setTop (mkF m pc Ls (w :: rest))) (T.setFrames fs) :=
  retOut X hx hret (by cases t <;> cases w <;> simp_all [narrow, Value.isRef, FieldType.isReference]) (Or.inr (Or.inr (Or.inr (Or.inr ⟨rfl, ht, hw⟩)))) hd hl
end New
end Jvm.RoadKit
namespace Jvm.Pilot.@@N@@
open Jvm Jvm.ClassFile Sem Op Lib Jvm.Free Jvm.Stand Jvm.LawKit Jvm.RoadKit Bundle Jvm.Pilot.@@N@@.Jvm.D
theorem own_lcEt {x y : Int64} (h : x = y) : lcmpW x y = (0 : Int32) := by rw [lcW]; exact (lc_eq x y).mpr h
theorem own_lcEf {x y : Int64} (h : ¬ (x = y)) : ¬ (lcmpW x y = (0 : Int32)) := by rw [lcW]; exact fun q => h ((lc_eq x y).mp q)
theorem own_lcLt {x y : Int64} (h : x < y) : lcmpW x y < (0 : Int32) := by rw [lcW]; exact (lc_lt x y).mpr h
theorem own_lcLf {x y : Int64} (h : ¬ (x < y)) : ¬ (lcmpW x y < (0 : Int32)) := by rw [lcW]; exact fun q => h ((lc_lt x y).mp q)
theorem own_lcGt {x y : Int64} (h : y < x) : (0 : Int32) < lcmpW x y := by rw [lcW]; exact (lc_gt x y).mpr h
theorem own_lcGf {x y : Int64} (h : ¬ (y < x)) : ¬ ((0 : Int32) < lcmpW x y) := by rw [lcW]; exact fun q => h ((lc_gt x y).mp q)
theorem own_ext_refl (h : Heap) : Ext h h := ⟨Nat.le_refl _, fun _ _ q => q⟩
theorem own_ext_trans {h h' h'' : Heap} (E : Ext h h') (F : Ext h' h'') : Ext h h'' := ⟨Nat.le_trans E.1 F.1, fun a c q => F.2 a c (E.2 a c q)⟩
theorem own_ext_wr {h h' h'' : Heap} {a : Addr} {sl : Nat} {v : Value} (E : Ext h h') (W : Wr h' h'' a sl v) (q : h.size ≤ a) : Ext h h'' := by
  obtain ⟨cell, -, -, -, rfl⟩ := W
  refine ⟨by simpa using E.1, fun b c r => ?_⟩
  have hb : b < h.size := (Array.getElem?_eq_some_iff.mp r).1
  rw [Array.getElem?_setIfInBounds_ne (Nat.ne_of_gt (Nat.lt_of_lt_of_le hb q))]
  exact E.2 b c r
theorem own_fldI {args : Array Value} {s : State} {t : Term} {a : Addr} {C n d : String} {k : Int32} (ev : t.eval args s none [] s = some (.ref a)) (h : (Cond.eq (.field t C n d) (.int k)).value args s none s [] = some true) : Fld s s.heap a C n d (.int k) := by
  obtain ⟨u, v, h1, h2, -, k2⟩ := cmp_v (Or.inl h)
  have e2 : (Term.int k).eval args s none [] s = some (.int k) := rfl
  cases e2.symm.trans h2
  obtain ⟨z, rfl⟩ := k2
  have q : z = k := by simpa [Cond.value, h1, e2] using h
  subst q
  exact Fld.start ((fld_at ev).symm.trans h1)
theorem own_fldJ {args : Array Value} {s : State} {t : Term} {a : Addr} {C n d : String} {k : Int64} (ev : t.eval args s none [] s = some (.ref a)) (h : (Cond.eq (.field t C n d) (.long k)).value args s none s [] = some true) : Fld s s.heap a C n d (.long k) := by
  obtain ⟨u, v, h1, h2, -, k2⟩ := cmp_v (Or.inl h)
  have e2 : (Term.long k).eval args s none [] s = some (.long k) := rfl
  cases e2.symm.trans h2
  obtain ⟨z, rfl⟩ := k2
  have q : z = k := by simpa [Cond.value, h1, e2] using h
  subst q
  exact Fld.start ((fld_at ev).symm.trans h1)
theorem own_fldN {args : Array Value} {s : State} {t : Term} {a : Addr} {C n d : String} (ev : t.eval args s none [] s = some (.ref a)) (h : (Cond.eq (.field t C n d) .null).value args s none s [] = some true) : Fld s s.heap a C n d .null :=
  Fld.start ((fld_at ev).symm.trans (null_v h))
theorem own_eqR {args : Array Value} {s : State} {t u : Term} {b : Addr} (eu : u.eval args s none [] s = some (.ref b)) (h : (Cond.eq t u).value args s none s [] = some true) : t.eval args s none [] s = some (.ref b) := by
  obtain ⟨x, y, h1, h2, k1, k2⟩ := cmp_v (Or.inl h)
  cases eu.symm.trans h2
  have hx : x.isRef = true := k2.2
  have q := gotT (eq_R h1 h2 hx rfl) h
  rw [h1, q]
theorem own_fldR {args : Array Value} {s : State} {t u : Term} {a b : Addr} {C n d : String} (ev : t.eval args s none [] s = some (.ref a)) (eu : u.eval args s none [] s = some (.ref b)) (h : (Cond.eq (.field t C n d) u).value args s none s [] = some true) : Fld s s.heap a C n d (.ref b) :=
  Fld.start ((fld_at ev).symm.trans (own_eqR eu h))
theorem own_elI {args : Array Value} {s : State} {t : Term} {a : Addr} {cl : Cell} {j k : Int32} {i : Nat} (ev : t.eval args s none [] s = some (.ref a)) (hc : s.heap[a]? = some cl) (h : (Cond.eq (.elem t (.int j)) (.int k)).value args s none s [] = some true) (hj : j.toNatClampNeg = i) : cl.slots[i]? = some (.int k) := by
  obtain ⟨u, v, h1, h2, -, k2⟩ := cmp_v (Or.inl h)
  have e2 : (Term.int k).eval args s none [] s = some (.int k) := rfl
  cases e2.symm.trans h2
  obtain ⟨z, rfl⟩ := k2
  have q : z = k := by simpa [Cond.value, h1, e2] using h
  subst q hj
  exact (elem_in h1 ev (rfl : (Term.int j).eval args s none [] s = some (.int j)) hc).2
theorem own_elR {args : Array Value} {s : State} {t u : Term} {a b : Addr} {cl : Cell} {j : Int32} {i : Nat} (ev : t.eval args s none [] s = some (.ref a)) (eu : u.eval args s none [] s = some (.ref b)) (hc : s.heap[a]? = some cl) (h : (Cond.eq (.elem t (.int j)) u).value args s none s [] = some true) (hj : j.toNatClampNeg = i) : cl.slots[i]? = some (.ref b) := by
  subst hj
  exact (elem_in (own_eqR eu h) ev (rfl : (Term.int j).eval args s none [] s = some (.int j)) hc).2
theorem own_len {args : Array Value} {s : State} {t : Term} {a : Addr} {cl : Cell} {ty : FieldType} {k : Int32} (ev : t.eval args s none [] s = some (.ref a)) (A : Arr s s.heap a cl ty) (h : (Cond.eq (.length t) (.int k)).value args s none s [] = some true) : cl.slots.size < 2 ^ 31 ∧ cl.slots.size.toInt32 = k := by
  obtain ⟨u, v, h1, h2, -, k2⟩ := cmp_v (Or.inl h)
  have e2 : (Term.int k).eval args s none [] s = some (.int k) := rfl
  cases e2.symm.trans h2
  obtain ⟨z, rfl⟩ := k2
  have q : z = k := by simpa [Cond.value, h1, e2] using h
  subst q
  have ha := A.fin (Vm.Alike.refl _)
  simp only [Term.eval, ev, ha, Option.bind_eq_bind, Option.bind_some] at h1
  split at h1
  · rename_i q
    exact ⟨q, by simpa using h1⟩
  · cases h1
def World (Z : State) (h : Heap) (wTRUE : Addr) (wFALSE : Addr) (wUNKNOWN : Addr) : Prop := Sta Z h "com/example/turtlehead/turtlehead/Truth" "TRUE" "Lcom/example/turtlehead/turtlehead/Truth;" (.ref wTRUE) ∧ Exa Z h wTRUE "com/example/turtlehead/turtlehead/Truth" ∧ Sta Z h "com/example/turtlehead/turtlehead/Truth" "FALSE" "Lcom/example/turtlehead/turtlehead/Truth;" (.ref wFALSE) ∧ Exa Z h wFALSE "com/example/turtlehead/turtlehead/Truth" ∧ Fld Z h wTRUE "java/lang/Enum" "ordinal" "I" (.int (0 : Int32)) ∧ Fld Z h wFALSE "java/lang/Enum" "ordinal" "I" (.int (1 : Int32)) ∧ Sta Z h "com/example/turtlehead/turtlehead/Truth" "UNKNOWN" "Lcom/example/turtlehead/turtlehead/Truth;" (.ref wUNKNOWN) ∧ Exa Z h wUNKNOWN "com/example/turtlehead/turtlehead/Truth" ∧ Fld Z h wUNKNOWN "java/lang/Enum" "ordinal" "I" (.int (2 : Int32)) ∧ True
theorem World.ext {Z : State} {h h' : Heap} {wTRUE : Addr} {wFALSE : Addr} {wUNKNOWN : Addr} (W : World Z h wTRUE wFALSE wUNKNOWN) (E : Ext h h') : World Z h' wTRUE wFALSE wUNKNOWN := by
  obtain ⟨STRUE, ETRUE, SFALSE, EFALSE, FTRUE_ordinal, FFALSE_ordinal, SUNKNOWN, EUNKNOWN, FUNKNOWN_ordinal, -⟩ := W
  exact ⟨STRUE.ext E, ETRUE.ext E, SFALSE.ext E, EFALSE.ext E, FTRUE_ordinal.ext E, FFALSE_ordinal.ext E, SUNKNOWN.ext E, EUNKNOWN.ext E, FUNKNOWN_ordinal.ext E, trivial⟩
theorem d1_0 : decode method_2_code 0 = .ok (.iload_n 0, 1) := by decide +kernel
theorem d1_1 : decode method_2_code 1 = .ok (.ldc 7, 2) := by decide +kernel
theorem d1_3 : decode method_2_code 3 = .ok (.iand, 1) := by decide +kernel
theorem d1_4 : decode method_2_code 4 = .ok (.iconst 3, 1) := by decide +kernel
theorem d1_5 : decode method_2_code 5 = .ok (.irem, 1) := by decide +kernel
theorem d1_6 : decode method_2_code 6 = .ok (.istore_n 1, 1) := by decide +kernel
theorem d1_7 : decode method_2_code 7 = .ok (.iload_n 1, 1) := by decide +kernel
theorem d1_8 : decode method_2_code 8 = .ok (.ifCond .ne 7, 3) := by decide +kernel
theorem d1_11 : decode method_2_code 11 = .ok (.getstatic 8, 3) := by decide +kernel
theorem d1_14 : decode method_2_code 14 = .ok (.areturn, 1) := by decide +kernel
theorem d1_15 : decode method_2_code 15 = .ok (.iload_n 1, 1) := by decide +kernel
theorem d1_16 : decode method_2_code 16 = .ok (.iconst 1, 1) := by decide +kernel
theorem d1_17 : decode method_2_code 17 = .ok (.if_icmp .ne 7, 3) := by decide +kernel
theorem d1_20 : decode method_2_code 20 = .ok (.getstatic 14, 3) := by decide +kernel
theorem d1_23 : decode method_2_code 23 = .ok (.areturn, 1) := by decide +kernel
theorem d1_24 : decode method_2_code 24 = .ok (.getstatic 17, 3) := by decide +kernel
theorem d1_27 : decode method_2_code 27 = .ok (.areturn, 1) := by decide +kernel
theorem pn_0 : plainName "com/example/turtlehead/turtlehead/TruthAndPinLaw" = true := by first | (simp [plainName, overriddenIn]; done) | decide +kernel
def f1 (p0 : Int32) (wTRUE : Addr) (wFALSE : Addr) (wUNKNOWN : Addr) : Addr := if ((p0 &&& (2147483647 : Int32)) % (3 : Int32)) = (0 : Int32) then wTRUE else if ((p0 &&& (2147483647 : Int32)) % (3 : Int32)) = (1 : Int32) then wFALSE else wUNKNOWN
theorem ef_1 (m : MethodId) (p0 : Int32) : entryFrame m #[(.int p0)] 2 = mkF m 0 #[.val (.int p0), .unset] [] := by first | (simp [entryFrame, mkF, argsToLocals, Value.category]; done) | rfl
def Q1 (Z : State) (p0 : Int32) (wTRUE : Addr) (wFALSE : Addr) (wUNKNOWN : Addr) (h0 : Heap) (n0 : Nat) (v : Option Value) (h : Heap) (L : List Loc) : Prop := v = some (.ref (f1 p0 wTRUE wFALSE wUNKNOWN)) ∧ Fr n0 L ∧ h = h0
set_option maxRecDepth 65536 in
set_option maxHeartbeats 40000000 in
theorem rm1 (l : Launch) (Z : State) (a0 : Array Value) (hw : ∀ d ∈ tables_1, d.before a0 Z = true) (ws : List Jvm.Cond) (p0 : Int32) (wTRUE : Addr) (wFALSE : Addr) (wUNKNOWN : Addr) (h0 : Heap) (n0 : Nat) (Z0 : n0 ≤ h0.size) (W0 : World Z h0 wTRUE wFALSE wUNKNOWN) :
    MetFree l (⟨"com/example/turtlehead/turtlehead/TruthAndPinLaw", "pick", "(I)Lcom/example/turtlehead/turtlehead/Truth;"⟩ : MethodName) (head1 (Jvm.Cond.code (⟨"com/example/turtlehead/turtlehead/TruthAndPinLaw", "pick", "(I)Lcom/example/turtlehead/turtlehead/Truth;"⟩ : MethodName) method_2_code 2 (some (.object "com/example/turtlehead/turtlehead/Truth")) :: ws) ({ frames := 0, cells := 0, slots := 0, locals := 0 } : Room)) (fun a U => a = #[(.int p0)] ∧ Z.Warmed39 U.vm ∧ U.heap = h0) (fun _ _ _ _ _ => True) (fun _ U o U' => ∃ v L, o = .returned v ∧ Q1 Z p0 wTRUE wFALSE wUNKNOWN h0 n0 v U'.heap L ∧ FrameEnd U o U' L ({ frames := 0, cells := 0, slots := 0, locals := 0 } : Room).cells ({ frames := 0, cells := 0, slots := 0, locals := 0 } : Room).slots) := by
  refine MetFree.of_bodySF (plainFor_of_name pn_0) hisR ?_
  intro p e s m args below meth c s₁ Bd hml0 hP hK
  obtain ⟨rfl, hZ, hh⟩ := hP
  have hx := Bd.exec
  have hby := Bd.bytes
  have hml : c.maxLocals = 2 := hml0
  have hown : s.vm.findClass "com/example/turtlehead/turtlehead/TruthAndPinLaw" = some m.cls := findClass_of_methodNamed Bd.named
  have X0 : Stand p l e ({ frames := 0, cells := 0, slots := 0, locals := 0 } : Room) s m #[(.int p0)] below meth c s₁ [] 0 0 := Stand.of_body Bd
  have e0 : s₁.heap = h0 := by rw [← hh, Bd.state]; rfl
  have N0 := Fr.nil n0
  have W1 := W0
  obtain ⟨STRUE, ETRUE, SFALSE, EFALSE, FTRUE_ordinal, FFALSE_ordinal, SUNKNOWN, EUNKNOWN, FUNKNOWN_ordinal, -⟩ := W1
  have pre0 : ∀ t, Steps p.tables e below (s₁.setTop (mkF m 0 #[.val (.int p0), .unset] [])) t → Steps p.tables e below (s₁.setTop (entryFrame m #[(.int p0)] 2)) t := fun t k => castTop (ef_1 m p0) k
  have k1 : ∀ t, Steps p.tables e below (s₁.setTop (mkF m 8 #[.val (.int p0), .val (.int ((p0 &&& (2147483647 : Int32)) % (3 : Int32)))] [(.int ((p0 &&& (2147483647 : Int32)) % (3 : Int32)))])) t → Steps p.tables e below (s₁.setTop (entryFrame m #[(.int p0)] 2)) t := fun t kt => pre0 t (by
    show Steps p.tables e below (s₁.setTop (mkF m 0 #[.val (.int p0), .unset] [])) _
    refine XS.iloadN X0.here hx rfl (hb hby d1_0) rfl ?_
    show Steps p.tables e below (s₁.setTop (mkF m 1 #[.val (.int p0), .unset] [(.int p0)])) _
    refine X0.ldcInt hx hown (mvT hZ (hw _ (List.mem_of_getElem? (i := 4) rfl))) (g := (mkF m 1 #[.val (.int p0), .unset] [(.int p0)])) rfl (hb hby d1_1) _ ?_
    show Steps p.tables e below (s₁.setTop (mkF m 3 #[.val (.int p0), .unset] [(.int (2147483647 : Int32)), (.int p0)])) _
    refine XS.iand X0.here hx rfl (hb hby d1_3) rfl ?_
    show Steps p.tables e below (s₁.setTop (mkF m 4 #[.val (.int p0), .unset] [(.int (p0 &&& (2147483647 : Int32)))])) _
    refine XS.iconst X0.here hx rfl (hb hby d1_4) ?_
    show Steps p.tables e below (s₁.setTop (mkF m 5 #[.val (.int p0), .unset] [(.int (3 : Int32)), (.int (p0 &&& (2147483647 : Int32)))])) _
    refine iremM X0 hx rfl (hb hby d1_5) rfl (by decide) ?_
    show Steps p.tables e below (s₁.setTop (mkF m 6 #[.val (.int p0), .unset] [(.int ((p0 &&& (2147483647 : Int32)) % (3 : Int32)))])) _
    refine XS.istoreN X0.here hx rfl (hb hby d1_6) rfl (l' := #[.val (.int p0), .val (.int ((p0 &&& (2147483647 : Int32)) % (3 : Int32)))]) rfl ?_
    show Steps p.tables e below (s₁.setTop (mkF m 7 #[.val (.int p0), .val (.int ((p0 &&& (2147483647 : Int32)) % (3 : Int32)))] [])) _
    refine XS.iloadN X0.here hx rfl (hb hby d1_7) rfl ?_
    exact kt)
  by_cases hc2 : ((p0 &&& (2147483647 : Int32)) % (3 : Int32)) = (0 : Int32)
  · obtain ⟨T3, X3, e3, st3⟩ := getS2 X0 hx hZ hown (host := "") (Or.inl (hw _ (List.mem_of_getElem? (i := 5) rfl))) Via.refl e0 STRUE (g := (mkF m 11 #[.val (.int p0), .val (.int ((p0 &&& (2147483647 : Int32)) % (3 : Int32)))] [])) rfl (hb hby d1_11)
    obtain ⟨fs, hr, hrun, hended, hW, hsame⟩ := X3.leave (v := some (.ref wTRUE)) (fun h => by rw [Bd.returns] at h; cases h)
    refine ⟨_, _, k1 _ ?_, hrun, hended, _, _, rfl, ?_, ⟨_, rfl⟩, hW, hsame.mono (by decide) (by decide)⟩
    · show Steps p.tables e below (s₁.setTop (mkF m 8 #[.val (.int p0), .val (.int ((p0 &&& (2147483647 : Int32)) % (3 : Int32)))] [(.int ((p0 &&& (2147483647 : Int32)) % (3 : Int32)))])) _
      refine XS.ifNo X0.here hx rfl (hb hby d1_8) rfl ((if0 _ _).trans (teq (hc2 : ((p0 &&& (2147483647 : Int32)) % (3 : Int32)) = (0 : Int32))).2) ?_
      show Steps p.tables e below (s₁.setTop (mkF m 11 #[.val (.int p0), .val (.int ((p0 &&& (2147483647 : Int32)) % (3 : Int32)))] [])) _
      refine st3 _ ?_
      show Steps p.tables e below (T3.setTop (mkF m 14 #[.val (.int p0), .val (.int ((p0 &&& (2147483647 : Int32)) % (3 : Int32)))] [(.ref wTRUE)])) _
      exact own_retA X3 hx Bd.returns rfl rfl (hb hby d1_14) hr
    · show Q1 Z p0 wTRUE wFALSE wUNKNOWN h0 n0 _ T3.heap _
      rw [e3]
      exact ⟨by rw [f1, if_pos hc2], N0, rfl⟩
  · have k4 : ∀ t, Steps p.tables e below (s₁.setTop (mkF m 17 #[.val (.int p0), .val (.int ((p0 &&& (2147483647 : Int32)) % (3 : Int32)))] [(.int (1 : Int32)), (.int ((p0 &&& (2147483647 : Int32)) % (3 : Int32)))])) t → Steps p.tables e below (s₁.setTop (entryFrame m #[(.int p0)] 2)) t := fun t kt => k1 t (by
      show Steps p.tables e below (s₁.setTop (mkF m 8 #[.val (.int p0), .val (.int ((p0 &&& (2147483647 : Int32)) % (3 : Int32)))] [(.int ((p0 &&& (2147483647 : Int32)) % (3 : Int32)))])) _
      refine XS.ifYes X0.here hx rfl (pc0 := 8) (pc' := 15) rfl (hb hby d1_8) rfl ((if0 _ _).trans (feq (hc2 : ¬ (((p0 &&& (2147483647 : Int32)) % (3 : Int32)) = (0 : Int32)))).2) (by decide) (by decide) ?_
      show Steps p.tables e below (s₁.setTop (mkF m 15 #[.val (.int p0), .val (.int ((p0 &&& (2147483647 : Int32)) % (3 : Int32)))] [])) _
      refine XS.iloadN X0.here hx rfl (hb hby d1_15) rfl ?_
      show Steps p.tables e below (s₁.setTop (mkF m 16 #[.val (.int p0), .val (.int ((p0 &&& (2147483647 : Int32)) % (3 : Int32)))] [(.int ((p0 &&& (2147483647 : Int32)) % (3 : Int32)))])) _
      refine XS.iconst X0.here hx rfl (hb hby d1_16) ?_
      exact kt)
    by_cases hc5 : ((p0 &&& (2147483647 : Int32)) % (3 : Int32)) = (1 : Int32)
    · obtain ⟨T6, X6, e6, st6⟩ := getS2 X0 hx hZ hown (host := "") (Or.inl (hw _ (List.mem_of_getElem? (i := 11) rfl))) Via.refl e0 SFALSE (g := (mkF m 20 #[.val (.int p0), .val (.int ((p0 &&& (2147483647 : Int32)) % (3 : Int32)))] [])) rfl (hb hby d1_20)
      obtain ⟨fs, hr, hrun, hended, hW, hsame⟩ := X6.leave (v := some (.ref wFALSE)) (fun h => by rw [Bd.returns] at h; cases h)
      refine ⟨_, _, k4 _ ?_, hrun, hended, _, _, rfl, ?_, ⟨_, rfl⟩, hW, hsame.mono (by decide) (by decide)⟩
      · show Steps p.tables e below (s₁.setTop (mkF m 17 #[.val (.int p0), .val (.int ((p0 &&& (2147483647 : Int32)) % (3 : Int32)))] [(.int (1 : Int32)), (.int ((p0 &&& (2147483647 : Int32)) % (3 : Int32)))])) _
        refine XS.icmpNo X0.here hx rfl (hb hby d1_17) rfl (teq (hc5 : ((p0 &&& (2147483647 : Int32)) % (3 : Int32)) = (1 : Int32))).2 ?_
        show Steps p.tables e below (s₁.setTop (mkF m 20 #[.val (.int p0), .val (.int ((p0 &&& (2147483647 : Int32)) % (3 : Int32)))] [])) _
        refine st6 _ ?_
        show Steps p.tables e below (T6.setTop (mkF m 23 #[.val (.int p0), .val (.int ((p0 &&& (2147483647 : Int32)) % (3 : Int32)))] [(.ref wFALSE)])) _
        exact own_retA X6 hx Bd.returns rfl rfl (hb hby d1_23) hr
      · show Q1 Z p0 wTRUE wFALSE wUNKNOWN h0 n0 _ T6.heap _
        rw [e6]
        exact ⟨by rw [f1, if_neg hc2, if_pos hc5], N0, rfl⟩
    · obtain ⟨T7, X7, e7, st7⟩ := getS2 X0 hx hZ hown (host := "") (Or.inl (hw _ (List.mem_of_getElem? (i := 13) rfl))) Via.refl e0 SUNKNOWN (g := (mkF m 24 #[.val (.int p0), .val (.int ((p0 &&& (2147483647 : Int32)) % (3 : Int32)))] [])) rfl (hb hby d1_24)
      obtain ⟨fs, hr, hrun, hended, hW, hsame⟩ := X7.leave (v := some (.ref wUNKNOWN)) (fun h => by rw [Bd.returns] at h; cases h)
      refine ⟨_, _, k4 _ ?_, hrun, hended, _, _, rfl, ?_, ⟨_, rfl⟩, hW, hsame.mono (by decide) (by decide)⟩
      · show Steps p.tables e below (s₁.setTop (mkF m 17 #[.val (.int p0), .val (.int ((p0 &&& (2147483647 : Int32)) % (3 : Int32)))] [(.int (1 : Int32)), (.int ((p0 &&& (2147483647 : Int32)) % (3 : Int32)))])) _
        refine XS.icmpYes X0.here hx rfl (pc0 := 17) (pc' := 24) rfl (hb hby d1_17) rfl (feq (hc5 : ¬ (((p0 &&& (2147483647 : Int32)) % (3 : Int32)) = (1 : Int32)))).2 (by decide) (by decide) ?_
        show Steps p.tables e below (s₁.setTop (mkF m 24 #[.val (.int p0), .val (.int ((p0 &&& (2147483647 : Int32)) % (3 : Int32)))] [])) _
        refine st7 _ ?_
        show Steps p.tables e below (T7.setTop (mkF m 27 #[.val (.int p0), .val (.int ((p0 &&& (2147483647 : Int32)) % (3 : Int32)))] [(.ref wUNKNOWN)])) _
        exact own_retA X7 hx Bd.returns rfl rfl (hb hby d1_27) hr
      · show Q1 Z p0 wTRUE wFALSE wUNKNOWN h0 n0 _ T7.heap _
        rw [e7]
        exact ⟨by rw [f1, if_neg hc2, if_neg hc5], N0, rfl⟩
theorem d2_0 : decode method_3_code 0 = .ok (.aload_n 0, 1) := by decide +kernel
theorem d2_1 : decode method_3_code 1 = .ok (.getstatic 14, 3) := by decide +kernel
theorem d2_4 : decode method_3_code 4 = .ok (.if_acmp .ne 5, 3) := by decide +kernel
theorem d2_7 : decode method_3_code 7 = .ok (.iconst 0, 1) := by decide +kernel
theorem d2_8 : decode method_3_code 8 = .ok (.ireturn, 1) := by decide +kernel
theorem d2_9 : decode method_3_code 9 = .ok (.aload_n 0, 1) := by decide +kernel
theorem d2_10 : decode method_3_code 10 = .ok (.getstatic 17, 3) := by decide +kernel
theorem d2_13 : decode method_3_code 13 = .ok (.if_acmp .ne 5, 3) := by decide +kernel
theorem d2_16 : decode method_3_code 16 = .ok (.iconst 1, 1) := by decide +kernel
theorem d2_17 : decode method_3_code 17 = .ok (.ireturn, 1) := by decide +kernel
theorem d2_18 : decode method_3_code 18 = .ok (.iconst 2, 1) := by decide +kernel
theorem d2_19 : decode method_3_code 19 = .ok (.ireturn, 1) := by decide +kernel
def f2 (p0 : Addr) (wTRUE : Addr) (wFALSE : Addr) (wUNKNOWN : Addr) : Int32 := if p0 = wFALSE then (0 : Int32) else if p0 = wUNKNOWN then (1 : Int32) else (2 : Int32)
theorem ef_2 (m : MethodId) (p0 : Addr) : entryFrame m #[(.ref p0)] 1 = mkF m 0 #[.val (.ref p0)] [] := by first | (simp [entryFrame, mkF, argsToLocals, Value.category]; done) | rfl
def Q2 (Z : State) (p0 : Addr) (wTRUE : Addr) (wFALSE : Addr) (wUNKNOWN : Addr) (h0 : Heap) (n0 : Nat) (v : Option Value) (h : Heap) (L : List Loc) : Prop := v = some (.int (f2 p0 wTRUE wFALSE wUNKNOWN)) ∧ Fr n0 L ∧ h = h0
set_option maxRecDepth 65536 in
set_option maxHeartbeats 40000000 in
theorem rm2 (l : Launch) (Z : State) (a0 : Array Value) (hw : ∀ d ∈ tables_1, d.before a0 Z = true) (ws : List Jvm.Cond) (p0 : Addr) (wTRUE : Addr) (wFALSE : Addr) (wUNKNOWN : Addr) (h0 : Heap) (n0 : Nat) (Z0 : n0 ≤ h0.size) (W0 : World Z h0 wTRUE wFALSE wUNKNOWN) :
    MetFree l (⟨"com/example/turtlehead/turtlehead/TruthAndPinLaw", "rank", "(Lcom/example/turtlehead/turtlehead/Truth;)I"⟩ : MethodName) (head1 (Jvm.Cond.code (⟨"com/example/turtlehead/turtlehead/TruthAndPinLaw", "rank", "(Lcom/example/turtlehead/turtlehead/Truth;)I"⟩ : MethodName) method_3_code 1 (some .int) :: ws) ({ frames := 0, cells := 0, slots := 0, locals := 0 } : Room)) (fun a U => a = #[(.ref p0)] ∧ Z.Warmed39 U.vm ∧ U.heap = h0) (fun _ _ _ _ _ => True) (fun _ U o U' => ∃ v L, o = .returned v ∧ Q2 Z p0 wTRUE wFALSE wUNKNOWN h0 n0 v U'.heap L ∧ FrameEnd U o U' L ({ frames := 0, cells := 0, slots := 0, locals := 0 } : Room).cells ({ frames := 0, cells := 0, slots := 0, locals := 0 } : Room).slots) := by
  refine MetFree.of_bodySF (plainFor_of_name pn_0) hisR ?_
  intro p e s m args below meth c s₁ Bd hml0 hP hK
  obtain ⟨rfl, hZ, hh⟩ := hP
  have hx := Bd.exec
  have hby := Bd.bytes
  have hml : c.maxLocals = 1 := hml0
  have hown : s.vm.findClass "com/example/turtlehead/turtlehead/TruthAndPinLaw" = some m.cls := findClass_of_methodNamed Bd.named
  have X0 : Stand p l e ({ frames := 0, cells := 0, slots := 0, locals := 0 } : Room) s m #[(.ref p0)] below meth c s₁ [] 0 0 := Stand.of_body Bd
  have e0 : s₁.heap = h0 := by rw [← hh, Bd.state]; rfl
  have N0 := Fr.nil n0
  have W1 := W0
  obtain ⟨STRUE, ETRUE, SFALSE, EFALSE, FTRUE_ordinal, FFALSE_ordinal, SUNKNOWN, EUNKNOWN, FUNKNOWN_ordinal, -⟩ := W1
  have pre0 : ∀ t, Steps p.tables e below (s₁.setTop (mkF m 0 #[.val (.ref p0)] [])) t → Steps p.tables e below (s₁.setTop (entryFrame m #[(.ref p0)] 1)) t := fun t k => castTop (ef_2 m p0) k
  obtain ⟨T8, X8, e8, st8⟩ := getS2 X0 hx hZ hown (host := "") (Or.inl (hw _ (List.mem_of_getElem? (i := 11) rfl))) Via.refl e0 SFALSE (g := (mkF m 1 #[.val (.ref p0)] [(.ref p0)])) rfl (hb hby d2_1)
  have k9 : ∀ t, Steps p.tables e below (T8.setTop (mkF m 4 #[.val (.ref p0)] [(.ref wFALSE), (.ref p0)])) t → Steps p.tables e below (s₁.setTop (entryFrame m #[(.ref p0)] 1)) t := fun t kt => pre0 t (by
    show Steps p.tables e below (s₁.setTop (mkF m 0 #[.val (.ref p0)] [])) _
    refine XS.aloadN X0.here hx rfl (hb hby d2_0) rfl rfl ?_
    show Steps p.tables e below (s₁.setTop (mkF m 1 #[.val (.ref p0)] [(.ref p0)])) _
    refine st8 _ ?_
    exact kt)
  by_cases hc10 : p0 = wFALSE
  · obtain ⟨fs, hr, hrun, hended, hW, hsame⟩ := X8.leave (v := some (.int (0 : Int32))) (fun h => by rw [Bd.returns] at h; cases h)
    refine ⟨_, _, k9 _ ?_, hrun, hended, _, _, rfl, ?_, ⟨_, rfl⟩, hW, hsame.mono (by decide) (by decide)⟩
    · show Steps p.tables e below (T8.setTop (mkF m 4 #[.val (.ref p0)] [(.ref wFALSE), (.ref p0)])) _
      refine Jvm.RoadKit.acmp (g := (mkF m 4 #[.val (.ref p0)] [(.ref wFALSE), (.ref p0)])) X8 hx rfl rfl rfl (pc0 := 4) (pc' := 7) (same := true) rfl (hb hby d2_4) rfl (decide_eq_true (congrArg Value.ref (hc10 : p0 = wFALSE))) (by decide) (by decide) ?_
      show Steps p.tables e below (T8.setTop (mkF m 7 #[.val (.ref p0)] [])) _
      refine XS.iconst X8.here hx rfl (hb hby d2_7) ?_
      show Steps p.tables e below (T8.setTop (mkF m 8 #[.val (.ref p0)] [(.int (0 : Int32))])) _
      exact own_retI X8 hx Bd.returns (hb hby d2_8) hr
    · show Q2 Z p0 wTRUE wFALSE wUNKNOWN h0 n0 _ T8.heap _
      rw [e8]
      exact ⟨by rw [f2, if_pos hc10], N0, rfl⟩
  · obtain ⟨T11, X11, e11, st11⟩ := getS2 X8 hx hZ hown (host := "") (Or.inl (hw _ (List.mem_of_getElem? (i := 13) rfl))) Via.refl e8 SUNKNOWN (g := (mkF m 10 #[.val (.ref p0)] [(.ref p0)])) rfl (hb hby d2_10)
    have k12 : ∀ t, Steps p.tables e below (T11.setTop (mkF m 13 #[.val (.ref p0)] [(.ref wUNKNOWN), (.ref p0)])) t → Steps p.tables e below (s₁.setTop (entryFrame m #[(.ref p0)] 1)) t := fun t kt => k9 t (by
      show Steps p.tables e below (T8.setTop (mkF m 4 #[.val (.ref p0)] [(.ref wFALSE), (.ref p0)])) _
      refine Jvm.RoadKit.acmp (g := (mkF m 4 #[.val (.ref p0)] [(.ref wFALSE), (.ref p0)])) X8 hx rfl rfl rfl (pc0 := 4) (pc' := 9) (same := false) rfl (hb hby d2_4) rfl (decide_eq_false fun q => (hc10 : ¬ (p0 = wFALSE)) (Value.ref.inj q)) (by decide) (by decide) ?_
      show Steps p.tables e below (T8.setTop (mkF m 9 #[.val (.ref p0)] [])) _
      refine XS.aloadN X8.here hx rfl (hb hby d2_9) rfl rfl ?_
      show Steps p.tables e below (T8.setTop (mkF m 10 #[.val (.ref p0)] [(.ref p0)])) _
      refine st11 _ ?_
      exact kt)
    by_cases hc13 : p0 = wUNKNOWN
    · obtain ⟨fs, hr, hrun, hended, hW, hsame⟩ := X11.leave (v := some (.int (1 : Int32))) (fun h => by rw [Bd.returns] at h; cases h)
      refine ⟨_, _, k12 _ ?_, hrun, hended, _, _, rfl, ?_, ⟨_, rfl⟩, hW, hsame.mono (by decide) (by decide)⟩
      · show Steps p.tables e below (T11.setTop (mkF m 13 #[.val (.ref p0)] [(.ref wUNKNOWN), (.ref p0)])) _
        refine Jvm.RoadKit.acmp (g := (mkF m 13 #[.val (.ref p0)] [(.ref wUNKNOWN), (.ref p0)])) X11 hx rfl rfl rfl (pc0 := 13) (pc' := 16) (same := true) rfl (hb hby d2_13) rfl (decide_eq_true (congrArg Value.ref (hc13 : p0 = wUNKNOWN))) (by decide) (by decide) ?_
        show Steps p.tables e below (T11.setTop (mkF m 16 #[.val (.ref p0)] [])) _
        refine XS.iconst X11.here hx rfl (hb hby d2_16) ?_
        show Steps p.tables e below (T11.setTop (mkF m 17 #[.val (.ref p0)] [(.int (1 : Int32))])) _
        exact own_retI X11 hx Bd.returns (hb hby d2_17) hr
      · show Q2 Z p0 wTRUE wFALSE wUNKNOWN h0 n0 _ T11.heap _
        rw [e11]
        exact ⟨by rw [f2, if_neg hc10, if_pos hc13], N0, rfl⟩
    · obtain ⟨fs, hr, hrun, hended, hW, hsame⟩ := X11.leave (v := some (.int (2 : Int32))) (fun h => by rw [Bd.returns] at h; cases h)
      refine ⟨_, _, k12 _ ?_, hrun, hended, _, _, rfl, ?_, ⟨_, rfl⟩, hW, hsame.mono (by decide) (by decide)⟩
      · show Steps p.tables e below (T11.setTop (mkF m 13 #[.val (.ref p0)] [(.ref wUNKNOWN), (.ref p0)])) _
        refine Jvm.RoadKit.acmp (g := (mkF m 13 #[.val (.ref p0)] [(.ref wUNKNOWN), (.ref p0)])) X11 hx rfl rfl rfl (pc0 := 13) (pc' := 18) (same := false) rfl (hb hby d2_13) rfl (decide_eq_false fun q => (hc13 : ¬ (p0 = wUNKNOWN)) (Value.ref.inj q)) (by decide) (by decide) ?_
        show Steps p.tables e below (T11.setTop (mkF m 18 #[.val (.ref p0)] [])) _
        refine XS.iconst X11.here hx rfl (hb hby d2_18) ?_
        show Steps p.tables e below (T11.setTop (mkF m 19 #[.val (.ref p0)] [(.int (2 : Int32))])) _
        exact own_retI X11 hx Bd.returns (hb hby d2_19) hr
      · show Q2 Z p0 wTRUE wFALSE wUNKNOWN h0 n0 _ T11.heap _
        rw [e11]
        exact ⟨by rw [f2, if_neg hc10, if_neg hc13], N0, rfl⟩
theorem d3_0 : decode jdk_29_method_69_code 0 = .ok (.iload_n 0, 1) := by decide +kernel
theorem d3_1 : decode jdk_29_method_69_code 1 = .ok (.iload_n 1, 1) := by decide +kernel
theorem d3_2 : decode jdk_29_method_69_code 2 = .ok (.if_icmp .gt 7, 3) := by decide +kernel
theorem d3_9 : decode jdk_29_method_69_code 9 = .ok (.iload_n 1, 1) := by decide +kernel
theorem d3_10 : decode jdk_29_method_69_code 10 = .ok (.ireturn, 1) := by decide +kernel
theorem d3_5 : decode jdk_29_method_69_code 5 = .ok (.iload_n 0, 1) := by decide +kernel
theorem d3_6 : decode jdk_29_method_69_code 6 = .ok (.goto 4, 3) := by decide +kernel
def f3 (p0 : Int32) (p1 : Int32) : Int32 := if p1 < p0 then p1 else p0
theorem ef_3 (m : MethodId) (p0 : Int32) (p1 : Int32) : entryFrame m #[(.int p0), (.int p1)] 2 = mkF m 0 #[.val (.int p0), .val (.int p1)] [] := by first | (simp [entryFrame, mkF, argsToLocals, Value.category]; done) | rfl
def Q3 (Z : State) (p0 : Int32) (p1 : Int32) (h0 : Heap) (n0 : Nat) (v : Option Value) (h : Heap) (L : List Loc) : Prop := v = some (.int (f3 p0 p1)) ∧ Fr n0 L ∧ h = h0
set_option maxRecDepth 65536 in
set_option maxHeartbeats 40000000 in
theorem rm3 (l : Launch) (Z : State) (a0 : Array Value) (hw : ∀ d ∈ tables_1, d.before a0 Z = true) (ws : List Jvm.Cond) (p0 : Int32) (p1 : Int32) (h0 : Heap) (n0 : Nat) (Z0 : n0 ≤ h0.size) :
    MetFree l (⟨"java/lang/Math", "min", "(II)I"⟩ : MethodName) (head1 (Jvm.Cond.code (⟨"java/lang/Math", "min", "(II)I"⟩ : MethodName) jdk_29_method_69_code 2 (some .int) :: ws) ({ frames := 0, cells := 0, slots := 0, locals := 0 } : Room)) (fun a U => a = #[(.int p0), (.int p1)] ∧ Z.Warmed39 U.vm ∧ U.heap = h0) (fun _ _ _ _ _ => True) (fun _ U o U' => ∃ v L, o = .returned v ∧ Q3 Z p0 p1 h0 n0 v U'.heap L ∧ FrameEnd U o U' L ({ frames := 0, cells := 0, slots := 0, locals := 0 } : Room).cells ({ frames := 0, cells := 0, slots := 0, locals := 0 } : Room).slots) := by
  refine MetFree.of_bodySF (Jvm.Free.JP.mathPlain rfl (by decide +kernel)) hisR ?_
  intro p e s m args below meth c s₁ Bd hml0 hP hK
  obtain ⟨rfl, hZ, hh⟩ := hP
  have hx := Bd.exec
  have hby := Bd.bytes
  have hml : c.maxLocals = 2 := hml0
  have hown : s.vm.findClass "java/lang/Math" = some m.cls := findClass_of_methodNamed Bd.named
  have X0 : Stand p l e ({ frames := 0, cells := 0, slots := 0, locals := 0 } : Room) s m #[(.int p0), (.int p1)] below meth c s₁ [] 0 0 := Stand.of_body Bd
  have e0 : s₁.heap = h0 := by rw [← hh, Bd.state]; rfl
  have N0 := Fr.nil n0
  have pre0 : ∀ t, Steps p.tables e below (s₁.setTop (mkF m 0 #[.val (.int p0), .val (.int p1)] [])) t → Steps p.tables e below (s₁.setTop (entryFrame m #[(.int p0), (.int p1)] 2)) t := fun t k => castTop (ef_3 m p0 p1) k
  have k14 : ∀ t, Steps p.tables e below (s₁.setTop (mkF m 2 #[.val (.int p0), .val (.int p1)] [(.int p1), (.int p0)])) t → Steps p.tables e below (s₁.setTop (entryFrame m #[(.int p0), (.int p1)] 2)) t := fun t kt => pre0 t (by
    show Steps p.tables e below (s₁.setTop (mkF m 0 #[.val (.int p0), .val (.int p1)] [])) _
    refine XS.iloadN X0.here hx rfl (hb hby d3_0) rfl ?_
    show Steps p.tables e below (s₁.setTop (mkF m 1 #[.val (.int p0), .val (.int p1)] [(.int p0)])) _
    refine XS.iloadN X0.here hx rfl (hb hby d3_1) rfl ?_
    exact kt)
  by_cases hc15 : p1 < p0
  · obtain ⟨fs, hr, hrun, hended, hW, hsame⟩ := X0.leave (v := some (.int p1)) (fun h => by rw [Bd.returns] at h; cases h)
    refine ⟨_, _, k14 _ ?_, hrun, hended, _, _, rfl, ?_, ⟨_, rfl⟩, hW, hsame.mono (by decide) (by decide)⟩
    · show Steps p.tables e below (s₁.setTop (mkF m 2 #[.val (.int p0), .val (.int p1)] [(.int p1), (.int p0)])) _
      refine XS.icmpYes X0.here hx rfl (pc0 := 2) (pc' := 9) rfl (hb hby d3_2) rfl (tlt (hc15 : p1 < p0)).2.2.1 (by decide) (by decide) ?_
      show Steps p.tables e below (s₁.setTop (mkF m 9 #[.val (.int p0), .val (.int p1)] [])) _
      refine XS.iloadN X0.here hx rfl (hb hby d3_9) rfl ?_
      show Steps p.tables e below (s₁.setTop (mkF m 10 #[.val (.int p0), .val (.int p1)] [(.int p1)])) _
      exact own_retI X0 hx Bd.returns (hb hby d3_10) hr
    · show Q3 Z p0 p1 h0 n0 _ s₁.heap _
      rw [e0]
      exact ⟨by rw [f3, if_pos hc15], N0, rfl⟩
  · obtain ⟨fs, hr, hrun, hended, hW, hsame⟩ := X0.leave (v := some (.int p0)) (fun h => by rw [Bd.returns] at h; cases h)
    refine ⟨_, _, k14 _ ?_, hrun, hended, _, _, rfl, ?_, ⟨_, rfl⟩, hW, hsame.mono (by decide) (by decide)⟩
    · show Steps p.tables e below (s₁.setTop (mkF m 2 #[.val (.int p0), .val (.int p1)] [(.int p1), (.int p0)])) _
      refine XS.icmpNo X0.here hx rfl (hb hby d3_2) rfl (flt (hc15 : ¬ (p1 < p0))).2.2.1 ?_
      show Steps p.tables e below (s₁.setTop (mkF m 5 #[.val (.int p0), .val (.int p1)] [])) _
      refine XS.iloadN X0.here hx rfl (hb hby d3_5) rfl ?_
      show Steps p.tables e below (s₁.setTop (mkF m 6 #[.val (.int p0), .val (.int p1)] [(.int p0)])) _
      refine XS.goto X0.here hx rfl (pc0 := 6) (pc' := 10) rfl (hb hby d3_6) (by decide) (by decide) ?_
      show Steps p.tables e below (s₁.setTop (mkF m 10 #[.val (.int p0), .val (.int p1)] [(.int p0)])) _
      exact own_retI X0 hx Bd.returns (hb hby d3_10) hr
    · show Q3 Z p0 p1 h0 n0 _ s₁.heap _
      rw [e0]
      exact ⟨by rw [f3, if_neg hc15], N0, rfl⟩
theorem d4_0 : decode prog_105_method_6_code 0 = .ok (.getstatic 3, 3) := by decide +kernel
theorem d4_3 : decode prog_105_method_6_code 3 = .ok (.astore_n 2, 1) := by decide +kernel
theorem d4_4 : decode prog_105_method_6_code 4 = .ok (.aload_n 0, 1) := by decide +kernel
theorem d4_5 : decode prog_105_method_6_code 5 = .ok (.getstatic 7, 3) := by decide +kernel
theorem d4_8 : decode prog_105_method_6_code 8 = .ok (.if_acmp .eq 10, 3) := by decide +kernel
theorem d4_18 : decode prog_105_method_6_code 18 = .ok (.getstatic 7, 3) := by decide +kernel
theorem d4_21 : decode prog_105_method_6_code 21 = .ok (.astore_n 2, 1) := by decide +kernel
theorem d4_22 : decode prog_105_method_6_code 22 = .ok (.goto 21, 3) := by decide +kernel
theorem d4_43 : decode prog_105_method_6_code 43 = .ok (.aload_n 2, 1) := by decide +kernel
theorem d4_44 : decode prog_105_method_6_code 44 = .ok (.areturn, 1) := by decide +kernel
theorem d4_11 : decode prog_105_method_6_code 11 = .ok (.aload_n 1, 1) := by decide +kernel
theorem d4_12 : decode prog_105_method_6_code 12 = .ok (.getstatic 7, 3) := by decide +kernel
theorem d4_15 : decode prog_105_method_6_code 15 = .ok (.if_acmp .ne 10, 3) := by decide +kernel
theorem d4_25 : decode prog_105_method_6_code 25 = .ok (.aload_n 0, 1) := by decide +kernel
theorem d4_26 : decode prog_105_method_6_code 26 = .ok (.getstatic 10, 3) := by decide +kernel
theorem d4_29 : decode prog_105_method_6_code 29 = .ok (.if_acmp .eq 10, 3) := by decide +kernel
theorem d4_39 : decode prog_105_method_6_code 39 = .ok (.getstatic 10, 3) := by decide +kernel
theorem d4_42 : decode prog_105_method_6_code 42 = .ok (.astore_n 2, 1) := by decide +kernel
theorem d4_32 : decode prog_105_method_6_code 32 = .ok (.aload_n 1, 1) := by decide +kernel
theorem d4_33 : decode prog_105_method_6_code 33 = .ok (.getstatic 10, 3) := by decide +kernel
theorem d4_36 : decode prog_105_method_6_code 36 = .ok (.if_acmp .ne 7, 3) := by decide +kernel
theorem pn_1 : plainName "com/example/turtlehead/turtlehead/Truth" = true := by first | (simp [plainName, overriddenIn]; done) | decide +kernel
def f4 (p0 : Addr) (p1 : Addr) (wTRUE : Addr) (wFALSE : Addr) (wUNKNOWN : Addr) : Addr := if p0 = wFALSE then wFALSE else if p1 = wFALSE then wFALSE else if p0 = wUNKNOWN then wUNKNOWN else if p1 = wUNKNOWN then wUNKNOWN else wTRUE
theorem ef_4 (m : MethodId) (p0 : Addr) (p1 : Addr) : entryFrame m #[(.ref p0), (.ref p1)] 3 = mkF m 0 #[.val (.ref p0), .val (.ref p1), .unset] [] := by first | (simp [entryFrame, mkF, argsToLocals, Value.category]; done) | rfl
def Q4 (Z : State) (p0 : Addr) (p1 : Addr) (wTRUE : Addr) (wFALSE : Addr) (wUNKNOWN : Addr) (h0 : Heap) (n0 : Nat) (v : Option Value) (h : Heap) (L : List Loc) : Prop := v = some (.ref (f4 p0 p1 wTRUE wFALSE wUNKNOWN)) ∧ Fr n0 L ∧ h = h0
set_option maxRecDepth 65536 in
set_option maxHeartbeats 40000000 in
theorem rm4 (l : Launch) (Z : State) (a0 : Array Value) (hw : ∀ d ∈ tables_1, d.before a0 Z = true) (ws : List Jvm.Cond) (p0 : Addr) (p1 : Addr) (wTRUE : Addr) (wFALSE : Addr) (wUNKNOWN : Addr) (h0 : Heap) (n0 : Nat) (Z0 : n0 ≤ h0.size) (W0 : World Z h0 wTRUE wFALSE wUNKNOWN) :
    MetFree l (⟨"com/example/turtlehead/turtlehead/Truth", "and", "(Lcom/example/turtlehead/turtlehead/Truth;)Lcom/example/turtlehead/turtlehead/Truth;"⟩ : MethodName) (head1 (Jvm.Cond.code (⟨"com/example/turtlehead/turtlehead/Truth", "and", "(Lcom/example/turtlehead/turtlehead/Truth;)Lcom/example/turtlehead/turtlehead/Truth;"⟩ : MethodName) prog_105_method_6_code 3 (some (.object "com/example/turtlehead/turtlehead/Truth")) :: ws) ({ frames := 0, cells := 0, slots := 0, locals := 0 } : Room)) (fun a U => a = #[(.ref p0), (.ref p1)] ∧ Z.Warmed39 U.vm ∧ U.heap = h0) (fun _ _ _ _ _ => True) (fun _ U o U' => ∃ v L, o = .returned v ∧ Q4 Z p0 p1 wTRUE wFALSE wUNKNOWN h0 n0 v U'.heap L ∧ FrameEnd U o U' L ({ frames := 0, cells := 0, slots := 0, locals := 0 } : Room).cells ({ frames := 0, cells := 0, slots := 0, locals := 0 } : Room).slots) := by
  refine MetFree.of_bodySF (plainFor_of_name pn_1) hisR ?_
  intro p e s m args below meth c s₁ Bd hml0 hP hK
  obtain ⟨rfl, hZ, hh⟩ := hP
  have hx := Bd.exec
  have hby := Bd.bytes
  have hml : c.maxLocals = 3 := hml0
  have hown : s.vm.findClass "com/example/turtlehead/turtlehead/Truth" = some m.cls := findClass_of_methodNamed Bd.named
  have X0 : Stand p l e ({ frames := 0, cells := 0, slots := 0, locals := 0 } : Room) s m #[(.ref p0), (.ref p1)] below meth c s₁ [] 0 0 := Stand.of_body Bd
  have e0 : s₁.heap = h0 := by rw [← hh, Bd.state]; rfl
  have N0 := Fr.nil n0
  have W1 := W0
  obtain ⟨STRUE, ETRUE, SFALSE, EFALSE, FTRUE_ordinal, FFALSE_ordinal, SUNKNOWN, EUNKNOWN, FUNKNOWN_ordinal, -⟩ := W1
  have pre0 : ∀ t, Steps p.tables e below (s₁.setTop (mkF m 0 #[.val (.ref p0), .val (.ref p1), .unset] [])) t → Steps p.tables e below (s₁.setTop (entryFrame m #[(.ref p0), (.ref p1)] 3)) t := fun t k => castTop (ef_4 m p0 p1) k
  obtain ⟨T16, X16, e16, st16⟩ := getS2 X0 hx hZ hown (host := "") (Or.inl (hw _ (List.mem_of_getElem? (i := 24) rfl))) Via.refl e0 STRUE (g := (mkF m 0 #[.val (.ref p0), .val (.ref p1), .unset] [])) rfl (hb hby d4_0)
  obtain ⟨T17, X17, e17, st17⟩ := getS2 X16 hx hZ hown (host := "") (Or.inl (hw _ (List.mem_of_getElem? (i := 25) rfl))) Via.refl e16 SFALSE (g := (mkF m 5 #[.val (.ref p0), .val (.ref p1), .val (.ref wTRUE)] [(.ref p0)])) rfl (hb hby d4_5)
  have k18 : ∀ t, Steps p.tables e below (T17.setTop (mkF m 8 #[.val (.ref p0), .val (.ref p1), .val (.ref wTRUE)] [(.ref wFALSE), (.ref p0)])) t → Steps p.tables e below (s₁.setTop (entryFrame m #[(.ref p0), (.ref p1)] 3)) t := fun t kt => pre0 t (by
    show Steps p.tables e below (s₁.setTop (mkF m 0 #[.val (.ref p0), .val (.ref p1), .unset] [])) _
    refine st16 _ ?_
    show Steps p.tables e below (T16.setTop (mkF m 3 #[.val (.ref p0), .val (.ref p1), .unset] [(.ref wTRUE)])) _
    refine XS.astoreN X16.here hx rfl (hb hby d4_3) rfl rfl (l' := #[.val (.ref p0), .val (.ref p1), .val (.ref wTRUE)]) rfl ?_
    show Steps p.tables e below (T16.setTop (mkF m 4 #[.val (.ref p0), .val (.ref p1), .val (.ref wTRUE)] [])) _
    refine XS.aloadN X16.here hx rfl (hb hby d4_4) rfl rfl ?_
    show Steps p.tables e below (T16.setTop (mkF m 5 #[.val (.ref p0), .val (.ref p1), .val (.ref wTRUE)] [(.ref p0)])) _
    refine st17 _ ?_
    exact kt)
  by_cases hc19 : p0 = wFALSE
  · obtain ⟨T20, X20, e20, st20⟩ := getS2 X17 hx hZ hown (host := "") (Or.inl (hw _ (List.mem_of_getElem? (i := 25) rfl))) Via.refl e17 SFALSE (g := (mkF m 18 #[.val (.ref p0), .val (.ref p1), .val (.ref wTRUE)] [])) rfl (hb hby d4_18)
    obtain ⟨fs, hr, hrun, hended, hW, hsame⟩ := X20.leave (v := some (.ref wFALSE)) (fun h => by rw [Bd.returns] at h; cases h)
    refine ⟨_, _, k18 _ ?_, hrun, hended, _, _, rfl, ?_, ⟨_, rfl⟩, hW, hsame.mono (by decide) (by decide)⟩
    · show Steps p.tables e below (T17.setTop (mkF m 8 #[.val (.ref p0), .val (.ref p1), .val (.ref wTRUE)] [(.ref wFALSE), (.ref p0)])) _
      refine Jvm.RoadKit.acmp (g := (mkF m 8 #[.val (.ref p0), .val (.ref p1), .val (.ref wTRUE)] [(.ref wFALSE), (.ref p0)])) X17 hx rfl rfl rfl (pc0 := 8) (pc' := 18) (same := true) rfl (hb hby d4_8) rfl (decide_eq_true (congrArg Value.ref (hc19 : p0 = wFALSE))) (by decide) (by decide) ?_
      show Steps p.tables e below (T17.setTop (mkF m 18 #[.val (.ref p0), .val (.ref p1), .val (.ref wTRUE)] [])) _
      refine st20 _ ?_
      show Steps p.tables e below (T20.setTop (mkF m 21 #[.val (.ref p0), .val (.ref p1), .val (.ref wTRUE)] [(.ref wFALSE)])) _
      refine XS.astoreN X20.here hx rfl (hb hby d4_21) rfl rfl (l' := #[.val (.ref p0), .val (.ref p1), .val (.ref wFALSE)]) rfl ?_
      show Steps p.tables e below (T20.setTop (mkF m 22 #[.val (.ref p0), .val (.ref p1), .val (.ref wFALSE)] [])) _
      refine XS.goto X20.here hx rfl (pc0 := 22) (pc' := 43) rfl (hb hby d4_22) (by decide) (by decide) ?_
      show Steps p.tables e below (T20.setTop (mkF m 43 #[.val (.ref p0), .val (.ref p1), .val (.ref wFALSE)] [])) _
      refine XS.aloadN X20.here hx rfl (hb hby d4_43) rfl rfl ?_
      show Steps p.tables e below (T20.setTop (mkF m 44 #[.val (.ref p0), .val (.ref p1), .val (.ref wFALSE)] [(.ref wFALSE)])) _
      exact own_retA X20 hx Bd.returns rfl rfl (hb hby d4_44) hr
    · show Q4 Z p0 p1 wTRUE wFALSE wUNKNOWN h0 n0 _ T20.heap _
      rw [e20]
      exact ⟨by rw [f4, if_pos hc19], N0, rfl⟩
  · obtain ⟨T21, X21, e21, st21⟩ := getS2 X17 hx hZ hown (host := "") (Or.inl (hw _ (List.mem_of_getElem? (i := 25) rfl))) Via.refl e17 SFALSE (g := (mkF m 12 #[.val (.ref p0), .val (.ref p1), .val (.ref wTRUE)] [(.ref p1)])) rfl (hb hby d4_12)
    have k22 : ∀ t, Steps p.tables e below (T21.setTop (mkF m 15 #[.val (.ref p0), .val (.ref p1), .val (.ref wTRUE)] [(.ref wFALSE), (.ref p1)])) t → Steps p.tables e below (s₁.setTop (entryFrame m #[(.ref p0), (.ref p1)] 3)) t := fun t kt => k18 t (by
      show Steps p.tables e below (T17.setTop (mkF m 8 #[.val (.ref p0), .val (.ref p1), .val (.ref wTRUE)] [(.ref wFALSE), (.ref p0)])) _
      refine Jvm.RoadKit.acmp (g := (mkF m 8 #[.val (.ref p0), .val (.ref p1), .val (.ref wTRUE)] [(.ref wFALSE), (.ref p0)])) X17 hx rfl rfl rfl (pc0 := 8) (pc' := 11) (same := false) rfl (hb hby d4_8) rfl (decide_eq_false fun q => (hc19 : ¬ (p0 = wFALSE)) (Value.ref.inj q)) (by decide) (by decide) ?_
      show Steps p.tables e below (T17.setTop (mkF m 11 #[.val (.ref p0), .val (.ref p1), .val (.ref wTRUE)] [])) _
      refine XS.aloadN X17.here hx rfl (hb hby d4_11) rfl rfl ?_
      show Steps p.tables e below (T17.setTop (mkF m 12 #[.val (.ref p0), .val (.ref p1), .val (.ref wTRUE)] [(.ref p1)])) _
      refine st21 _ ?_
      exact kt)
    by_cases hc23 : p1 = wFALSE
    · obtain ⟨T24, X24, e24, st24⟩ := getS2 X21 hx hZ hown (host := "") (Or.inl (hw _ (List.mem_of_getElem? (i := 25) rfl))) Via.refl e21 SFALSE (g := (mkF m 18 #[.val (.ref p0), .val (.ref p1), .val (.ref wTRUE)] [])) rfl (hb hby d4_18)
      obtain ⟨fs, hr, hrun, hended, hW, hsame⟩ := X24.leave (v := some (.ref wFALSE)) (fun h => by rw [Bd.returns] at h; cases h)
      refine ⟨_, _, k22 _ ?_, hrun, hended, _, _, rfl, ?_, ⟨_, rfl⟩, hW, hsame.mono (by decide) (by decide)⟩
      · show Steps p.tables e below (T21.setTop (mkF m 15 #[.val (.ref p0), .val (.ref p1), .val (.ref wTRUE)] [(.ref wFALSE), (.ref p1)])) _
        refine Jvm.RoadKit.acmp (g := (mkF m 15 #[.val (.ref p0), .val (.ref p1), .val (.ref wTRUE)] [(.ref wFALSE), (.ref p1)])) X21 hx rfl rfl rfl (pc0 := 15) (pc' := 18) (same := true) rfl (hb hby d4_15) rfl (decide_eq_true (congrArg Value.ref (hc23 : p1 = wFALSE))) (by decide) (by decide) ?_
        show Steps p.tables e below (T21.setTop (mkF m 18 #[.val (.ref p0), .val (.ref p1), .val (.ref wTRUE)] [])) _
        refine st24 _ ?_
        show Steps p.tables e below (T24.setTop (mkF m 21 #[.val (.ref p0), .val (.ref p1), .val (.ref wTRUE)] [(.ref wFALSE)])) _
        refine XS.astoreN X24.here hx rfl (hb hby d4_21) rfl rfl (l' := #[.val (.ref p0), .val (.ref p1), .val (.ref wFALSE)]) rfl ?_
        show Steps p.tables e below (T24.setTop (mkF m 22 #[.val (.ref p0), .val (.ref p1), .val (.ref wFALSE)] [])) _
        refine XS.goto X24.here hx rfl (pc0 := 22) (pc' := 43) rfl (hb hby d4_22) (by decide) (by decide) ?_
        show Steps p.tables e below (T24.setTop (mkF m 43 #[.val (.ref p0), .val (.ref p1), .val (.ref wFALSE)] [])) _
        refine XS.aloadN X24.here hx rfl (hb hby d4_43) rfl rfl ?_
        show Steps p.tables e below (T24.setTop (mkF m 44 #[.val (.ref p0), .val (.ref p1), .val (.ref wFALSE)] [(.ref wFALSE)])) _
        exact own_retA X24 hx Bd.returns rfl rfl (hb hby d4_44) hr
      · show Q4 Z p0 p1 wTRUE wFALSE wUNKNOWN h0 n0 _ T24.heap _
        rw [e24]
        exact ⟨by rw [f4, if_neg hc19, if_pos hc23], N0, rfl⟩
    · obtain ⟨T25, X25, e25, st25⟩ := getS2 X21 hx hZ hown (host := "") (Or.inl (hw _ (List.mem_of_getElem? (i := 26) rfl))) Via.refl e21 SUNKNOWN (g := (mkF m 26 #[.val (.ref p0), .val (.ref p1), .val (.ref wTRUE)] [(.ref p0)])) rfl (hb hby d4_26)
      have k26 : ∀ t, Steps p.tables e below (T25.setTop (mkF m 29 #[.val (.ref p0), .val (.ref p1), .val (.ref wTRUE)] [(.ref wUNKNOWN), (.ref p0)])) t → Steps p.tables e below (s₁.setTop (entryFrame m #[(.ref p0), (.ref p1)] 3)) t := fun t kt => k22 t (by
        show Steps p.tables e below (T21.setTop (mkF m 15 #[.val (.ref p0), .val (.ref p1), .val (.ref wTRUE)] [(.ref wFALSE), (.ref p1)])) _
        refine Jvm.RoadKit.acmp (g := (mkF m 15 #[.val (.ref p0), .val (.ref p1), .val (.ref wTRUE)] [(.ref wFALSE), (.ref p1)])) X21 hx rfl rfl rfl (pc0 := 15) (pc' := 25) (same := false) rfl (hb hby d4_15) rfl (decide_eq_false fun q => (hc23 : ¬ (p1 = wFALSE)) (Value.ref.inj q)) (by decide) (by decide) ?_
        show Steps p.tables e below (T21.setTop (mkF m 25 #[.val (.ref p0), .val (.ref p1), .val (.ref wTRUE)] [])) _
        refine XS.aloadN X21.here hx rfl (hb hby d4_25) rfl rfl ?_
        show Steps p.tables e below (T21.setTop (mkF m 26 #[.val (.ref p0), .val (.ref p1), .val (.ref wTRUE)] [(.ref p0)])) _
        refine st25 _ ?_
        exact kt)
      by_cases hc27 : p0 = wUNKNOWN
      · obtain ⟨T28, X28, e28, st28⟩ := getS2 X25 hx hZ hown (host := "") (Or.inl (hw _ (List.mem_of_getElem? (i := 26) rfl))) Via.refl e25 SUNKNOWN (g := (mkF m 39 #[.val (.ref p0), .val (.ref p1), .val (.ref wTRUE)] [])) rfl (hb hby d4_39)
        obtain ⟨fs, hr, hrun, hended, hW, hsame⟩ := X28.leave (v := some (.ref wUNKNOWN)) (fun h => by rw [Bd.returns] at h; cases h)
        refine ⟨_, _, k26 _ ?_, hrun, hended, _, _, rfl, ?_, ⟨_, rfl⟩, hW, hsame.mono (by decide) (by decide)⟩
        · show Steps p.tables e below (T25.setTop (mkF m 29 #[.val (.ref p0), .val (.ref p1), .val (.ref wTRUE)] [(.ref wUNKNOWN), (.ref p0)])) _
          refine Jvm.RoadKit.acmp (g := (mkF m 29 #[.val (.ref p0), .val (.ref p1), .val (.ref wTRUE)] [(.ref wUNKNOWN), (.ref p0)])) X25 hx rfl rfl rfl (pc0 := 29) (pc' := 39) (same := true) rfl (hb hby d4_29) rfl (decide_eq_true (congrArg Value.ref (hc27 : p0 = wUNKNOWN))) (by decide) (by decide) ?_
          show Steps p.tables e below (T25.setTop (mkF m 39 #[.val (.ref p0), .val (.ref p1), .val (.ref wTRUE)] [])) _
          refine st28 _ ?_
          show Steps p.tables e below (T28.setTop (mkF m 42 #[.val (.ref p0), .val (.ref p1), .val (.ref wTRUE)] [(.ref wUNKNOWN)])) _
          refine XS.astoreN X28.here hx rfl (hb hby d4_42) rfl rfl (l' := #[.val (.ref p0), .val (.ref p1), .val (.ref wUNKNOWN)]) rfl ?_
          show Steps p.tables e below (T28.setTop (mkF m 43 #[.val (.ref p0), .val (.ref p1), .val (.ref wUNKNOWN)] [])) _
          refine XS.aloadN X28.here hx rfl (hb hby d4_43) rfl rfl ?_
          show Steps p.tables e below (T28.setTop (mkF m 44 #[.val (.ref p0), .val (.ref p1), .val (.ref wUNKNOWN)] [(.ref wUNKNOWN)])) _
          exact own_retA X28 hx Bd.returns rfl rfl (hb hby d4_44) hr
        · show Q4 Z p0 p1 wTRUE wFALSE wUNKNOWN h0 n0 _ T28.heap _
          rw [e28]
          exact ⟨by rw [f4, if_neg hc19, if_neg hc23, if_pos hc27], N0, rfl⟩
      · obtain ⟨T29, X29, e29, st29⟩ := getS2 X25 hx hZ hown (host := "") (Or.inl (hw _ (List.mem_of_getElem? (i := 26) rfl))) Via.refl e25 SUNKNOWN (g := (mkF m 33 #[.val (.ref p0), .val (.ref p1), .val (.ref wTRUE)] [(.ref p1)])) rfl (hb hby d4_33)
        have k30 : ∀ t, Steps p.tables e below (T29.setTop (mkF m 36 #[.val (.ref p0), .val (.ref p1), .val (.ref wTRUE)] [(.ref wUNKNOWN), (.ref p1)])) t → Steps p.tables e below (s₁.setTop (entryFrame m #[(.ref p0), (.ref p1)] 3)) t := fun t kt => k26 t (by
          show Steps p.tables e below (T25.setTop (mkF m 29 #[.val (.ref p0), .val (.ref p1), .val (.ref wTRUE)] [(.ref wUNKNOWN), (.ref p0)])) _
          refine Jvm.RoadKit.acmp (g := (mkF m 29 #[.val (.ref p0), .val (.ref p1), .val (.ref wTRUE)] [(.ref wUNKNOWN), (.ref p0)])) X25 hx rfl rfl rfl (pc0 := 29) (pc' := 32) (same := false) rfl (hb hby d4_29) rfl (decide_eq_false fun q => (hc27 : ¬ (p0 = wUNKNOWN)) (Value.ref.inj q)) (by decide) (by decide) ?_
          show Steps p.tables e below (T25.setTop (mkF m 32 #[.val (.ref p0), .val (.ref p1), .val (.ref wTRUE)] [])) _
          refine XS.aloadN X25.here hx rfl (hb hby d4_32) rfl rfl ?_
          show Steps p.tables e below (T25.setTop (mkF m 33 #[.val (.ref p0), .val (.ref p1), .val (.ref wTRUE)] [(.ref p1)])) _
          refine st29 _ ?_
          exact kt)
        by_cases hc31 : p1 = wUNKNOWN
        · obtain ⟨T32, X32, e32, st32⟩ := getS2 X29 hx hZ hown (host := "") (Or.inl (hw _ (List.mem_of_getElem? (i := 26) rfl))) Via.refl e29 SUNKNOWN (g := (mkF m 39 #[.val (.ref p0), .val (.ref p1), .val (.ref wTRUE)] [])) rfl (hb hby d4_39)
          obtain ⟨fs, hr, hrun, hended, hW, hsame⟩ := X32.leave (v := some (.ref wUNKNOWN)) (fun h => by rw [Bd.returns] at h; cases h)
          refine ⟨_, _, k30 _ ?_, hrun, hended, _, _, rfl, ?_, ⟨_, rfl⟩, hW, hsame.mono (by decide) (by decide)⟩
          · show Steps p.tables e below (T29.setTop (mkF m 36 #[.val (.ref p0), .val (.ref p1), .val (.ref wTRUE)] [(.ref wUNKNOWN), (.ref p1)])) _
            refine Jvm.RoadKit.acmp (g := (mkF m 36 #[.val (.ref p0), .val (.ref p1), .val (.ref wTRUE)] [(.ref wUNKNOWN), (.ref p1)])) X29 hx rfl rfl rfl (pc0 := 36) (pc' := 39) (same := true) rfl (hb hby d4_36) rfl (decide_eq_true (congrArg Value.ref (hc31 : p1 = wUNKNOWN))) (by decide) (by decide) ?_
            show Steps p.tables e below (T29.setTop (mkF m 39 #[.val (.ref p0), .val (.ref p1), .val (.ref wTRUE)] [])) _
            refine st32 _ ?_
            show Steps p.tables e below (T32.setTop (mkF m 42 #[.val (.ref p0), .val (.ref p1), .val (.ref wTRUE)] [(.ref wUNKNOWN)])) _
            refine XS.astoreN X32.here hx rfl (hb hby d4_42) rfl rfl (l' := #[.val (.ref p0), .val (.ref p1), .val (.ref wUNKNOWN)]) rfl ?_
            show Steps p.tables e below (T32.setTop (mkF m 43 #[.val (.ref p0), .val (.ref p1), .val (.ref wUNKNOWN)] [])) _
            refine XS.aloadN X32.here hx rfl (hb hby d4_43) rfl rfl ?_
            show Steps p.tables e below (T32.setTop (mkF m 44 #[.val (.ref p0), .val (.ref p1), .val (.ref wUNKNOWN)] [(.ref wUNKNOWN)])) _
            exact own_retA X32 hx Bd.returns rfl rfl (hb hby d4_44) hr
          · show Q4 Z p0 p1 wTRUE wFALSE wUNKNOWN h0 n0 _ T32.heap _
            rw [e32]
            exact ⟨by rw [f4, if_neg hc19, if_neg hc23, if_neg hc27, if_pos hc31], N0, rfl⟩
        · obtain ⟨fs, hr, hrun, hended, hW, hsame⟩ := X29.leave (v := some (.ref wTRUE)) (fun h => by rw [Bd.returns] at h; cases h)
          refine ⟨_, _, k30 _ ?_, hrun, hended, _, _, rfl, ?_, ⟨_, rfl⟩, hW, hsame.mono (by decide) (by decide)⟩
          · show Steps p.tables e below (T29.setTop (mkF m 36 #[.val (.ref p0), .val (.ref p1), .val (.ref wTRUE)] [(.ref wUNKNOWN), (.ref p1)])) _
            refine Jvm.RoadKit.acmp (g := (mkF m 36 #[.val (.ref p0), .val (.ref p1), .val (.ref wTRUE)] [(.ref wUNKNOWN), (.ref p1)])) X29 hx rfl rfl rfl (pc0 := 36) (pc' := 43) (same := false) rfl (hb hby d4_36) rfl (decide_eq_false fun q => (hc31 : ¬ (p1 = wUNKNOWN)) (Value.ref.inj q)) (by decide) (by decide) ?_
            show Steps p.tables e below (T29.setTop (mkF m 43 #[.val (.ref p0), .val (.ref p1), .val (.ref wTRUE)] [])) _
            refine XS.aloadN X29.here hx rfl (hb hby d4_43) rfl rfl ?_
            show Steps p.tables e below (T29.setTop (mkF m 44 #[.val (.ref p0), .val (.ref p1), .val (.ref wTRUE)] [(.ref wTRUE)])) _
            exact own_retA X29 hx Bd.returns rfl rfl (hb hby d4_44) hr
          · show Q4 Z p0 p1 wTRUE wFALSE wUNKNOWN h0 n0 _ T29.heap _
            rw [e29]
            exact ⟨by rw [f4, if_neg hc19, if_neg hc23, if_neg hc27, if_neg hc31], N0, rfl⟩
theorem pd_0 : parseMethodDescriptor "(I)Lcom/example/turtlehead/turtlehead/Truth;" = some ⟨[.int], some (.object "com/example/turtlehead/turtlehead/Truth")⟩ := by decide +kernel
theorem pd_1 : parseMethodDescriptor "(Lcom/example/turtlehead/turtlehead/Truth;)I" = some ⟨[(.object "com/example/turtlehead/turtlehead/Truth")], some .int⟩ := by decide +kernel
theorem pd_2 : parseMethodDescriptor "(II)I" = some ⟨[.int, .int], some .int⟩ := by decide +kernel
theorem pd_3 : parseMethodDescriptor "(Lcom/example/turtlehead/turtlehead/Truth;)Lcom/example/turtlehead/turtlehead/Truth;" = some ⟨[(.object "com/example/turtlehead/turtlehead/Truth")], some (.object "com/example/turtlehead/turtlehead/Truth")⟩ := by decide +kernel
theorem ef_0 (m : MethodId) (p0 : Int32) (p1 : Int32) : entryFrame m #[(.int p0), (.int p1)] maxLocals = mkF m 0 #[.val (.int p0), .val (.int p1), .unset, .unset, .unset, .unset] [] := by first | (simp [entryFrame, mkF, argsToLocals, Value.category, maxLocals]; done) | rfl
def Q0 (Z : State) (p0 : Int32) (p1 : Int32) (wTRUE : Addr) (wFALSE : Addr) (wUNKNOWN : Addr) (h0 : Heap) (n0 : Nat) (v : Option Value) (h : Heap) (L : List Loc) : Prop := v = some (.int 1) ∧ Fr n0 L
set_option maxRecDepth 65536 in
set_option maxHeartbeats 40000000 in
theorem rm0 (l : Launch) (Z : State) (a0 : Array Value) (hw : ∀ d ∈ tables_1, d.before a0 Z = true) (ws : List Jvm.Cond) (p0 : Int32) (p1 : Int32) (wTRUE : Addr) (wFALSE : Addr) (wUNKNOWN : Addr) (h0 : Heap) (n0 : Nat) (Z0 : n0 ≤ h0.size) (W0 : World Z h0 wTRUE wFALSE wUNKNOWN) :
    MetFree l x (head1 (Jvm.Cond.code x code maxLocals ret :: ws) room_1) (fun a U => a = #[(.int p0), (.int p1)] ∧ Z.Warmed39 U.vm ∧ U.heap = h0) (fun _ _ _ _ _ => True) (fun _ U o U' => ∃ v L, o = .returned v ∧ Q0 Z p0 p1 wTRUE wFALSE wUNKNOWN h0 n0 v U'.heap L ∧ FrameEnd U o U' L room_1.cells room_1.slots) := by
  refine MetFree.of_bodySF (plainFor_of_name pn_0) hisR ?_
  intro p e s m args below meth c s₁ Bd hml0 hP hK
  obtain ⟨rfl, hZ, hh⟩ := hP
  have hx := Bd.exec
  have hby := Bd.bytes
  have hml : c.maxLocals = 6 := hml0
  have hown : s.vm.findClass "com/example/turtlehead/turtlehead/TruthAndPinLaw" = some m.cls := findClass_of_methodNamed Bd.named
  have X0 : Stand p l e room_1 s m #[(.int p0), (.int p1)] below meth c s₁ [] 0 0 := Stand.of_body Bd
  have e0 : s₁.heap = h0 := by rw [← hh, Bd.state]; rfl
  have N0 := Fr.nil n0
  have W1 := W0
  obtain ⟨STRUE, ETRUE, SFALSE, EFALSE, FTRUE_ordinal, FFALSE_ordinal, SUNKNOWN, EUNKNOWN, FUNKNOWN_ordinal, -⟩ := W1
  have pre0 : ∀ t, Steps p.tables e below (s₁.setTop (mkF m 0 #[.val (.int p0), .val (.int p1), .unset, .unset, .unset, .unset] [])) t → Steps p.tables e below (s₁.setTop (entryFrame m #[(.int p0), (.int p1)] maxLocals)) t := fun t k => castTop (ef_0 m p0 p1) k
  obtain ⟨_, _, ⟨T33, L33, k33, n33⟩, -, X33, ⟨Lc33, hQ33, l33, y33, z33⟩, st33⟩ := Jvm.LawKit.callS X0 hx (y := (⟨"com/example/turtlehead/turtlehead/TruthAndPinLaw", "pick", "(I)Lcom/example/turtlehead/turtlehead/Truth;"⟩ : MethodName)) hown (mvT hZ (hw _ (List.mem_of_getElem? (i := 0) rfl))) (mvT hZ (hw _ (List.mem_of_getElem? (i := 1) rfl))) (mvT hZ (hw _ (List.mem_of_getElem? (i := 2) rfl))) (mvT hZ (hw _ (List.mem_of_getElem? (i := 3) rfl))) (by decide) (backOf (W := 0) (rm1 l Z a0 hw [] p0 wTRUE wFALSE wUNKNOWN h0 n0 Z0 W0 ) hZ (hw _ (List.mem_of_getElem? (i := 3) rfl)) (hw _ (List.mem_of_getElem? (i := 2) rfl)) (by decide) (by decide)) (g := (mkF m 1 #[.val (.int p0), .val (.int p1), .unset, .unset, .unset, .unset] [(.int p0)])) rfl (by rw [hml]; rfl) (argsL := [(.int p0)]) (rest := []) (lenOf pd_0 rfl) rfl (by show 2 * 0 + _ ≤ _; exact Nat.le_of_eq rfl) (hb hby at_1) (fun _ _ => ⟨rfl, e0, (by decide : 0 + 0 ≤ _), (by decide : 0 + 0 ≤ _)⟩)
  dsimp only [Pt.U, Pt.locs, Pt.cells, Pt.slots] at X33 l33 y33 z33 st33 hQ33
  subst l33 y33 z33
  unfold Q1 at hQ33
  have k34 : ∀ t, Steps p.tables e below (s₁.setTop (mkF m 1 #[.val (.int p0), .val (.int p1), .unset, .unset, .unset, .unset] [(.int p0)])) t → Steps p.tables e below (s₁.setTop (entryFrame m #[(.int p0), (.int p1)] maxLocals)) t := fun t kt => pre0 t (by
    show Steps p.tables e below (s₁.setTop (mkF m 0 #[.val (.int p0), .val (.int p1), .unset, .unset, .unset, .unset] [])) _
    refine XS.iloadN X0.here hx rfl (hb hby at_0) rfl ?_
    exact kt)
  by_cases hc35 : ((p0 &&& (2147483647 : Int32)) % (3 : Int32)) = (0 : Int32)
  · rw [((by rw [f1, if_pos (hc35 : ((p0 &&& (2147483647 : Int32)) % (3 : Int32)) = (0 : Int32))]) : (f1 p0 wTRUE wFALSE wUNKNOWN) = wTRUE)] at hQ33
    obtain ⟨rfl, N33q, e33⟩ := hQ33
    have N33 := Fr.app N0 N33q
    obtain ⟨_, _, ⟨T36, L36, k36, n36⟩, -, X36, ⟨Lc36, hQ36, l36, y36, z36⟩, st36⟩ := Jvm.LawKit.callS X33 hx (y := (⟨"com/example/turtlehead/turtlehead/TruthAndPinLaw", "pick", "(I)Lcom/example/turtlehead/turtlehead/Truth;"⟩ : MethodName)) hown (mvT hZ (hw _ (List.mem_of_getElem? (i := 0) rfl))) (mvT hZ (hw _ (List.mem_of_getElem? (i := 1) rfl))) (mvT hZ (hw _ (List.mem_of_getElem? (i := 2) rfl))) (mvT hZ (hw _ (List.mem_of_getElem? (i := 3) rfl))) (by decide) (backOf (W := 0) (rm1 l Z a0 hw [] p1 wTRUE wFALSE wUNKNOWN h0 n0 Z0 W0 ) hZ (hw _ (List.mem_of_getElem? (i := 3) rfl)) (hw _ (List.mem_of_getElem? (i := 2) rfl)) (by decide) (by decide)) (g := (mkF m 6 #[.val (.int p0), .val (.int p1), .val (.ref wTRUE), .unset, .unset, .unset] [(.int p1)])) rfl (by rw [hml]; rfl) (argsL := [(.int p1)]) (rest := []) (lenOf pd_0 rfl) rfl (by show 2 * 0 + _ ≤ _; exact Nat.le_of_eq rfl) (hb hby at_6) (fun _ _ => ⟨rfl, e33, (by decide : 0 + 0 ≤ _), (by decide : 0 + 0 ≤ _)⟩)
    dsimp only [Pt.U, Pt.locs, Pt.cells, Pt.slots] at X36 l36 y36 z36 st36 hQ36
    subst l36 y36 z36
    unfold Q1 at hQ36
    have k37 : ∀ t, Steps p.tables e below (T33.setTop (mkF m 6 #[.val (.int p0), .val (.int p1), .val (.ref wTRUE), .unset, .unset, .unset] [(.int p1)])) t → Steps p.tables e below (s₁.setTop (entryFrame m #[(.int p0), (.int p1)] maxLocals)) t := fun t kt => k34 t (by
      show Steps p.tables e below (s₁.setTop (mkF m 1 #[.val (.int p0), .val (.int p1), .unset, .unset, .unset, .unset] [(.int p0)])) _
      refine st33 _ ?_
      show Steps p.tables e below (T33.setTop (mkF m 4 #[.val (.int p0), .val (.int p1), .unset, .unset, .unset, .unset] [(.ref wTRUE)])) _
      refine XS.astoreN X33.here hx rfl (hb hby at_4) rfl rfl (l' := #[.val (.int p0), .val (.int p1), .val (.ref wTRUE), .unset, .unset, .unset]) rfl ?_
      show Steps p.tables e below (T33.setTop (mkF m 5 #[.val (.int p0), .val (.int p1), .val (.ref wTRUE), .unset, .unset, .unset] [])) _
      refine XS.iloadN X33.here hx rfl (hb hby at_5) rfl ?_
      exact kt)
    by_cases hc38 : ((p1 &&& (2147483647 : Int32)) % (3 : Int32)) = (0 : Int32)
    · rw [((by rw [f1, if_pos (hc38 : ((p1 &&& (2147483647 : Int32)) % (3 : Int32)) = (0 : Int32))]) : (f1 p1 wTRUE wFALSE wUNKNOWN) = wTRUE)] at hQ36
      obtain ⟨rfl, N36q, e36⟩ := hQ36
      have N36 := Fr.app N33 N36q
      obtain ⟨_, _, ⟨T39, L39, k39, n39⟩, -, X39, ⟨Lc39, hQ39, l39, y39, z39⟩, st39⟩ := Jvm.LawKit.callS X36 hx (y := (⟨"com/example/turtlehead/turtlehead/TruthAndPinLaw", "rank", "(Lcom/example/turtlehead/turtlehead/Truth;)I"⟩ : MethodName)) hown (mvT hZ (hw _ (List.mem_of_getElem? (i := 8) rfl))) (mvT hZ (hw _ (List.mem_of_getElem? (i := 9) rfl))) (mvT hZ (hw _ (List.mem_of_getElem? (i := 2) rfl))) (mvT hZ (hw _ (List.mem_of_getElem? (i := 10) rfl))) (by decide) (backOf (W := 0) (rm2 l Z a0 hw [] wTRUE wTRUE wFALSE wUNKNOWN h0 n0 Z0 W0 ) hZ (hw _ (List.mem_of_getElem? (i := 10) rfl)) (hw _ (List.mem_of_getElem? (i := 2) rfl)) (by decide) (by decide)) (g := (mkF m 11 #[.val (.int p0), .val (.int p1), .val (.ref wTRUE), .val (.ref wTRUE), .unset, .unset] [(.ref wTRUE)])) rfl (by rw [hml]; rfl) (argsL := [(.ref wTRUE)]) (rest := []) (lenOf pd_1 rfl) rfl (by show 2 * 0 + _ ≤ _; exact Nat.le_of_eq rfl) (hb hby at_11) (fun _ _ => ⟨rfl, e36, (by decide : 0 + 0 ≤ _), (by decide : 0 + 0 ≤ _)⟩)
      dsimp only [Pt.U, Pt.locs, Pt.cells, Pt.slots] at X39 l39 y39 z39 st39 hQ39
      subst l39 y39 z39
      unfold Q2 at hQ39
      have k40 : ∀ t, Steps p.tables e below (T36.setTop (mkF m 11 #[.val (.int p0), .val (.int p1), .val (.ref wTRUE), .val (.ref wTRUE), .unset, .unset] [(.ref wTRUE)])) t → Steps p.tables e below (s₁.setTop (entryFrame m #[(.int p0), (.int p1)] maxLocals)) t := fun t kt => k37 t (by
        show Steps p.tables e below (T33.setTop (mkF m 6 #[.val (.int p0), .val (.int p1), .val (.ref wTRUE), .unset, .unset, .unset] [(.int p1)])) _
        refine st36 _ ?_
        show Steps p.tables e below (T36.setTop (mkF m 9 #[.val (.int p0), .val (.int p1), .val (.ref wTRUE), .unset, .unset, .unset] [(.ref wTRUE)])) _
        refine XS.astoreN X36.here hx rfl (hb hby at_9) rfl rfl (l' := #[.val (.int p0), .val (.int p1), .val (.ref wTRUE), .val (.ref wTRUE), .unset, .unset]) rfl ?_
        show Steps p.tables e below (T36.setTop (mkF m 10 #[.val (.int p0), .val (.int p1), .val (.ref wTRUE), .val (.ref wTRUE), .unset, .unset] [])) _
        refine XS.aloadN X36.here hx rfl (hb hby at_10) rfl rfl ?_
        exact kt)
      rw [((by rw [f2, if_neg ((Fld.ne FTRUE_ordinal FFALSE_ordinal (by decide)) : ¬ (wTRUE = wFALSE)), if_neg ((Fld.ne FTRUE_ordinal FUNKNOWN_ordinal (by decide)) : ¬ (wTRUE = wUNKNOWN))]) : (f2 wTRUE wTRUE wFALSE wUNKNOWN) = (2 : Int32))] at hQ39
      obtain ⟨rfl, N39q, e39⟩ := hQ39
      have N39 := Fr.app N36 N39q
      obtain ⟨_, _, ⟨T41, L41, k41, n41⟩, -, X41, ⟨Lc41, hQ41, l41, y41, z41⟩, st41⟩ := Jvm.LawKit.callS X39 hx (y := (⟨"com/example/turtlehead/turtlehead/TruthAndPinLaw", "rank", "(Lcom/example/turtlehead/turtlehead/Truth;)I"⟩ : MethodName)) hown (mvT hZ (hw _ (List.mem_of_getElem? (i := 8) rfl))) (mvT hZ (hw _ (List.mem_of_getElem? (i := 9) rfl))) (mvT hZ (hw _ (List.mem_of_getElem? (i := 2) rfl))) (mvT hZ (hw _ (List.mem_of_getElem? (i := 10) rfl))) (by decide) (backOf (W := 1) (rm2 l Z a0 hw [] wTRUE wTRUE wFALSE wUNKNOWN h0 n0 Z0 W0 ) hZ (hw _ (List.mem_of_getElem? (i := 10) rfl)) (hw _ (List.mem_of_getElem? (i := 2) rfl)) (by decide) (by decide)) (g := (mkF m 15 #[.val (.int p0), .val (.int p1), .val (.ref wTRUE), .val (.ref wTRUE), .unset, .unset] [(.ref wTRUE), (.int (2 : Int32))])) rfl (by rw [hml]; rfl) (argsL := [(.ref wTRUE)]) (rest := [(.int (2 : Int32))]) (lenOf pd_1 rfl) rfl (by show 2 * 0 + _ ≤ _; exact Nat.le_of_eq rfl) (hb hby at_15) (fun _ _ => ⟨rfl, e39, (by decide : 0 + 0 ≤ _), (by decide : 0 + 0 ≤ _)⟩)
      dsimp only [Pt.U, Pt.locs, Pt.cells, Pt.slots] at X41 l41 y41 z41 st41 hQ41
      subst l41 y41 z41
      unfold Q2 at hQ41
      have k42 : ∀ t, Steps p.tables e below (T39.setTop (mkF m 15 #[.val (.int p0), .val (.int p1), .val (.ref wTRUE), .val (.ref wTRUE), .unset, .unset] [(.ref wTRUE), (.int (2 : Int32))])) t → Steps p.tables e below (s₁.setTop (entryFrame m #[(.int p0), (.int p1)] maxLocals)) t := fun t kt => k40 t (by
        show Steps p.tables e below (T36.setTop (mkF m 11 #[.val (.int p0), .val (.int p1), .val (.ref wTRUE), .val (.ref wTRUE), .unset, .unset] [(.ref wTRUE)])) _
        refine st39 _ ?_
        show Steps p.tables e below (T39.setTop (mkF m 14 #[.val (.int p0), .val (.int p1), .val (.ref wTRUE), .val (.ref wTRUE), .unset, .unset] [(.int (2 : Int32))])) _
        refine XS.aloadN X39.here hx rfl (hb hby at_14) rfl rfl ?_
        exact kt)
      rw [((by rw [f2, if_neg ((Fld.ne FTRUE_ordinal FFALSE_ordinal (by decide)) : ¬ (wTRUE = wFALSE)), if_neg ((Fld.ne FTRUE_ordinal FUNKNOWN_ordinal (by decide)) : ¬ (wTRUE = wUNKNOWN))]) : (f2 wTRUE wTRUE wFALSE wUNKNOWN) = (2 : Int32))] at hQ41
      obtain ⟨rfl, N41q, e41⟩ := hQ41
      have N41 := Fr.app N39 N41q
      obtain ⟨_, _, ⟨T43, L43, k43, n43⟩, -, X43, ⟨Lc43, hQ43, l43, y43, z43⟩, st43⟩ := Jvm.LawKit.callS X41 hx (y := (⟨"java/lang/Math", "min", "(II)I"⟩ : MethodName)) hown (mvT hZ (hw _ (List.mem_of_getElem? (i := 15) rfl))) (mvT hZ (hw _ (List.mem_of_getElem? (i := 16) rfl))) (mvT hZ (hw _ (List.mem_of_getElem? (i := 17) rfl))) (mvT hZ (hw _ (List.mem_of_getElem? (i := 18) rfl))) (by decide) (backOf (W := 0) (rm3 l Z a0 hw [] (2 : Int32) (2 : Int32) h0 n0 Z0 ) hZ (hw _ (List.mem_of_getElem? (i := 18) rfl)) (hw _ (List.mem_of_getElem? (i := 17) rfl)) (by decide) (by decide)) (g := (mkF m 18 #[.val (.int p0), .val (.int p1), .val (.ref wTRUE), .val (.ref wTRUE), .unset, .unset] [(.int (2 : Int32)), (.int (2 : Int32))])) rfl (by rw [hml]; rfl) (argsL := [(.int (2 : Int32)), (.int (2 : Int32))]) (rest := []) (lenOf pd_2 rfl) rfl (by show 2 * 0 + _ ≤ _; exact Nat.le_of_eq rfl) (hb hby at_18) (fun _ _ => ⟨rfl, e41, (by decide : 0 + 0 ≤ _), (by decide : 0 + 0 ≤ _)⟩)
      dsimp only [Pt.U, Pt.locs, Pt.cells, Pt.slots] at X43 l43 y43 z43 st43 hQ43
      subst l43 y43 z43
      unfold Q3 at hQ43
      have k44 : ∀ t, Steps p.tables e below (T41.setTop (mkF m 18 #[.val (.int p0), .val (.int p1), .val (.ref wTRUE), .val (.ref wTRUE), .unset, .unset] [(.int (2 : Int32)), (.int (2 : Int32))])) t → Steps p.tables e below (s₁.setTop (entryFrame m #[(.int p0), (.int p1)] maxLocals)) t := fun t kt => k42 t (by
        show Steps p.tables e below (T39.setTop (mkF m 15 #[.val (.int p0), .val (.int p1), .val (.ref wTRUE), .val (.ref wTRUE), .unset, .unset] [(.ref wTRUE), (.int (2 : Int32))])) _
        refine st41 _ ?_
        exact kt)
      rw [((by rw [f3, if_neg ((by first | exact Int32.lt_irrefl _ | decide) : ¬ ((2 : Int32) < (2 : Int32)))]) : (f3 (2 : Int32) (2 : Int32)) = (2 : Int32))] at hQ43
      obtain ⟨rfl, N43q, e43⟩ := hQ43
      have N43 := Fr.app N41 N43q
      obtain ⟨cq45, kq45, q45a, q45b, q45c⟩ := isOf hZ e43 ETRUE
      obtain ⟨_, _, ⟨T45, L45, k45, n45⟩, -, X45, ⟨Lc45, hQ45, l45, y45, z45⟩, st45⟩ := X43.virtualBack hx (y := (⟨"com/example/turtlehead/turtlehead/Truth", "and", "(Lcom/example/turtlehead/turtlehead/Truth;)Lcom/example/turtlehead/turtlehead/Truth;"⟩ : MethodName)) (z := (⟨"com/example/turtlehead/turtlehead/Truth", "and", "(Lcom/example/turtlehead/turtlehead/Truth;)Lcom/example/turtlehead/turtlehead/Truth;"⟩ : MethodName)) hown (mvT hZ (hw _ (List.mem_of_getElem? (i := 19) rfl))) (mvT hZ (hw _ (List.mem_of_getElem? (i := 20) rfl))) (notFace_of_selects (args := #[]) (mvT hZ (hw _ (List.mem_of_getElem? (i := 22) rfl)))) (mvT hZ (hw _ (List.mem_of_getElem? (i := 22) rfl))) (mvT hZ (hw _ (List.mem_of_getElem? (i := 21) rfl))) (by decide) (backOf (W := 0) (rm4 l Z a0 hw [] wTRUE wTRUE wTRUE wFALSE wUNKNOWN h0 n0 Z0 W0 ) hZ (hw _ (List.mem_of_getElem? (i := 23) rfl)) (hw _ (List.mem_of_getElem? (i := 6) rfl)) (by decide) (by decide)) q45a q45c (g := (mkF m 25 #[.val (.int p0), .val (.int p1), .val (.ref wTRUE), .val (.ref wTRUE), .val (.int (2 : Int32)), .unset] [(.ref wTRUE), (.ref wTRUE)])) rfl (by rw [hml]; rfl) (Steps.refl _) (argsL := [(.ref wTRUE)]) (rest := []) (lenOf pd_3 rfl) rfl (by show 2 * 0 + _ ≤ _; exact Nat.le_of_eq rfl) (hb hby at_25) (fun _ _ => ⟨rfl, e43, (by decide : 0 + 0 ≤ _), (by decide : 0 + 0 ≤ _)⟩)
      dsimp only [Pt.U, Pt.locs, Pt.cells, Pt.slots] at X45 l45 y45 z45 st45 hQ45
      subst l45 y45 z45
      unfold Q4 at hQ45
      have k46 : ∀ t, Steps p.tables e below (T43.setTop (mkF m 25 #[.val (.int p0), .val (.int p1), .val (.ref wTRUE), .val (.ref wTRUE), .val (.int (2 : Int32)), .unset] [(.ref wTRUE), (.ref wTRUE)])) t → Steps p.tables e below (s₁.setTop (entryFrame m #[(.int p0), (.int p1)] maxLocals)) t := fun t kt => k44 t (by
        show Steps p.tables e below (T41.setTop (mkF m 18 #[.val (.int p0), .val (.int p1), .val (.ref wTRUE), .val (.ref wTRUE), .unset, .unset] [(.int (2 : Int32)), (.int (2 : Int32))])) _
        refine st43 _ ?_
        show Steps p.tables e below (T43.setTop (mkF m 21 #[.val (.int p0), .val (.int p1), .val (.ref wTRUE), .val (.ref wTRUE), .unset, .unset] [(.int (2 : Int32))])) _
        refine XS.istore X43.here hx rfl (hb hby at_21) rfl (l' := #[.val (.int p0), .val (.int p1), .val (.ref wTRUE), .val (.ref wTRUE), .val (.int (2 : Int32)), .unset]) rfl ?_
        show Steps p.tables e below (T43.setTop (mkF m 23 #[.val (.int p0), .val (.int p1), .val (.ref wTRUE), .val (.ref wTRUE), .val (.int (2 : Int32)), .unset] [])) _
        refine XS.aloadN X43.here hx rfl (hb hby at_23) rfl rfl ?_
        show Steps p.tables e below (T43.setTop (mkF m 24 #[.val (.int p0), .val (.int p1), .val (.ref wTRUE), .val (.ref wTRUE), .val (.int (2 : Int32)), .unset] [(.ref wTRUE)])) _
        refine XS.aloadN X43.here hx rfl (hb hby at_24) rfl rfl ?_
        exact kt)
      rw [((by rw [f4, if_neg ((Fld.ne FTRUE_ordinal FFALSE_ordinal (by decide)) : ¬ (wTRUE = wFALSE)), if_neg ((Fld.ne FTRUE_ordinal FFALSE_ordinal (by decide)) : ¬ (wTRUE = wFALSE)), if_neg ((Fld.ne FTRUE_ordinal FUNKNOWN_ordinal (by decide)) : ¬ (wTRUE = wUNKNOWN)), if_neg ((Fld.ne FTRUE_ordinal FUNKNOWN_ordinal (by decide)) : ¬ (wTRUE = wUNKNOWN))]) : (f4 wTRUE wTRUE wTRUE wFALSE wUNKNOWN) = wTRUE)] at hQ45
      obtain ⟨rfl, N45q, e45⟩ := hQ45
      have N45 := Fr.app N43 N45q
      obtain ⟨_, _, ⟨T47, L47, k47, n47⟩, -, X47, ⟨Lc47, hQ47, l47, y47, z47⟩, st47⟩ := Jvm.LawKit.callS X45 hx (y := (⟨"com/example/turtlehead/turtlehead/TruthAndPinLaw", "rank", "(Lcom/example/turtlehead/turtlehead/Truth;)I"⟩ : MethodName)) hown (mvT hZ (hw _ (List.mem_of_getElem? (i := 8) rfl))) (mvT hZ (hw _ (List.mem_of_getElem? (i := 9) rfl))) (mvT hZ (hw _ (List.mem_of_getElem? (i := 2) rfl))) (mvT hZ (hw _ (List.mem_of_getElem? (i := 10) rfl))) (by decide) (backOf (W := 0) (rm2 l Z a0 hw [] wTRUE wTRUE wFALSE wUNKNOWN h0 n0 Z0 W0 ) hZ (hw _ (List.mem_of_getElem? (i := 10) rfl)) (hw _ (List.mem_of_getElem? (i := 2) rfl)) (by decide) (by decide)) (g := (mkF m 39 #[.val (.int p0), .val (.int p1), .val (.ref wTRUE), .val (.ref wTRUE), .val (.int (2 : Int32)), .val (.ref wTRUE)] [(.ref wTRUE)])) rfl (by rw [hml]; rfl) (argsL := [(.ref wTRUE)]) (rest := []) (lenOf pd_1 rfl) rfl (by show 2 * 0 + _ ≤ _; exact Nat.le_of_eq rfl) (hb hby at_39) (fun _ _ => ⟨rfl, e45, (by decide : 0 + 0 ≤ _), (by decide : 0 + 0 ≤ _)⟩)
      dsimp only [Pt.U, Pt.locs, Pt.cells, Pt.slots] at X47 l47 y47 z47 st47 hQ47
      subst l47 y47 z47
      unfold Q2 at hQ47
      have k48 : ∀ t, Steps p.tables e below (T45.setTop (mkF m 39 #[.val (.int p0), .val (.int p1), .val (.ref wTRUE), .val (.ref wTRUE), .val (.int (2 : Int32)), .val (.ref wTRUE)] [(.ref wTRUE)])) t → Steps p.tables e below (s₁.setTop (entryFrame m #[(.int p0), (.int p1)] maxLocals)) t := fun t kt => k46 t (by
        show Steps p.tables e below (T43.setTop (mkF m 25 #[.val (.int p0), .val (.int p1), .val (.ref wTRUE), .val (.ref wTRUE), .val (.int (2 : Int32)), .unset] [(.ref wTRUE), (.ref wTRUE)])) _
        refine st45.trans ?_
        show Steps p.tables e below (T45.setTop (mkF m 28 #[.val (.int p0), .val (.int p1), .val (.ref wTRUE), .val (.ref wTRUE), .val (.int (2 : Int32)), .unset] [(.ref wTRUE)])) _
        refine XS.astore X45.here hx rfl (hb hby at_28) rfl rfl (l' := #[.val (.int p0), .val (.int p1), .val (.ref wTRUE), .val (.ref wTRUE), .val (.int (2 : Int32)), .val (.ref wTRUE)]) rfl ?_
        show Steps p.tables e below (T45.setTop (mkF m 30 #[.val (.int p0), .val (.int p1), .val (.ref wTRUE), .val (.ref wTRUE), .val (.int (2 : Int32)), .val (.ref wTRUE)] [])) _
        refine XS.aload X45.here hx rfl (hb hby at_30) rfl rfl ?_
        show Steps p.tables e below (T45.setTop (mkF m 32 #[.val (.int p0), .val (.int p1), .val (.ref wTRUE), .val (.ref wTRUE), .val (.int (2 : Int32)), .val (.ref wTRUE)] [(.ref wTRUE)])) _
        refine XS.ifnonnullYes X45.here hx rfl (pc0 := 32) (pc' := 37) rfl (hb hby at_32) rfl (by decide) (by decide) ?_
        show Steps p.tables e below (T45.setTop (mkF m 37 #[.val (.int p0), .val (.int p1), .val (.ref wTRUE), .val (.ref wTRUE), .val (.int (2 : Int32)), .val (.ref wTRUE)] [])) _
        refine XS.aload X45.here hx rfl (hb hby at_37) rfl rfl ?_
        exact kt)
      rw [((by rw [f2, if_neg ((Fld.ne FTRUE_ordinal FFALSE_ordinal (by decide)) : ¬ (wTRUE = wFALSE)), if_neg ((Fld.ne FTRUE_ordinal FUNKNOWN_ordinal (by decide)) : ¬ (wTRUE = wUNKNOWN))]) : (f2 wTRUE wTRUE wFALSE wUNKNOWN) = (2 : Int32))] at hQ47
      obtain ⟨rfl, N47q, e47⟩ := hQ47
      have N47 := Fr.app N45 N47q
      obtain ⟨fs, hr, hrun, hended, hW, hsame⟩ := X47.leave (v := some (.int (1 : Int32))) (fun h => by rw [Bd.returns] at h; cases h)
      refine ⟨_, _, k48 _ ?_, hrun, hended, _, _, rfl, ?_, ⟨_, rfl⟩, hW, hsame.mono (by decide) (by decide)⟩
      · show Steps p.tables e below (T45.setTop (mkF m 39 #[.val (.int p0), .val (.int p1), .val (.ref wTRUE), .val (.ref wTRUE), .val (.int (2 : Int32)), .val (.ref wTRUE)] [(.ref wTRUE)])) _
        refine st47 _ ?_
        show Steps p.tables e below (T47.setTop (mkF m 42 #[.val (.int p0), .val (.int p1), .val (.ref wTRUE), .val (.ref wTRUE), .val (.int (2 : Int32)), .val (.ref wTRUE)] [(.int (2 : Int32))])) _
        refine XS.iload X47.here hx rfl (hb hby at_42) rfl ?_
        show Steps p.tables e below (T47.setTop (mkF m 44 #[.val (.int p0), .val (.int p1), .val (.ref wTRUE), .val (.ref wTRUE), .val (.int (2 : Int32)), .val (.ref wTRUE)] [(.int (2 : Int32)), (.int (2 : Int32))])) _
        refine XS.icmpNo X47.here hx rfl (hb hby at_44) rfl (teq (rfl : (2 : Int32) = (2 : Int32))).2 ?_
        show Steps p.tables e below (T47.setTop (mkF m 47 #[.val (.int p0), .val (.int p1), .val (.ref wTRUE), .val (.ref wTRUE), .val (.int (2 : Int32)), .val (.ref wTRUE)] [])) _
        refine XS.iconst X47.here hx rfl (hb hby at_47) ?_
        show Steps p.tables e below (T47.setTop (mkF m 48 #[.val (.int p0), .val (.int p1), .val (.ref wTRUE), .val (.ref wTRUE), .val (.int (2 : Int32)), .val (.ref wTRUE)] [(.int (1 : Int32))])) _
        refine XS.goto X47.here hx rfl (pc0 := 48) (pc' := 52) rfl (hb hby at_48) (by decide) (by decide) ?_
        show Steps p.tables e below (T47.setTop (mkF m 52 #[.val (.int p0), .val (.int p1), .val (.ref wTRUE), .val (.ref wTRUE), .val (.int (2 : Int32)), .val (.ref wTRUE)] [(.int (1 : Int32))])) _
        exact retN X47 hx (t := .boolean) Bd.returns (by simp) (hb hby at_52) hr
      · show Q0 Z p0 p1 wTRUE wFALSE wUNKNOWN h0 n0 _ T47.heap _
        rw [e47]
        exact ⟨rfl, N47⟩
    · by_cases hc49 : ((p1 &&& (2147483647 : Int32)) % (3 : Int32)) = (1 : Int32)
      · rw [((by rw [f1, if_neg (hc38 : ¬ (((p1 &&& (2147483647 : Int32)) % (3 : Int32)) = (0 : Int32))), if_pos (hc49 : ((p1 &&& (2147483647 : Int32)) % (3 : Int32)) = (1 : Int32))]) : (f1 p1 wTRUE wFALSE wUNKNOWN) = wFALSE)] at hQ36
        obtain ⟨rfl, N36q, e36⟩ := hQ36
        have N36 := Fr.app N33 N36q
        obtain ⟨_, _, ⟨T50, L50, k50, n50⟩, -, X50, ⟨Lc50, hQ50, l50, y50, z50⟩, st50⟩ := Jvm.LawKit.callS X36 hx (y := (⟨"com/example/turtlehead/turtlehead/TruthAndPinLaw", "rank", "(Lcom/example/turtlehead/turtlehead/Truth;)I"⟩ : MethodName)) hown (mvT hZ (hw _ (List.mem_of_getElem? (i := 8) rfl))) (mvT hZ (hw _ (List.mem_of_getElem? (i := 9) rfl))) (mvT hZ (hw _ (List.mem_of_getElem? (i := 2) rfl))) (mvT hZ (hw _ (List.mem_of_getElem? (i := 10) rfl))) (by decide) (backOf (W := 0) (rm2 l Z a0 hw [] wTRUE wTRUE wFALSE wUNKNOWN h0 n0 Z0 W0 ) hZ (hw _ (List.mem_of_getElem? (i := 10) rfl)) (hw _ (List.mem_of_getElem? (i := 2) rfl)) (by decide) (by decide)) (g := (mkF m 11 #[.val (.int p0), .val (.int p1), .val (.ref wTRUE), .val (.ref wFALSE), .unset, .unset] [(.ref wTRUE)])) rfl (by rw [hml]; rfl) (argsL := [(.ref wTRUE)]) (rest := []) (lenOf pd_1 rfl) rfl (by show 2 * 0 + _ ≤ _; exact Nat.le_of_eq rfl) (hb hby at_11) (fun _ _ => ⟨rfl, e36, (by decide : 0 + 0 ≤ _), (by decide : 0 + 0 ≤ _)⟩)
        dsimp only [Pt.U, Pt.locs, Pt.cells, Pt.slots] at X50 l50 y50 z50 st50 hQ50
        subst l50 y50 z50
        unfold Q2 at hQ50
        have k51 : ∀ t, Steps p.tables e below (T36.setTop (mkF m 11 #[.val (.int p0), .val (.int p1), .val (.ref wTRUE), .val (.ref wFALSE), .unset, .unset] [(.ref wTRUE)])) t → Steps p.tables e below (s₁.setTop (entryFrame m #[(.int p0), (.int p1)] maxLocals)) t := fun t kt => k37 t (by
          show Steps p.tables e below (T33.setTop (mkF m 6 #[.val (.int p0), .val (.int p1), .val (.ref wTRUE), .unset, .unset, .unset] [(.int p1)])) _
          refine st36 _ ?_
          show Steps p.tables e below (T36.setTop (mkF m 9 #[.val (.int p0), .val (.int p1), .val (.ref wTRUE), .unset, .unset, .unset] [(.ref wFALSE)])) _
          refine XS.astoreN X36.here hx rfl (hb hby at_9) rfl rfl (l' := #[.val (.int p0), .val (.int p1), .val (.ref wTRUE), .val (.ref wFALSE), .unset, .unset]) rfl ?_
          show Steps p.tables e below (T36.setTop (mkF m 10 #[.val (.int p0), .val (.int p1), .val (.ref wTRUE), .val (.ref wFALSE), .unset, .unset] [])) _
          refine XS.aloadN X36.here hx rfl (hb hby at_10) rfl rfl ?_
          exact kt)
        rw [((by rw [f2, if_neg ((Fld.ne FTRUE_ordinal FFALSE_ordinal (by decide)) : ¬ (wTRUE = wFALSE)), if_neg ((Fld.ne FTRUE_ordinal FUNKNOWN_ordinal (by decide)) : ¬ (wTRUE = wUNKNOWN))]) : (f2 wTRUE wTRUE wFALSE wUNKNOWN) = (2 : Int32))] at hQ50
        obtain ⟨rfl, N50q, e50⟩ := hQ50
        have N50 := Fr.app N36 N50q
        obtain ⟨_, _, ⟨T52, L52, k52, n52⟩, -, X52, ⟨Lc52, hQ52, l52, y52, z52⟩, st52⟩ := Jvm.LawKit.callS X50 hx (y := (⟨"com/example/turtlehead/turtlehead/TruthAndPinLaw", "rank", "(Lcom/example/turtlehead/turtlehead/Truth;)I"⟩ : MethodName)) hown (mvT hZ (hw _ (List.mem_of_getElem? (i := 8) rfl))) (mvT hZ (hw _ (List.mem_of_getElem? (i := 9) rfl))) (mvT hZ (hw _ (List.mem_of_getElem? (i := 2) rfl))) (mvT hZ (hw _ (List.mem_of_getElem? (i := 10) rfl))) (by decide) (backOf (W := 1) (rm2 l Z a0 hw [] wFALSE wTRUE wFALSE wUNKNOWN h0 n0 Z0 W0 ) hZ (hw _ (List.mem_of_getElem? (i := 10) rfl)) (hw _ (List.mem_of_getElem? (i := 2) rfl)) (by decide) (by decide)) (g := (mkF m 15 #[.val (.int p0), .val (.int p1), .val (.ref wTRUE), .val (.ref wFALSE), .unset, .unset] [(.ref wFALSE), (.int (2 : Int32))])) rfl (by rw [hml]; rfl) (argsL := [(.ref wFALSE)]) (rest := [(.int (2 : Int32))]) (lenOf pd_1 rfl) rfl (by show 2 * 0 + _ ≤ _; exact Nat.le_of_eq rfl) (hb hby at_15) (fun _ _ => ⟨rfl, e50, (by decide : 0 + 0 ≤ _), (by decide : 0 + 0 ≤ _)⟩)
        dsimp only [Pt.U, Pt.locs, Pt.cells, Pt.slots] at X52 l52 y52 z52 st52 hQ52
        subst l52 y52 z52
        unfold Q2 at hQ52
        have k53 : ∀ t, Steps p.tables e below (T50.setTop (mkF m 15 #[.val (.int p0), .val (.int p1), .val (.ref wTRUE), .val (.ref wFALSE), .unset, .unset] [(.ref wFALSE), (.int (2 : Int32))])) t → Steps p.tables e below (s₁.setTop (entryFrame m #[(.int p0), (.int p1)] maxLocals)) t := fun t kt => k51 t (by
          show Steps p.tables e below (T36.setTop (mkF m 11 #[.val (.int p0), .val (.int p1), .val (.ref wTRUE), .val (.ref wFALSE), .unset, .unset] [(.ref wTRUE)])) _
          refine st50 _ ?_
          show Steps p.tables e below (T50.setTop (mkF m 14 #[.val (.int p0), .val (.int p1), .val (.ref wTRUE), .val (.ref wFALSE), .unset, .unset] [(.int (2 : Int32))])) _
          refine XS.aloadN X50.here hx rfl (hb hby at_14) rfl rfl ?_
          exact kt)
        rw [((by rw [f2, if_pos (rfl : wFALSE = wFALSE)]) : (f2 wFALSE wTRUE wFALSE wUNKNOWN) = (0 : Int32))] at hQ52
        obtain ⟨rfl, N52q, e52⟩ := hQ52
        have N52 := Fr.app N50 N52q
        obtain ⟨_, _, ⟨T54, L54, k54, n54⟩, -, X54, ⟨Lc54, hQ54, l54, y54, z54⟩, st54⟩ := Jvm.LawKit.callS X52 hx (y := (⟨"java/lang/Math", "min", "(II)I"⟩ : MethodName)) hown (mvT hZ (hw _ (List.mem_of_getElem? (i := 15) rfl))) (mvT hZ (hw _ (List.mem_of_getElem? (i := 16) rfl))) (mvT hZ (hw _ (List.mem_of_getElem? (i := 17) rfl))) (mvT hZ (hw _ (List.mem_of_getElem? (i := 18) rfl))) (by decide) (backOf (W := 0) (rm3 l Z a0 hw [] (2 : Int32) (0 : Int32) h0 n0 Z0 ) hZ (hw _ (List.mem_of_getElem? (i := 18) rfl)) (hw _ (List.mem_of_getElem? (i := 17) rfl)) (by decide) (by decide)) (g := (mkF m 18 #[.val (.int p0), .val (.int p1), .val (.ref wTRUE), .val (.ref wFALSE), .unset, .unset] [(.int (0 : Int32)), (.int (2 : Int32))])) rfl (by rw [hml]; rfl) (argsL := [(.int (2 : Int32)), (.int (0 : Int32))]) (rest := []) (lenOf pd_2 rfl) rfl (by show 2 * 0 + _ ≤ _; exact Nat.le_of_eq rfl) (hb hby at_18) (fun _ _ => ⟨rfl, e52, (by decide : 0 + 0 ≤ _), (by decide : 0 + 0 ≤ _)⟩)
        dsimp only [Pt.U, Pt.locs, Pt.cells, Pt.slots] at X54 l54 y54 z54 st54 hQ54
        subst l54 y54 z54
        unfold Q3 at hQ54
        have k55 : ∀ t, Steps p.tables e below (T52.setTop (mkF m 18 #[.val (.int p0), .val (.int p1), .val (.ref wTRUE), .val (.ref wFALSE), .unset, .unset] [(.int (0 : Int32)), (.int (2 : Int32))])) t → Steps p.tables e below (s₁.setTop (entryFrame m #[(.int p0), (.int p1)] maxLocals)) t := fun t kt => k53 t (by
          show Steps p.tables e below (T50.setTop (mkF m 15 #[.val (.int p0), .val (.int p1), .val (.ref wTRUE), .val (.ref wFALSE), .unset, .unset] [(.ref wFALSE), (.int (2 : Int32))])) _
          refine st52 _ ?_
          exact kt)
        rw [((by rw [f3, if_pos ((by decide) : (0 : Int32) < (2 : Int32))]) : (f3 (2 : Int32) (0 : Int32)) = (0 : Int32))] at hQ54
        obtain ⟨rfl, N54q, e54⟩ := hQ54
        have N54 := Fr.app N52 N54q
        obtain ⟨cq56, kq56, q56a, q56b, q56c⟩ := isOf hZ e54 ETRUE
        obtain ⟨_, _, ⟨T56, L56, k56, n56⟩, -, X56, ⟨Lc56, hQ56, l56, y56, z56⟩, st56⟩ := X54.virtualBack hx (y := (⟨"com/example/turtlehead/turtlehead/Truth", "and", "(Lcom/example/turtlehead/turtlehead/Truth;)Lcom/example/turtlehead/turtlehead/Truth;"⟩ : MethodName)) (z := (⟨"com/example/turtlehead/turtlehead/Truth", "and", "(Lcom/example/turtlehead/turtlehead/Truth;)Lcom/example/turtlehead/turtlehead/Truth;"⟩ : MethodName)) hown (mvT hZ (hw _ (List.mem_of_getElem? (i := 19) rfl))) (mvT hZ (hw _ (List.mem_of_getElem? (i := 20) rfl))) (notFace_of_selects (args := #[]) (mvT hZ (hw _ (List.mem_of_getElem? (i := 22) rfl)))) (mvT hZ (hw _ (List.mem_of_getElem? (i := 22) rfl))) (mvT hZ (hw _ (List.mem_of_getElem? (i := 21) rfl))) (by decide) (backOf (W := 0) (rm4 l Z a0 hw [] wTRUE wFALSE wTRUE wFALSE wUNKNOWN h0 n0 Z0 W0 ) hZ (hw _ (List.mem_of_getElem? (i := 23) rfl)) (hw _ (List.mem_of_getElem? (i := 6) rfl)) (by decide) (by decide)) q56a q56c (g := (mkF m 25 #[.val (.int p0), .val (.int p1), .val (.ref wTRUE), .val (.ref wFALSE), .val (.int (0 : Int32)), .unset] [(.ref wFALSE), (.ref wTRUE)])) rfl (by rw [hml]; rfl) (Steps.refl _) (argsL := [(.ref wFALSE)]) (rest := []) (lenOf pd_3 rfl) rfl (by show 2 * 0 + _ ≤ _; exact Nat.le_of_eq rfl) (hb hby at_25) (fun _ _ => ⟨rfl, e54, (by decide : 0 + 0 ≤ _), (by decide : 0 + 0 ≤ _)⟩)
        dsimp only [Pt.U, Pt.locs, Pt.cells, Pt.slots] at X56 l56 y56 z56 st56 hQ56
        subst l56 y56 z56
        unfold Q4 at hQ56
        have k57 : ∀ t, Steps p.tables e below (T54.setTop (mkF m 25 #[.val (.int p0), .val (.int p1), .val (.ref wTRUE), .val (.ref wFALSE), .val (.int (0 : Int32)), .unset] [(.ref wFALSE), (.ref wTRUE)])) t → Steps p.tables e below (s₁.setTop (entryFrame m #[(.int p0), (.int p1)] maxLocals)) t := fun t kt => k55 t (by
          show Steps p.tables e below (T52.setTop (mkF m 18 #[.val (.int p0), .val (.int p1), .val (.ref wTRUE), .val (.ref wFALSE), .unset, .unset] [(.int (0 : Int32)), (.int (2 : Int32))])) _
          refine st54 _ ?_
          show Steps p.tables e below (T54.setTop (mkF m 21 #[.val (.int p0), .val (.int p1), .val (.ref wTRUE), .val (.ref wFALSE), .unset, .unset] [(.int (0 : Int32))])) _
          refine XS.istore X54.here hx rfl (hb hby at_21) rfl (l' := #[.val (.int p0), .val (.int p1), .val (.ref wTRUE), .val (.ref wFALSE), .val (.int (0 : Int32)), .unset]) rfl ?_
          show Steps p.tables e below (T54.setTop (mkF m 23 #[.val (.int p0), .val (.int p1), .val (.ref wTRUE), .val (.ref wFALSE), .val (.int (0 : Int32)), .unset] [])) _
          refine XS.aloadN X54.here hx rfl (hb hby at_23) rfl rfl ?_
          show Steps p.tables e below (T54.setTop (mkF m 24 #[.val (.int p0), .val (.int p1), .val (.ref wTRUE), .val (.ref wFALSE), .val (.int (0 : Int32)), .unset] [(.ref wTRUE)])) _
          refine XS.aloadN X54.here hx rfl (hb hby at_24) rfl rfl ?_
          exact kt)
        rw [((by rw [f4, if_neg ((Fld.ne FTRUE_ordinal FFALSE_ordinal (by decide)) : ¬ (wTRUE = wFALSE)), if_pos (rfl : wFALSE = wFALSE)]) : (f4 wTRUE wFALSE wTRUE wFALSE wUNKNOWN) = wFALSE)] at hQ56
        obtain ⟨rfl, N56q, e56⟩ := hQ56
        have N56 := Fr.app N54 N56q
        obtain ⟨_, _, ⟨T58, L58, k58, n58⟩, -, X58, ⟨Lc58, hQ58, l58, y58, z58⟩, st58⟩ := Jvm.LawKit.callS X56 hx (y := (⟨"com/example/turtlehead/turtlehead/TruthAndPinLaw", "rank", "(Lcom/example/turtlehead/turtlehead/Truth;)I"⟩ : MethodName)) hown (mvT hZ (hw _ (List.mem_of_getElem? (i := 8) rfl))) (mvT hZ (hw _ (List.mem_of_getElem? (i := 9) rfl))) (mvT hZ (hw _ (List.mem_of_getElem? (i := 2) rfl))) (mvT hZ (hw _ (List.mem_of_getElem? (i := 10) rfl))) (by decide) (backOf (W := 0) (rm2 l Z a0 hw [] wFALSE wTRUE wFALSE wUNKNOWN h0 n0 Z0 W0 ) hZ (hw _ (List.mem_of_getElem? (i := 10) rfl)) (hw _ (List.mem_of_getElem? (i := 2) rfl)) (by decide) (by decide)) (g := (mkF m 39 #[.val (.int p0), .val (.int p1), .val (.ref wTRUE), .val (.ref wFALSE), .val (.int (0 : Int32)), .val (.ref wFALSE)] [(.ref wFALSE)])) rfl (by rw [hml]; rfl) (argsL := [(.ref wFALSE)]) (rest := []) (lenOf pd_1 rfl) rfl (by show 2 * 0 + _ ≤ _; exact Nat.le_of_eq rfl) (hb hby at_39) (fun _ _ => ⟨rfl, e56, (by decide : 0 + 0 ≤ _), (by decide : 0 + 0 ≤ _)⟩)
        dsimp only [Pt.U, Pt.locs, Pt.cells, Pt.slots] at X58 l58 y58 z58 st58 hQ58
        subst l58 y58 z58
        unfold Q2 at hQ58
        have k59 : ∀ t, Steps p.tables e below (T56.setTop (mkF m 39 #[.val (.int p0), .val (.int p1), .val (.ref wTRUE), .val (.ref wFALSE), .val (.int (0 : Int32)), .val (.ref wFALSE)] [(.ref wFALSE)])) t → Steps p.tables e below (s₁.setTop (entryFrame m #[(.int p0), (.int p1)] maxLocals)) t := fun t kt => k57 t (by
          show Steps p.tables e below (T54.setTop (mkF m 25 #[.val (.int p0), .val (.int p1), .val (.ref wTRUE), .val (.ref wFALSE), .val (.int (0 : Int32)), .unset] [(.ref wFALSE), (.ref wTRUE)])) _
          refine st56.trans ?_
          show Steps p.tables e below (T56.setTop (mkF m 28 #[.val (.int p0), .val (.int p1), .val (.ref wTRUE), .val (.ref wFALSE), .val (.int (0 : Int32)), .unset] [(.ref wFALSE)])) _
          refine XS.astore X56.here hx rfl (hb hby at_28) rfl rfl (l' := #[.val (.int p0), .val (.int p1), .val (.ref wTRUE), .val (.ref wFALSE), .val (.int (0 : Int32)), .val (.ref wFALSE)]) rfl ?_
          show Steps p.tables e below (T56.setTop (mkF m 30 #[.val (.int p0), .val (.int p1), .val (.ref wTRUE), .val (.ref wFALSE), .val (.int (0 : Int32)), .val (.ref wFALSE)] [])) _
          refine XS.aload X56.here hx rfl (hb hby at_30) rfl rfl ?_
          show Steps p.tables e below (T56.setTop (mkF m 32 #[.val (.int p0), .val (.int p1), .val (.ref wTRUE), .val (.ref wFALSE), .val (.int (0 : Int32)), .val (.ref wFALSE)] [(.ref wFALSE)])) _
          refine XS.ifnonnullYes X56.here hx rfl (pc0 := 32) (pc' := 37) rfl (hb hby at_32) rfl (by decide) (by decide) ?_
          show Steps p.tables e below (T56.setTop (mkF m 37 #[.val (.int p0), .val (.int p1), .val (.ref wTRUE), .val (.ref wFALSE), .val (.int (0 : Int32)), .val (.ref wFALSE)] [])) _
          refine XS.aload X56.here hx rfl (hb hby at_37) rfl rfl ?_
          exact kt)
        rw [((by rw [f2, if_pos (rfl : wFALSE = wFALSE)]) : (f2 wFALSE wTRUE wFALSE wUNKNOWN) = (0 : Int32))] at hQ58
        obtain ⟨rfl, N58q, e58⟩ := hQ58
        have N58 := Fr.app N56 N58q
        obtain ⟨fs, hr, hrun, hended, hW, hsame⟩ := X58.leave (v := some (.int (1 : Int32))) (fun h => by rw [Bd.returns] at h; cases h)
        refine ⟨_, _, k59 _ ?_, hrun, hended, _, _, rfl, ?_, ⟨_, rfl⟩, hW, hsame.mono (by decide) (by decide)⟩
        · show Steps p.tables e below (T56.setTop (mkF m 39 #[.val (.int p0), .val (.int p1), .val (.ref wTRUE), .val (.ref wFALSE), .val (.int (0 : Int32)), .val (.ref wFALSE)] [(.ref wFALSE)])) _
          refine st58 _ ?_
          show Steps p.tables e below (T58.setTop (mkF m 42 #[.val (.int p0), .val (.int p1), .val (.ref wTRUE), .val (.ref wFALSE), .val (.int (0 : Int32)), .val (.ref wFALSE)] [(.int (0 : Int32))])) _
          refine XS.iload X58.here hx rfl (hb hby at_42) rfl ?_
          show Steps p.tables e below (T58.setTop (mkF m 44 #[.val (.int p0), .val (.int p1), .val (.ref wTRUE), .val (.ref wFALSE), .val (.int (0 : Int32)), .val (.ref wFALSE)] [(.int (0 : Int32)), (.int (0 : Int32))])) _
          refine XS.icmpNo X58.here hx rfl (hb hby at_44) rfl (teq (rfl : (0 : Int32) = (0 : Int32))).2 ?_
          show Steps p.tables e below (T58.setTop (mkF m 47 #[.val (.int p0), .val (.int p1), .val (.ref wTRUE), .val (.ref wFALSE), .val (.int (0 : Int32)), .val (.ref wFALSE)] [])) _
          refine XS.iconst X58.here hx rfl (hb hby at_47) ?_
          show Steps p.tables e below (T58.setTop (mkF m 48 #[.val (.int p0), .val (.int p1), .val (.ref wTRUE), .val (.ref wFALSE), .val (.int (0 : Int32)), .val (.ref wFALSE)] [(.int (1 : Int32))])) _
          refine XS.goto X58.here hx rfl (pc0 := 48) (pc' := 52) rfl (hb hby at_48) (by decide) (by decide) ?_
          show Steps p.tables e below (T58.setTop (mkF m 52 #[.val (.int p0), .val (.int p1), .val (.ref wTRUE), .val (.ref wFALSE), .val (.int (0 : Int32)), .val (.ref wFALSE)] [(.int (1 : Int32))])) _
          exact retN X58 hx (t := .boolean) Bd.returns (by simp) (hb hby at_52) hr
        · show Q0 Z p0 p1 wTRUE wFALSE wUNKNOWN h0 n0 _ T58.heap _
          rw [e58]
          exact ⟨rfl, N58⟩
      · rw [((by rw [f1, if_neg (hc38 : ¬ (((p1 &&& (2147483647 : Int32)) % (3 : Int32)) = (0 : Int32))), if_neg (hc49 : ¬ (((p1 &&& (2147483647 : Int32)) % (3 : Int32)) = (1 : Int32)))]) : (f1 p1 wTRUE wFALSE wUNKNOWN) = wUNKNOWN)] at hQ36
        obtain ⟨rfl, N36q, e36⟩ := hQ36
        have N36 := Fr.app N33 N36q
        obtain ⟨_, _, ⟨T60, L60, k60, n60⟩, -, X60, ⟨Lc60, hQ60, l60, y60, z60⟩, st60⟩ := Jvm.LawKit.callS X36 hx (y := (⟨"com/example/turtlehead/turtlehead/TruthAndPinLaw", "rank", "(Lcom/example/turtlehead/turtlehead/Truth;)I"⟩ : MethodName)) hown (mvT hZ (hw _ (List.mem_of_getElem? (i := 8) rfl))) (mvT hZ (hw _ (List.mem_of_getElem? (i := 9) rfl))) (mvT hZ (hw _ (List.mem_of_getElem? (i := 2) rfl))) (mvT hZ (hw _ (List.mem_of_getElem? (i := 10) rfl))) (by decide) (backOf (W := 0) (rm2 l Z a0 hw [] wTRUE wTRUE wFALSE wUNKNOWN h0 n0 Z0 W0 ) hZ (hw _ (List.mem_of_getElem? (i := 10) rfl)) (hw _ (List.mem_of_getElem? (i := 2) rfl)) (by decide) (by decide)) (g := (mkF m 11 #[.val (.int p0), .val (.int p1), .val (.ref wTRUE), .val (.ref wUNKNOWN), .unset, .unset] [(.ref wTRUE)])) rfl (by rw [hml]; rfl) (argsL := [(.ref wTRUE)]) (rest := []) (lenOf pd_1 rfl) rfl (by show 2 * 0 + _ ≤ _; exact Nat.le_of_eq rfl) (hb hby at_11) (fun _ _ => ⟨rfl, e36, (by decide : 0 + 0 ≤ _), (by decide : 0 + 0 ≤ _)⟩)
        dsimp only [Pt.U, Pt.locs, Pt.cells, Pt.slots] at X60 l60 y60 z60 st60 hQ60
        subst l60 y60 z60
        unfold Q2 at hQ60
        have k61 : ∀ t, Steps p.tables e below (T36.setTop (mkF m 11 #[.val (.int p0), .val (.int p1), .val (.ref wTRUE), .val (.ref wUNKNOWN), .unset, .unset] [(.ref wTRUE)])) t → Steps p.tables e below (s₁.setTop (entryFrame m #[(.int p0), (.int p1)] maxLocals)) t := fun t kt => k37 t (by
          show Steps p.tables e below (T33.setTop (mkF m 6 #[.val (.int p0), .val (.int p1), .val (.ref wTRUE), .unset, .unset, .unset] [(.int p1)])) _
          refine st36 _ ?_
          show Steps p.tables e below (T36.setTop (mkF m 9 #[.val (.int p0), .val (.int p1), .val (.ref wTRUE), .unset, .unset, .unset] [(.ref wUNKNOWN)])) _
          refine XS.astoreN X36.here hx rfl (hb hby at_9) rfl rfl (l' := #[.val (.int p0), .val (.int p1), .val (.ref wTRUE), .val (.ref wUNKNOWN), .unset, .unset]) rfl ?_
          show Steps p.tables e below (T36.setTop (mkF m 10 #[.val (.int p0), .val (.int p1), .val (.ref wTRUE), .val (.ref wUNKNOWN), .unset, .unset] [])) _
          refine XS.aloadN X36.here hx rfl (hb hby at_10) rfl rfl ?_
          exact kt)
        rw [((by rw [f2, if_neg ((Fld.ne FTRUE_ordinal FFALSE_ordinal (by decide)) : ¬ (wTRUE = wFALSE)), if_neg ((Fld.ne FTRUE_ordinal FUNKNOWN_ordinal (by decide)) : ¬ (wTRUE = wUNKNOWN))]) : (f2 wTRUE wTRUE wFALSE wUNKNOWN) = (2 : Int32))] at hQ60
        obtain ⟨rfl, N60q, e60⟩ := hQ60
        have N60 := Fr.app N36 N60q
        obtain ⟨_, _, ⟨T62, L62, k62, n62⟩, -, X62, ⟨Lc62, hQ62, l62, y62, z62⟩, st62⟩ := Jvm.LawKit.callS X60 hx (y := (⟨"com/example/turtlehead/turtlehead/TruthAndPinLaw", "rank", "(Lcom/example/turtlehead/turtlehead/Truth;)I"⟩ : MethodName)) hown (mvT hZ (hw _ (List.mem_of_getElem? (i := 8) rfl))) (mvT hZ (hw _ (List.mem_of_getElem? (i := 9) rfl))) (mvT hZ (hw _ (List.mem_of_getElem? (i := 2) rfl))) (mvT hZ (hw _ (List.mem_of_getElem? (i := 10) rfl))) (by decide) (backOf (W := 1) (rm2 l Z a0 hw [] wUNKNOWN wTRUE wFALSE wUNKNOWN h0 n0 Z0 W0 ) hZ (hw _ (List.mem_of_getElem? (i := 10) rfl)) (hw _ (List.mem_of_getElem? (i := 2) rfl)) (by decide) (by decide)) (g := (mkF m 15 #[.val (.int p0), .val (.int p1), .val (.ref wTRUE), .val (.ref wUNKNOWN), .unset, .unset] [(.ref wUNKNOWN), (.int (2 : Int32))])) rfl (by rw [hml]; rfl) (argsL := [(.ref wUNKNOWN)]) (rest := [(.int (2 : Int32))]) (lenOf pd_1 rfl) rfl (by show 2 * 0 + _ ≤ _; exact Nat.le_of_eq rfl) (hb hby at_15) (fun _ _ => ⟨rfl, e60, (by decide : 0 + 0 ≤ _), (by decide : 0 + 0 ≤ _)⟩)
        dsimp only [Pt.U, Pt.locs, Pt.cells, Pt.slots] at X62 l62 y62 z62 st62 hQ62
        subst l62 y62 z62
        unfold Q2 at hQ62
        have k63 : ∀ t, Steps p.tables e below (T60.setTop (mkF m 15 #[.val (.int p0), .val (.int p1), .val (.ref wTRUE), .val (.ref wUNKNOWN), .unset, .unset] [(.ref wUNKNOWN), (.int (2 : Int32))])) t → Steps p.tables e below (s₁.setTop (entryFrame m #[(.int p0), (.int p1)] maxLocals)) t := fun t kt => k61 t (by
          show Steps p.tables e below (T36.setTop (mkF m 11 #[.val (.int p0), .val (.int p1), .val (.ref wTRUE), .val (.ref wUNKNOWN), .unset, .unset] [(.ref wTRUE)])) _
          refine st60 _ ?_
          show Steps p.tables e below (T60.setTop (mkF m 14 #[.val (.int p0), .val (.int p1), .val (.ref wTRUE), .val (.ref wUNKNOWN), .unset, .unset] [(.int (2 : Int32))])) _
          refine XS.aloadN X60.here hx rfl (hb hby at_14) rfl rfl ?_
          exact kt)
        rw [((by rw [f2, if_neg ((Fld.ne FUNKNOWN_ordinal FFALSE_ordinal (by decide)) : ¬ (wUNKNOWN = wFALSE)), if_pos (rfl : wUNKNOWN = wUNKNOWN)]) : (f2 wUNKNOWN wTRUE wFALSE wUNKNOWN) = (1 : Int32))] at hQ62
        obtain ⟨rfl, N62q, e62⟩ := hQ62
        have N62 := Fr.app N60 N62q
        obtain ⟨_, _, ⟨T64, L64, k64, n64⟩, -, X64, ⟨Lc64, hQ64, l64, y64, z64⟩, st64⟩ := Jvm.LawKit.callS X62 hx (y := (⟨"java/lang/Math", "min", "(II)I"⟩ : MethodName)) hown (mvT hZ (hw _ (List.mem_of_getElem? (i := 15) rfl))) (mvT hZ (hw _ (List.mem_of_getElem? (i := 16) rfl))) (mvT hZ (hw _ (List.mem_of_getElem? (i := 17) rfl))) (mvT hZ (hw _ (List.mem_of_getElem? (i := 18) rfl))) (by decide) (backOf (W := 0) (rm3 l Z a0 hw [] (2 : Int32) (1 : Int32) h0 n0 Z0 ) hZ (hw _ (List.mem_of_getElem? (i := 18) rfl)) (hw _ (List.mem_of_getElem? (i := 17) rfl)) (by decide) (by decide)) (g := (mkF m 18 #[.val (.int p0), .val (.int p1), .val (.ref wTRUE), .val (.ref wUNKNOWN), .unset, .unset] [(.int (1 : Int32)), (.int (2 : Int32))])) rfl (by rw [hml]; rfl) (argsL := [(.int (2 : Int32)), (.int (1 : Int32))]) (rest := []) (lenOf pd_2 rfl) rfl (by show 2 * 0 + _ ≤ _; exact Nat.le_of_eq rfl) (hb hby at_18) (fun _ _ => ⟨rfl, e62, (by decide : 0 + 0 ≤ _), (by decide : 0 + 0 ≤ _)⟩)
        dsimp only [Pt.U, Pt.locs, Pt.cells, Pt.slots] at X64 l64 y64 z64 st64 hQ64
        subst l64 y64 z64
        unfold Q3 at hQ64
        have k65 : ∀ t, Steps p.tables e below (T62.setTop (mkF m 18 #[.val (.int p0), .val (.int p1), .val (.ref wTRUE), .val (.ref wUNKNOWN), .unset, .unset] [(.int (1 : Int32)), (.int (2 : Int32))])) t → Steps p.tables e below (s₁.setTop (entryFrame m #[(.int p0), (.int p1)] maxLocals)) t := fun t kt => k63 t (by
          show Steps p.tables e below (T60.setTop (mkF m 15 #[.val (.int p0), .val (.int p1), .val (.ref wTRUE), .val (.ref wUNKNOWN), .unset, .unset] [(.ref wUNKNOWN), (.int (2 : Int32))])) _
          refine st62 _ ?_
          exact kt)
        rw [((by rw [f3, if_pos ((by decide) : (1 : Int32) < (2 : Int32))]) : (f3 (2 : Int32) (1 : Int32)) = (1 : Int32))] at hQ64
        obtain ⟨rfl, N64q, e64⟩ := hQ64
        have N64 := Fr.app N62 N64q
        obtain ⟨cq66, kq66, q66a, q66b, q66c⟩ := isOf hZ e64 ETRUE
        obtain ⟨_, _, ⟨T66, L66, k66, n66⟩, -, X66, ⟨Lc66, hQ66, l66, y66, z66⟩, st66⟩ := X64.virtualBack hx (y := (⟨"com/example/turtlehead/turtlehead/Truth", "and", "(Lcom/example/turtlehead/turtlehead/Truth;)Lcom/example/turtlehead/turtlehead/Truth;"⟩ : MethodName)) (z := (⟨"com/example/turtlehead/turtlehead/Truth", "and", "(Lcom/example/turtlehead/turtlehead/Truth;)Lcom/example/turtlehead/turtlehead/Truth;"⟩ : MethodName)) hown (mvT hZ (hw _ (List.mem_of_getElem? (i := 19) rfl))) (mvT hZ (hw _ (List.mem_of_getElem? (i := 20) rfl))) (notFace_of_selects (args := #[]) (mvT hZ (hw _ (List.mem_of_getElem? (i := 22) rfl)))) (mvT hZ (hw _ (List.mem_of_getElem? (i := 22) rfl))) (mvT hZ (hw _ (List.mem_of_getElem? (i := 21) rfl))) (by decide) (backOf (W := 0) (rm4 l Z a0 hw [] wTRUE wUNKNOWN wTRUE wFALSE wUNKNOWN h0 n0 Z0 W0 ) hZ (hw _ (List.mem_of_getElem? (i := 23) rfl)) (hw _ (List.mem_of_getElem? (i := 6) rfl)) (by decide) (by decide)) q66a q66c (g := (mkF m 25 #[.val (.int p0), .val (.int p1), .val (.ref wTRUE), .val (.ref wUNKNOWN), .val (.int (1 : Int32)), .unset] [(.ref wUNKNOWN), (.ref wTRUE)])) rfl (by rw [hml]; rfl) (Steps.refl _) (argsL := [(.ref wUNKNOWN)]) (rest := []) (lenOf pd_3 rfl) rfl (by show 2 * 0 + _ ≤ _; exact Nat.le_of_eq rfl) (hb hby at_25) (fun _ _ => ⟨rfl, e64, (by decide : 0 + 0 ≤ _), (by decide : 0 + 0 ≤ _)⟩)
        dsimp only [Pt.U, Pt.locs, Pt.cells, Pt.slots] at X66 l66 y66 z66 st66 hQ66
        subst l66 y66 z66
        unfold Q4 at hQ66
        have k67 : ∀ t, Steps p.tables e below (T64.setTop (mkF m 25 #[.val (.int p0), .val (.int p1), .val (.ref wTRUE), .val (.ref wUNKNOWN), .val (.int (1 : Int32)), .unset] [(.ref wUNKNOWN), (.ref wTRUE)])) t → Steps p.tables e below (s₁.setTop (entryFrame m #[(.int p0), (.int p1)] maxLocals)) t := fun t kt => k65 t (by
          show Steps p.tables e below (T62.setTop (mkF m 18 #[.val (.int p0), .val (.int p1), .val (.ref wTRUE), .val (.ref wUNKNOWN), .unset, .unset] [(.int (1 : Int32)), (.int (2 : Int32))])) _
          refine st64 _ ?_
          show Steps p.tables e below (T64.setTop (mkF m 21 #[.val (.int p0), .val (.int p1), .val (.ref wTRUE), .val (.ref wUNKNOWN), .unset, .unset] [(.int (1 : Int32))])) _
          refine XS.istore X64.here hx rfl (hb hby at_21) rfl (l' := #[.val (.int p0), .val (.int p1), .val (.ref wTRUE), .val (.ref wUNKNOWN), .val (.int (1 : Int32)), .unset]) rfl ?_
          show Steps p.tables e below (T64.setTop (mkF m 23 #[.val (.int p0), .val (.int p1), .val (.ref wTRUE), .val (.ref wUNKNOWN), .val (.int (1 : Int32)), .unset] [])) _
          refine XS.aloadN X64.here hx rfl (hb hby at_23) rfl rfl ?_
          show Steps p.tables e below (T64.setTop (mkF m 24 #[.val (.int p0), .val (.int p1), .val (.ref wTRUE), .val (.ref wUNKNOWN), .val (.int (1 : Int32)), .unset] [(.ref wTRUE)])) _
          refine XS.aloadN X64.here hx rfl (hb hby at_24) rfl rfl ?_
          exact kt)
        rw [((by rw [f4, if_neg ((Fld.ne FTRUE_ordinal FFALSE_ordinal (by decide)) : ¬ (wTRUE = wFALSE)), if_neg ((Fld.ne FUNKNOWN_ordinal FFALSE_ordinal (by decide)) : ¬ (wUNKNOWN = wFALSE)), if_neg ((Fld.ne FTRUE_ordinal FUNKNOWN_ordinal (by decide)) : ¬ (wTRUE = wUNKNOWN)), if_pos (rfl : wUNKNOWN = wUNKNOWN)]) : (f4 wTRUE wUNKNOWN wTRUE wFALSE wUNKNOWN) = wUNKNOWN)] at hQ66
        obtain ⟨rfl, N66q, e66⟩ := hQ66
        have N66 := Fr.app N64 N66q
        obtain ⟨_, _, ⟨T68, L68, k68, n68⟩, -, X68, ⟨Lc68, hQ68, l68, y68, z68⟩, st68⟩ := Jvm.LawKit.callS X66 hx (y := (⟨"com/example/turtlehead/turtlehead/TruthAndPinLaw", "rank", "(Lcom/example/turtlehead/turtlehead/Truth;)I"⟩ : MethodName)) hown (mvT hZ (hw _ (List.mem_of_getElem? (i := 8) rfl))) (mvT hZ (hw _ (List.mem_of_getElem? (i := 9) rfl))) (mvT hZ (hw _ (List.mem_of_getElem? (i := 2) rfl))) (mvT hZ (hw _ (List.mem_of_getElem? (i := 10) rfl))) (by decide) (backOf (W := 0) (rm2 l Z a0 hw [] wUNKNOWN wTRUE wFALSE wUNKNOWN h0 n0 Z0 W0 ) hZ (hw _ (List.mem_of_getElem? (i := 10) rfl)) (hw _ (List.mem_of_getElem? (i := 2) rfl)) (by decide) (by decide)) (g := (mkF m 39 #[.val (.int p0), .val (.int p1), .val (.ref wTRUE), .val (.ref wUNKNOWN), .val (.int (1 : Int32)), .val (.ref wUNKNOWN)] [(.ref wUNKNOWN)])) rfl (by rw [hml]; rfl) (argsL := [(.ref wUNKNOWN)]) (rest := []) (lenOf pd_1 rfl) rfl (by show 2 * 0 + _ ≤ _; exact Nat.le_of_eq rfl) (hb hby at_39) (fun _ _ => ⟨rfl, e66, (by decide : 0 + 0 ≤ _), (by decide : 0 + 0 ≤ _)⟩)
        dsimp only [Pt.U, Pt.locs, Pt.cells, Pt.slots] at X68 l68 y68 z68 st68 hQ68
        subst l68 y68 z68
        unfold Q2 at hQ68
        have k69 : ∀ t, Steps p.tables e below (T66.setTop (mkF m 39 #[.val (.int p0), .val (.int p1), .val (.ref wTRUE), .val (.ref wUNKNOWN), .val (.int (1 : Int32)), .val (.ref wUNKNOWN)] [(.ref wUNKNOWN)])) t → Steps p.tables e below (s₁.setTop (entryFrame m #[(.int p0), (.int p1)] maxLocals)) t := fun t kt => k67 t (by
          show Steps p.tables e below (T64.setTop (mkF m 25 #[.val (.int p0), .val (.int p1), .val (.ref wTRUE), .val (.ref wUNKNOWN), .val (.int (1 : Int32)), .unset] [(.ref wUNKNOWN), (.ref wTRUE)])) _
          refine st66.trans ?_
          show Steps p.tables e below (T66.setTop (mkF m 28 #[.val (.int p0), .val (.int p1), .val (.ref wTRUE), .val (.ref wUNKNOWN), .val (.int (1 : Int32)), .unset] [(.ref wUNKNOWN)])) _
          refine XS.astore X66.here hx rfl (hb hby at_28) rfl rfl (l' := #[.val (.int p0), .val (.int p1), .val (.ref wTRUE), .val (.ref wUNKNOWN), .val (.int (1 : Int32)), .val (.ref wUNKNOWN)]) rfl ?_
          show Steps p.tables e below (T66.setTop (mkF m 30 #[.val (.int p0), .val (.int p1), .val (.ref wTRUE), .val (.ref wUNKNOWN), .val (.int (1 : Int32)), .val (.ref wUNKNOWN)] [])) _
          refine XS.aload X66.here hx rfl (hb hby at_30) rfl rfl ?_
          show Steps p.tables e below (T66.setTop (mkF m 32 #[.val (.int p0), .val (.int p1), .val (.ref wTRUE), .val (.ref wUNKNOWN), .val (.int (1 : Int32)), .val (.ref wUNKNOWN)] [(.ref wUNKNOWN)])) _
          refine XS.ifnonnullYes X66.here hx rfl (pc0 := 32) (pc' := 37) rfl (hb hby at_32) rfl (by decide) (by decide) ?_
          show Steps p.tables e below (T66.setTop (mkF m 37 #[.val (.int p0), .val (.int p1), .val (.ref wTRUE), .val (.ref wUNKNOWN), .val (.int (1 : Int32)), .val (.ref wUNKNOWN)] [])) _
          refine XS.aload X66.here hx rfl (hb hby at_37) rfl rfl ?_
          exact kt)
        rw [((by rw [f2, if_neg ((Fld.ne FUNKNOWN_ordinal FFALSE_ordinal (by decide)) : ¬ (wUNKNOWN = wFALSE)), if_pos (rfl : wUNKNOWN = wUNKNOWN)]) : (f2 wUNKNOWN wTRUE wFALSE wUNKNOWN) = (1 : Int32))] at hQ68
        obtain ⟨rfl, N68q, e68⟩ := hQ68
        have N68 := Fr.app N66 N68q
        obtain ⟨fs, hr, hrun, hended, hW, hsame⟩ := X68.leave (v := some (.int (1 : Int32))) (fun h => by rw [Bd.returns] at h; cases h)
        refine ⟨_, _, k69 _ ?_, hrun, hended, _, _, rfl, ?_, ⟨_, rfl⟩, hW, hsame.mono (by decide) (by decide)⟩
        · show Steps p.tables e below (T66.setTop (mkF m 39 #[.val (.int p0), .val (.int p1), .val (.ref wTRUE), .val (.ref wUNKNOWN), .val (.int (1 : Int32)), .val (.ref wUNKNOWN)] [(.ref wUNKNOWN)])) _
          refine st68 _ ?_
          show Steps p.tables e below (T68.setTop (mkF m 42 #[.val (.int p0), .val (.int p1), .val (.ref wTRUE), .val (.ref wUNKNOWN), .val (.int (1 : Int32)), .val (.ref wUNKNOWN)] [(.int (1 : Int32))])) _
          refine XS.iload X68.here hx rfl (hb hby at_42) rfl ?_
          show Steps p.tables e below (T68.setTop (mkF m 44 #[.val (.int p0), .val (.int p1), .val (.ref wTRUE), .val (.ref wUNKNOWN), .val (.int (1 : Int32)), .val (.ref wUNKNOWN)] [(.int (1 : Int32)), (.int (1 : Int32))])) _
          refine XS.icmpNo X68.here hx rfl (hb hby at_44) rfl (teq (rfl : (1 : Int32) = (1 : Int32))).2 ?_
          show Steps p.tables e below (T68.setTop (mkF m 47 #[.val (.int p0), .val (.int p1), .val (.ref wTRUE), .val (.ref wUNKNOWN), .val (.int (1 : Int32)), .val (.ref wUNKNOWN)] [])) _
          refine XS.iconst X68.here hx rfl (hb hby at_47) ?_
          show Steps p.tables e below (T68.setTop (mkF m 48 #[.val (.int p0), .val (.int p1), .val (.ref wTRUE), .val (.ref wUNKNOWN), .val (.int (1 : Int32)), .val (.ref wUNKNOWN)] [(.int (1 : Int32))])) _
          refine XS.goto X68.here hx rfl (pc0 := 48) (pc' := 52) rfl (hb hby at_48) (by decide) (by decide) ?_
          show Steps p.tables e below (T68.setTop (mkF m 52 #[.val (.int p0), .val (.int p1), .val (.ref wTRUE), .val (.ref wUNKNOWN), .val (.int (1 : Int32)), .val (.ref wUNKNOWN)] [(.int (1 : Int32))])) _
          exact retN X68 hx (t := .boolean) Bd.returns (by simp) (hb hby at_52) hr
        · show Q0 Z p0 p1 wTRUE wFALSE wUNKNOWN h0 n0 _ T68.heap _
          rw [e68]
          exact ⟨rfl, N68⟩
  · by_cases hc70 : ((p0 &&& (2147483647 : Int32)) % (3 : Int32)) = (1 : Int32)
    · rw [((by rw [f1, if_neg (hc35 : ¬ (((p0 &&& (2147483647 : Int32)) % (3 : Int32)) = (0 : Int32))), if_pos (hc70 : ((p0 &&& (2147483647 : Int32)) % (3 : Int32)) = (1 : Int32))]) : (f1 p0 wTRUE wFALSE wUNKNOWN) = wFALSE)] at hQ33
      obtain ⟨rfl, N33q, e33⟩ := hQ33
      have N33 := Fr.app N0 N33q
      obtain ⟨_, _, ⟨T71, L71, k71, n71⟩, -, X71, ⟨Lc71, hQ71, l71, y71, z71⟩, st71⟩ := Jvm.LawKit.callS X33 hx (y := (⟨"com/example/turtlehead/turtlehead/TruthAndPinLaw", "pick", "(I)Lcom/example/turtlehead/turtlehead/Truth;"⟩ : MethodName)) hown (mvT hZ (hw _ (List.mem_of_getElem? (i := 0) rfl))) (mvT hZ (hw _ (List.mem_of_getElem? (i := 1) rfl))) (mvT hZ (hw _ (List.mem_of_getElem? (i := 2) rfl))) (mvT hZ (hw _ (List.mem_of_getElem? (i := 3) rfl))) (by decide) (backOf (W := 0) (rm1 l Z a0 hw [] p1 wTRUE wFALSE wUNKNOWN h0 n0 Z0 W0 ) hZ (hw _ (List.mem_of_getElem? (i := 3) rfl)) (hw _ (List.mem_of_getElem? (i := 2) rfl)) (by decide) (by decide)) (g := (mkF m 6 #[.val (.int p0), .val (.int p1), .val (.ref wFALSE), .unset, .unset, .unset] [(.int p1)])) rfl (by rw [hml]; rfl) (argsL := [(.int p1)]) (rest := []) (lenOf pd_0 rfl) rfl (by show 2 * 0 + _ ≤ _; exact Nat.le_of_eq rfl) (hb hby at_6) (fun _ _ => ⟨rfl, e33, (by decide : 0 + 0 ≤ _), (by decide : 0 + 0 ≤ _)⟩)
      dsimp only [Pt.U, Pt.locs, Pt.cells, Pt.slots] at X71 l71 y71 z71 st71 hQ71
      subst l71 y71 z71
      unfold Q1 at hQ71
      have k72 : ∀ t, Steps p.tables e below (T33.setTop (mkF m 6 #[.val (.int p0), .val (.int p1), .val (.ref wFALSE), .unset, .unset, .unset] [(.int p1)])) t → Steps p.tables e below (s₁.setTop (entryFrame m #[(.int p0), (.int p1)] maxLocals)) t := fun t kt => k34 t (by
        show Steps p.tables e below (s₁.setTop (mkF m 1 #[.val (.int p0), .val (.int p1), .unset, .unset, .unset, .unset] [(.int p0)])) _
        refine st33 _ ?_
        show Steps p.tables e below (T33.setTop (mkF m 4 #[.val (.int p0), .val (.int p1), .unset, .unset, .unset, .unset] [(.ref wFALSE)])) _
        refine XS.astoreN X33.here hx rfl (hb hby at_4) rfl rfl (l' := #[.val (.int p0), .val (.int p1), .val (.ref wFALSE), .unset, .unset, .unset]) rfl ?_
        show Steps p.tables e below (T33.setTop (mkF m 5 #[.val (.int p0), .val (.int p1), .val (.ref wFALSE), .unset, .unset, .unset] [])) _
        refine XS.iloadN X33.here hx rfl (hb hby at_5) rfl ?_
        exact kt)
      by_cases hc73 : ((p1 &&& (2147483647 : Int32)) % (3 : Int32)) = (0 : Int32)
      · rw [((by rw [f1, if_pos (hc73 : ((p1 &&& (2147483647 : Int32)) % (3 : Int32)) = (0 : Int32))]) : (f1 p1 wTRUE wFALSE wUNKNOWN) = wTRUE)] at hQ71
        obtain ⟨rfl, N71q, e71⟩ := hQ71
        have N71 := Fr.app N33 N71q
        obtain ⟨_, _, ⟨T74, L74, k74, n74⟩, -, X74, ⟨Lc74, hQ74, l74, y74, z74⟩, st74⟩ := Jvm.LawKit.callS X71 hx (y := (⟨"com/example/turtlehead/turtlehead/TruthAndPinLaw", "rank", "(Lcom/example/turtlehead/turtlehead/Truth;)I"⟩ : MethodName)) hown (mvT hZ (hw _ (List.mem_of_getElem? (i := 8) rfl))) (mvT hZ (hw _ (List.mem_of_getElem? (i := 9) rfl))) (mvT hZ (hw _ (List.mem_of_getElem? (i := 2) rfl))) (mvT hZ (hw _ (List.mem_of_getElem? (i := 10) rfl))) (by decide) (backOf (W := 0) (rm2 l Z a0 hw [] wFALSE wTRUE wFALSE wUNKNOWN h0 n0 Z0 W0 ) hZ (hw _ (List.mem_of_getElem? (i := 10) rfl)) (hw _ (List.mem_of_getElem? (i := 2) rfl)) (by decide) (by decide)) (g := (mkF m 11 #[.val (.int p0), .val (.int p1), .val (.ref wFALSE), .val (.ref wTRUE), .unset, .unset] [(.ref wFALSE)])) rfl (by rw [hml]; rfl) (argsL := [(.ref wFALSE)]) (rest := []) (lenOf pd_1 rfl) rfl (by show 2 * 0 + _ ≤ _; exact Nat.le_of_eq rfl) (hb hby at_11) (fun _ _ => ⟨rfl, e71, (by decide : 0 + 0 ≤ _), (by decide : 0 + 0 ≤ _)⟩)
        dsimp only [Pt.U, Pt.locs, Pt.cells, Pt.slots] at X74 l74 y74 z74 st74 hQ74
        subst l74 y74 z74
        unfold Q2 at hQ74
        have k75 : ∀ t, Steps p.tables e below (T71.setTop (mkF m 11 #[.val (.int p0), .val (.int p1), .val (.ref wFALSE), .val (.ref wTRUE), .unset, .unset] [(.ref wFALSE)])) t → Steps p.tables e below (s₁.setTop (entryFrame m #[(.int p0), (.int p1)] maxLocals)) t := fun t kt => k72 t (by
          show Steps p.tables e below (T33.setTop (mkF m 6 #[.val (.int p0), .val (.int p1), .val (.ref wFALSE), .unset, .unset, .unset] [(.int p1)])) _
          refine st71 _ ?_
          show Steps p.tables e below (T71.setTop (mkF m 9 #[.val (.int p0), .val (.int p1), .val (.ref wFALSE), .unset, .unset, .unset] [(.ref wTRUE)])) _
          refine XS.astoreN X71.here hx rfl (hb hby at_9) rfl rfl (l' := #[.val (.int p0), .val (.int p1), .val (.ref wFALSE), .val (.ref wTRUE), .unset, .unset]) rfl ?_
          show Steps p.tables e below (T71.setTop (mkF m 10 #[.val (.int p0), .val (.int p1), .val (.ref wFALSE), .val (.ref wTRUE), .unset, .unset] [])) _
          refine XS.aloadN X71.here hx rfl (hb hby at_10) rfl rfl ?_
          exact kt)
        rw [((by rw [f2, if_pos (rfl : wFALSE = wFALSE)]) : (f2 wFALSE wTRUE wFALSE wUNKNOWN) = (0 : Int32))] at hQ74
        obtain ⟨rfl, N74q, e74⟩ := hQ74
        have N74 := Fr.app N71 N74q
        obtain ⟨_, _, ⟨T76, L76, k76, n76⟩, -, X76, ⟨Lc76, hQ76, l76, y76, z76⟩, st76⟩ := Jvm.LawKit.callS X74 hx (y := (⟨"com/example/turtlehead/turtlehead/TruthAndPinLaw", "rank", "(Lcom/example/turtlehead/turtlehead/Truth;)I"⟩ : MethodName)) hown (mvT hZ (hw _ (List.mem_of_getElem? (i := 8) rfl))) (mvT hZ (hw _ (List.mem_of_getElem? (i := 9) rfl))) (mvT hZ (hw _ (List.mem_of_getElem? (i := 2) rfl))) (mvT hZ (hw _ (List.mem_of_getElem? (i := 10) rfl))) (by decide) (backOf (W := 1) (rm2 l Z a0 hw [] wTRUE wTRUE wFALSE wUNKNOWN h0 n0 Z0 W0 ) hZ (hw _ (List.mem_of_getElem? (i := 10) rfl)) (hw _ (List.mem_of_getElem? (i := 2) rfl)) (by decide) (by decide)) (g := (mkF m 15 #[.val (.int p0), .val (.int p1), .val (.ref wFALSE), .val (.ref wTRUE), .unset, .unset] [(.ref wTRUE), (.int (0 : Int32))])) rfl (by rw [hml]; rfl) (argsL := [(.ref wTRUE)]) (rest := [(.int (0 : Int32))]) (lenOf pd_1 rfl) rfl (by show 2 * 0 + _ ≤ _; exact Nat.le_of_eq rfl) (hb hby at_15) (fun _ _ => ⟨rfl, e74, (by decide : 0 + 0 ≤ _), (by decide : 0 + 0 ≤ _)⟩)
        dsimp only [Pt.U, Pt.locs, Pt.cells, Pt.slots] at X76 l76 y76 z76 st76 hQ76
        subst l76 y76 z76
        unfold Q2 at hQ76
        have k77 : ∀ t, Steps p.tables e below (T74.setTop (mkF m 15 #[.val (.int p0), .val (.int p1), .val (.ref wFALSE), .val (.ref wTRUE), .unset, .unset] [(.ref wTRUE), (.int (0 : Int32))])) t → Steps p.tables e below (s₁.setTop (entryFrame m #[(.int p0), (.int p1)] maxLocals)) t := fun t kt => k75 t (by
          show Steps p.tables e below (T71.setTop (mkF m 11 #[.val (.int p0), .val (.int p1), .val (.ref wFALSE), .val (.ref wTRUE), .unset, .unset] [(.ref wFALSE)])) _
          refine st74 _ ?_
          show Steps p.tables e below (T74.setTop (mkF m 14 #[.val (.int p0), .val (.int p1), .val (.ref wFALSE), .val (.ref wTRUE), .unset, .unset] [(.int (0 : Int32))])) _
          refine XS.aloadN X74.here hx rfl (hb hby at_14) rfl rfl ?_
          exact kt)
        rw [((by rw [f2, if_neg ((Fld.ne FTRUE_ordinal FFALSE_ordinal (by decide)) : ¬ (wTRUE = wFALSE)), if_neg ((Fld.ne FTRUE_ordinal FUNKNOWN_ordinal (by decide)) : ¬ (wTRUE = wUNKNOWN))]) : (f2 wTRUE wTRUE wFALSE wUNKNOWN) = (2 : Int32))] at hQ76
        obtain ⟨rfl, N76q, e76⟩ := hQ76
        have N76 := Fr.app N74 N76q
        obtain ⟨_, _, ⟨T78, L78, k78, n78⟩, -, X78, ⟨Lc78, hQ78, l78, y78, z78⟩, st78⟩ := Jvm.LawKit.callS X76 hx (y := (⟨"java/lang/Math", "min", "(II)I"⟩ : MethodName)) hown (mvT hZ (hw _ (List.mem_of_getElem? (i := 15) rfl))) (mvT hZ (hw _ (List.mem_of_getElem? (i := 16) rfl))) (mvT hZ (hw _ (List.mem_of_getElem? (i := 17) rfl))) (mvT hZ (hw _ (List.mem_of_getElem? (i := 18) rfl))) (by decide) (backOf (W := 0) (rm3 l Z a0 hw [] (0 : Int32) (2 : Int32) h0 n0 Z0 ) hZ (hw _ (List.mem_of_getElem? (i := 18) rfl)) (hw _ (List.mem_of_getElem? (i := 17) rfl)) (by decide) (by decide)) (g := (mkF m 18 #[.val (.int p0), .val (.int p1), .val (.ref wFALSE), .val (.ref wTRUE), .unset, .unset] [(.int (2 : Int32)), (.int (0 : Int32))])) rfl (by rw [hml]; rfl) (argsL := [(.int (0 : Int32)), (.int (2 : Int32))]) (rest := []) (lenOf pd_2 rfl) rfl (by show 2 * 0 + _ ≤ _; exact Nat.le_of_eq rfl) (hb hby at_18) (fun _ _ => ⟨rfl, e76, (by decide : 0 + 0 ≤ _), (by decide : 0 + 0 ≤ _)⟩)
        dsimp only [Pt.U, Pt.locs, Pt.cells, Pt.slots] at X78 l78 y78 z78 st78 hQ78
        subst l78 y78 z78
        unfold Q3 at hQ78
        have k79 : ∀ t, Steps p.tables e below (T76.setTop (mkF m 18 #[.val (.int p0), .val (.int p1), .val (.ref wFALSE), .val (.ref wTRUE), .unset, .unset] [(.int (2 : Int32)), (.int (0 : Int32))])) t → Steps p.tables e below (s₁.setTop (entryFrame m #[(.int p0), (.int p1)] maxLocals)) t := fun t kt => k77 t (by
          show Steps p.tables e below (T74.setTop (mkF m 15 #[.val (.int p0), .val (.int p1), .val (.ref wFALSE), .val (.ref wTRUE), .unset, .unset] [(.ref wTRUE), (.int (0 : Int32))])) _
          refine st76 _ ?_
          exact kt)
        rw [((by rw [f3, if_neg ((by decide) : ¬ ((2 : Int32) < (0 : Int32)))]) : (f3 (0 : Int32) (2 : Int32)) = (0 : Int32))] at hQ78
        obtain ⟨rfl, N78q, e78⟩ := hQ78
        have N78 := Fr.app N76 N78q
        obtain ⟨cq80, kq80, q80a, q80b, q80c⟩ := isOf hZ e78 EFALSE
        obtain ⟨_, _, ⟨T80, L80, k80, n80⟩, -, X80, ⟨Lc80, hQ80, l80, y80, z80⟩, st80⟩ := X78.virtualBack hx (y := (⟨"com/example/turtlehead/turtlehead/Truth", "and", "(Lcom/example/turtlehead/turtlehead/Truth;)Lcom/example/turtlehead/turtlehead/Truth;"⟩ : MethodName)) (z := (⟨"com/example/turtlehead/turtlehead/Truth", "and", "(Lcom/example/turtlehead/turtlehead/Truth;)Lcom/example/turtlehead/turtlehead/Truth;"⟩ : MethodName)) hown (mvT hZ (hw _ (List.mem_of_getElem? (i := 19) rfl))) (mvT hZ (hw _ (List.mem_of_getElem? (i := 20) rfl))) (notFace_of_selects (args := #[]) (mvT hZ (hw _ (List.mem_of_getElem? (i := 22) rfl)))) (mvT hZ (hw _ (List.mem_of_getElem? (i := 22) rfl))) (mvT hZ (hw _ (List.mem_of_getElem? (i := 21) rfl))) (by decide) (backOf (W := 0) (rm4 l Z a0 hw [] wFALSE wTRUE wTRUE wFALSE wUNKNOWN h0 n0 Z0 W0 ) hZ (hw _ (List.mem_of_getElem? (i := 23) rfl)) (hw _ (List.mem_of_getElem? (i := 6) rfl)) (by decide) (by decide)) q80a q80c (g := (mkF m 25 #[.val (.int p0), .val (.int p1), .val (.ref wFALSE), .val (.ref wTRUE), .val (.int (0 : Int32)), .unset] [(.ref wTRUE), (.ref wFALSE)])) rfl (by rw [hml]; rfl) (Steps.refl _) (argsL := [(.ref wTRUE)]) (rest := []) (lenOf pd_3 rfl) rfl (by show 2 * 0 + _ ≤ _; exact Nat.le_of_eq rfl) (hb hby at_25) (fun _ _ => ⟨rfl, e78, (by decide : 0 + 0 ≤ _), (by decide : 0 + 0 ≤ _)⟩)
        dsimp only [Pt.U, Pt.locs, Pt.cells, Pt.slots] at X80 l80 y80 z80 st80 hQ80
        subst l80 y80 z80
        unfold Q4 at hQ80
        have k81 : ∀ t, Steps p.tables e below (T78.setTop (mkF m 25 #[.val (.int p0), .val (.int p1), .val (.ref wFALSE), .val (.ref wTRUE), .val (.int (0 : Int32)), .unset] [(.ref wTRUE), (.ref wFALSE)])) t → Steps p.tables e below (s₁.setTop (entryFrame m #[(.int p0), (.int p1)] maxLocals)) t := fun t kt => k79 t (by
          show Steps p.tables e below (T76.setTop (mkF m 18 #[.val (.int p0), .val (.int p1), .val (.ref wFALSE), .val (.ref wTRUE), .unset, .unset] [(.int (2 : Int32)), (.int (0 : Int32))])) _
          refine st78 _ ?_
          show Steps p.tables e below (T78.setTop (mkF m 21 #[.val (.int p0), .val (.int p1), .val (.ref wFALSE), .val (.ref wTRUE), .unset, .unset] [(.int (0 : Int32))])) _
          refine XS.istore X78.here hx rfl (hb hby at_21) rfl (l' := #[.val (.int p0), .val (.int p1), .val (.ref wFALSE), .val (.ref wTRUE), .val (.int (0 : Int32)), .unset]) rfl ?_
          show Steps p.tables e below (T78.setTop (mkF m 23 #[.val (.int p0), .val (.int p1), .val (.ref wFALSE), .val (.ref wTRUE), .val (.int (0 : Int32)), .unset] [])) _
          refine XS.aloadN X78.here hx rfl (hb hby at_23) rfl rfl ?_
          show Steps p.tables e below (T78.setTop (mkF m 24 #[.val (.int p0), .val (.int p1), .val (.ref wFALSE), .val (.ref wTRUE), .val (.int (0 : Int32)), .unset] [(.ref wFALSE)])) _
          refine XS.aloadN X78.here hx rfl (hb hby at_24) rfl rfl ?_
          exact kt)
        rw [((by rw [f4, if_pos (rfl : wFALSE = wFALSE)]) : (f4 wFALSE wTRUE wTRUE wFALSE wUNKNOWN) = wFALSE)] at hQ80
        obtain ⟨rfl, N80q, e80⟩ := hQ80
        have N80 := Fr.app N78 N80q
        obtain ⟨_, _, ⟨T82, L82, k82, n82⟩, -, X82, ⟨Lc82, hQ82, l82, y82, z82⟩, st82⟩ := Jvm.LawKit.callS X80 hx (y := (⟨"com/example/turtlehead/turtlehead/TruthAndPinLaw", "rank", "(Lcom/example/turtlehead/turtlehead/Truth;)I"⟩ : MethodName)) hown (mvT hZ (hw _ (List.mem_of_getElem? (i := 8) rfl))) (mvT hZ (hw _ (List.mem_of_getElem? (i := 9) rfl))) (mvT hZ (hw _ (List.mem_of_getElem? (i := 2) rfl))) (mvT hZ (hw _ (List.mem_of_getElem? (i := 10) rfl))) (by decide) (backOf (W := 0) (rm2 l Z a0 hw [] wFALSE wTRUE wFALSE wUNKNOWN h0 n0 Z0 W0 ) hZ (hw _ (List.mem_of_getElem? (i := 10) rfl)) (hw _ (List.mem_of_getElem? (i := 2) rfl)) (by decide) (by decide)) (g := (mkF m 39 #[.val (.int p0), .val (.int p1), .val (.ref wFALSE), .val (.ref wTRUE), .val (.int (0 : Int32)), .val (.ref wFALSE)] [(.ref wFALSE)])) rfl (by rw [hml]; rfl) (argsL := [(.ref wFALSE)]) (rest := []) (lenOf pd_1 rfl) rfl (by show 2 * 0 + _ ≤ _; exact Nat.le_of_eq rfl) (hb hby at_39) (fun _ _ => ⟨rfl, e80, (by decide : 0 + 0 ≤ _), (by decide : 0 + 0 ≤ _)⟩)
        dsimp only [Pt.U, Pt.locs, Pt.cells, Pt.slots] at X82 l82 y82 z82 st82 hQ82
        subst l82 y82 z82
        unfold Q2 at hQ82
        have k83 : ∀ t, Steps p.tables e below (T80.setTop (mkF m 39 #[.val (.int p0), .val (.int p1), .val (.ref wFALSE), .val (.ref wTRUE), .val (.int (0 : Int32)), .val (.ref wFALSE)] [(.ref wFALSE)])) t → Steps p.tables e below (s₁.setTop (entryFrame m #[(.int p0), (.int p1)] maxLocals)) t := fun t kt => k81 t (by
          show Steps p.tables e below (T78.setTop (mkF m 25 #[.val (.int p0), .val (.int p1), .val (.ref wFALSE), .val (.ref wTRUE), .val (.int (0 : Int32)), .unset] [(.ref wTRUE), (.ref wFALSE)])) _
          refine st80.trans ?_
          show Steps p.tables e below (T80.setTop (mkF m 28 #[.val (.int p0), .val (.int p1), .val (.ref wFALSE), .val (.ref wTRUE), .val (.int (0 : Int32)), .unset] [(.ref wFALSE)])) _
          refine XS.astore X80.here hx rfl (hb hby at_28) rfl rfl (l' := #[.val (.int p0), .val (.int p1), .val (.ref wFALSE), .val (.ref wTRUE), .val (.int (0 : Int32)), .val (.ref wFALSE)]) rfl ?_
          show Steps p.tables e below (T80.setTop (mkF m 30 #[.val (.int p0), .val (.int p1), .val (.ref wFALSE), .val (.ref wTRUE), .val (.int (0 : Int32)), .val (.ref wFALSE)] [])) _
          refine XS.aload X80.here hx rfl (hb hby at_30) rfl rfl ?_
          show Steps p.tables e below (T80.setTop (mkF m 32 #[.val (.int p0), .val (.int p1), .val (.ref wFALSE), .val (.ref wTRUE), .val (.int (0 : Int32)), .val (.ref wFALSE)] [(.ref wFALSE)])) _
          refine XS.ifnonnullYes X80.here hx rfl (pc0 := 32) (pc' := 37) rfl (hb hby at_32) rfl (by decide) (by decide) ?_
          show Steps p.tables e below (T80.setTop (mkF m 37 #[.val (.int p0), .val (.int p1), .val (.ref wFALSE), .val (.ref wTRUE), .val (.int (0 : Int32)), .val (.ref wFALSE)] [])) _
          refine XS.aload X80.here hx rfl (hb hby at_37) rfl rfl ?_
          exact kt)
        rw [((by rw [f2, if_pos (rfl : wFALSE = wFALSE)]) : (f2 wFALSE wTRUE wFALSE wUNKNOWN) = (0 : Int32))] at hQ82
        obtain ⟨rfl, N82q, e82⟩ := hQ82
        have N82 := Fr.app N80 N82q
        obtain ⟨fs, hr, hrun, hended, hW, hsame⟩ := X82.leave (v := some (.int (1 : Int32))) (fun h => by rw [Bd.returns] at h; cases h)
        refine ⟨_, _, k83 _ ?_, hrun, hended, _, _, rfl, ?_, ⟨_, rfl⟩, hW, hsame.mono (by decide) (by decide)⟩
        · show Steps p.tables e below (T80.setTop (mkF m 39 #[.val (.int p0), .val (.int p1), .val (.ref wFALSE), .val (.ref wTRUE), .val (.int (0 : Int32)), .val (.ref wFALSE)] [(.ref wFALSE)])) _
          refine st82 _ ?_
          show Steps p.tables e below (T82.setTop (mkF m 42 #[.val (.int p0), .val (.int p1), .val (.ref wFALSE), .val (.ref wTRUE), .val (.int (0 : Int32)), .val (.ref wFALSE)] [(.int (0 : Int32))])) _
          refine XS.iload X82.here hx rfl (hb hby at_42) rfl ?_
          show Steps p.tables e below (T82.setTop (mkF m 44 #[.val (.int p0), .val (.int p1), .val (.ref wFALSE), .val (.ref wTRUE), .val (.int (0 : Int32)), .val (.ref wFALSE)] [(.int (0 : Int32)), (.int (0 : Int32))])) _
          refine XS.icmpNo X82.here hx rfl (hb hby at_44) rfl (teq (rfl : (0 : Int32) = (0 : Int32))).2 ?_
          show Steps p.tables e below (T82.setTop (mkF m 47 #[.val (.int p0), .val (.int p1), .val (.ref wFALSE), .val (.ref wTRUE), .val (.int (0 : Int32)), .val (.ref wFALSE)] [])) _
          refine XS.iconst X82.here hx rfl (hb hby at_47) ?_
          show Steps p.tables e below (T82.setTop (mkF m 48 #[.val (.int p0), .val (.int p1), .val (.ref wFALSE), .val (.ref wTRUE), .val (.int (0 : Int32)), .val (.ref wFALSE)] [(.int (1 : Int32))])) _
          refine XS.goto X82.here hx rfl (pc0 := 48) (pc' := 52) rfl (hb hby at_48) (by decide) (by decide) ?_
          show Steps p.tables e below (T82.setTop (mkF m 52 #[.val (.int p0), .val (.int p1), .val (.ref wFALSE), .val (.ref wTRUE), .val (.int (0 : Int32)), .val (.ref wFALSE)] [(.int (1 : Int32))])) _
          exact retN X82 hx (t := .boolean) Bd.returns (by simp) (hb hby at_52) hr
        · show Q0 Z p0 p1 wTRUE wFALSE wUNKNOWN h0 n0 _ T82.heap _
          rw [e82]
          exact ⟨rfl, N82⟩
      · by_cases hc84 : ((p1 &&& (2147483647 : Int32)) % (3 : Int32)) = (1 : Int32)
        · rw [((by rw [f1, if_neg (hc73 : ¬ (((p1 &&& (2147483647 : Int32)) % (3 : Int32)) = (0 : Int32))), if_pos (hc84 : ((p1 &&& (2147483647 : Int32)) % (3 : Int32)) = (1 : Int32))]) : (f1 p1 wTRUE wFALSE wUNKNOWN) = wFALSE)] at hQ71
          obtain ⟨rfl, N71q, e71⟩ := hQ71
          have N71 := Fr.app N33 N71q
          obtain ⟨_, _, ⟨T85, L85, k85, n85⟩, -, X85, ⟨Lc85, hQ85, l85, y85, z85⟩, st85⟩ := Jvm.LawKit.callS X71 hx (y := (⟨"com/example/turtlehead/turtlehead/TruthAndPinLaw", "rank", "(Lcom/example/turtlehead/turtlehead/Truth;)I"⟩ : MethodName)) hown (mvT hZ (hw _ (List.mem_of_getElem? (i := 8) rfl))) (mvT hZ (hw _ (List.mem_of_getElem? (i := 9) rfl))) (mvT hZ (hw _ (List.mem_of_getElem? (i := 2) rfl))) (mvT hZ (hw _ (List.mem_of_getElem? (i := 10) rfl))) (by decide) (backOf (W := 0) (rm2 l Z a0 hw [] wFALSE wTRUE wFALSE wUNKNOWN h0 n0 Z0 W0 ) hZ (hw _ (List.mem_of_getElem? (i := 10) rfl)) (hw _ (List.mem_of_getElem? (i := 2) rfl)) (by decide) (by decide)) (g := (mkF m 11 #[.val (.int p0), .val (.int p1), .val (.ref wFALSE), .val (.ref wFALSE), .unset, .unset] [(.ref wFALSE)])) rfl (by rw [hml]; rfl) (argsL := [(.ref wFALSE)]) (rest := []) (lenOf pd_1 rfl) rfl (by show 2 * 0 + _ ≤ _; exact Nat.le_of_eq rfl) (hb hby at_11) (fun _ _ => ⟨rfl, e71, (by decide : 0 + 0 ≤ _), (by decide : 0 + 0 ≤ _)⟩)
          dsimp only [Pt.U, Pt.locs, Pt.cells, Pt.slots] at X85 l85 y85 z85 st85 hQ85
          subst l85 y85 z85
          unfold Q2 at hQ85
          have k86 : ∀ t, Steps p.tables e below (T71.setTop (mkF m 11 #[.val (.int p0), .val (.int p1), .val (.ref wFALSE), .val (.ref wFALSE), .unset, .unset] [(.ref wFALSE)])) t → Steps p.tables e below (s₁.setTop (entryFrame m #[(.int p0), (.int p1)] maxLocals)) t := fun t kt => k72 t (by
            show Steps p.tables e below (T33.setTop (mkF m 6 #[.val (.int p0), .val (.int p1), .val (.ref wFALSE), .unset, .unset, .unset] [(.int p1)])) _
            refine st71 _ ?_
            show Steps p.tables e below (T71.setTop (mkF m 9 #[.val (.int p0), .val (.int p1), .val (.ref wFALSE), .unset, .unset, .unset] [(.ref wFALSE)])) _
            refine XS.astoreN X71.here hx rfl (hb hby at_9) rfl rfl (l' := #[.val (.int p0), .val (.int p1), .val (.ref wFALSE), .val (.ref wFALSE), .unset, .unset]) rfl ?_
            show Steps p.tables e below (T71.setTop (mkF m 10 #[.val (.int p0), .val (.int p1), .val (.ref wFALSE), .val (.ref wFALSE), .unset, .unset] [])) _
            refine XS.aloadN X71.here hx rfl (hb hby at_10) rfl rfl ?_
            exact kt)
          rw [((by rw [f2, if_pos (rfl : wFALSE = wFALSE)]) : (f2 wFALSE wTRUE wFALSE wUNKNOWN) = (0 : Int32))] at hQ85
          obtain ⟨rfl, N85q, e85⟩ := hQ85
          have N85 := Fr.app N71 N85q
          obtain ⟨_, _, ⟨T87, L87, k87, n87⟩, -, X87, ⟨Lc87, hQ87, l87, y87, z87⟩, st87⟩ := Jvm.LawKit.callS X85 hx (y := (⟨"com/example/turtlehead/turtlehead/TruthAndPinLaw", "rank", "(Lcom/example/turtlehead/turtlehead/Truth;)I"⟩ : MethodName)) hown (mvT hZ (hw _ (List.mem_of_getElem? (i := 8) rfl))) (mvT hZ (hw _ (List.mem_of_getElem? (i := 9) rfl))) (mvT hZ (hw _ (List.mem_of_getElem? (i := 2) rfl))) (mvT hZ (hw _ (List.mem_of_getElem? (i := 10) rfl))) (by decide) (backOf (W := 1) (rm2 l Z a0 hw [] wFALSE wTRUE wFALSE wUNKNOWN h0 n0 Z0 W0 ) hZ (hw _ (List.mem_of_getElem? (i := 10) rfl)) (hw _ (List.mem_of_getElem? (i := 2) rfl)) (by decide) (by decide)) (g := (mkF m 15 #[.val (.int p0), .val (.int p1), .val (.ref wFALSE), .val (.ref wFALSE), .unset, .unset] [(.ref wFALSE), (.int (0 : Int32))])) rfl (by rw [hml]; rfl) (argsL := [(.ref wFALSE)]) (rest := [(.int (0 : Int32))]) (lenOf pd_1 rfl) rfl (by show 2 * 0 + _ ≤ _; exact Nat.le_of_eq rfl) (hb hby at_15) (fun _ _ => ⟨rfl, e85, (by decide : 0 + 0 ≤ _), (by decide : 0 + 0 ≤ _)⟩)
          dsimp only [Pt.U, Pt.locs, Pt.cells, Pt.slots] at X87 l87 y87 z87 st87 hQ87
          subst l87 y87 z87
          unfold Q2 at hQ87
          have k88 : ∀ t, Steps p.tables e below (T85.setTop (mkF m 15 #[.val (.int p0), .val (.int p1), .val (.ref wFALSE), .val (.ref wFALSE), .unset, .unset] [(.ref wFALSE), (.int (0 : Int32))])) t → Steps p.tables e below (s₁.setTop (entryFrame m #[(.int p0), (.int p1)] maxLocals)) t := fun t kt => k86 t (by
            show Steps p.tables e below (T71.setTop (mkF m 11 #[.val (.int p0), .val (.int p1), .val (.ref wFALSE), .val (.ref wFALSE), .unset, .unset] [(.ref wFALSE)])) _
            refine st85 _ ?_
            show Steps p.tables e below (T85.setTop (mkF m 14 #[.val (.int p0), .val (.int p1), .val (.ref wFALSE), .val (.ref wFALSE), .unset, .unset] [(.int (0 : Int32))])) _
            refine XS.aloadN X85.here hx rfl (hb hby at_14) rfl rfl ?_
            exact kt)
          rw [((by rw [f2, if_pos (rfl : wFALSE = wFALSE)]) : (f2 wFALSE wTRUE wFALSE wUNKNOWN) = (0 : Int32))] at hQ87
          obtain ⟨rfl, N87q, e87⟩ := hQ87
          have N87 := Fr.app N85 N87q
          obtain ⟨_, _, ⟨T89, L89, k89, n89⟩, -, X89, ⟨Lc89, hQ89, l89, y89, z89⟩, st89⟩ := Jvm.LawKit.callS X87 hx (y := (⟨"java/lang/Math", "min", "(II)I"⟩ : MethodName)) hown (mvT hZ (hw _ (List.mem_of_getElem? (i := 15) rfl))) (mvT hZ (hw _ (List.mem_of_getElem? (i := 16) rfl))) (mvT hZ (hw _ (List.mem_of_getElem? (i := 17) rfl))) (mvT hZ (hw _ (List.mem_of_getElem? (i := 18) rfl))) (by decide) (backOf (W := 0) (rm3 l Z a0 hw [] (0 : Int32) (0 : Int32) h0 n0 Z0 ) hZ (hw _ (List.mem_of_getElem? (i := 18) rfl)) (hw _ (List.mem_of_getElem? (i := 17) rfl)) (by decide) (by decide)) (g := (mkF m 18 #[.val (.int p0), .val (.int p1), .val (.ref wFALSE), .val (.ref wFALSE), .unset, .unset] [(.int (0 : Int32)), (.int (0 : Int32))])) rfl (by rw [hml]; rfl) (argsL := [(.int (0 : Int32)), (.int (0 : Int32))]) (rest := []) (lenOf pd_2 rfl) rfl (by show 2 * 0 + _ ≤ _; exact Nat.le_of_eq rfl) (hb hby at_18) (fun _ _ => ⟨rfl, e87, (by decide : 0 + 0 ≤ _), (by decide : 0 + 0 ≤ _)⟩)
          dsimp only [Pt.U, Pt.locs, Pt.cells, Pt.slots] at X89 l89 y89 z89 st89 hQ89
          subst l89 y89 z89
          unfold Q3 at hQ89
          have k90 : ∀ t, Steps p.tables e below (T87.setTop (mkF m 18 #[.val (.int p0), .val (.int p1), .val (.ref wFALSE), .val (.ref wFALSE), .unset, .unset] [(.int (0 : Int32)), (.int (0 : Int32))])) t → Steps p.tables e below (s₁.setTop (entryFrame m #[(.int p0), (.int p1)] maxLocals)) t := fun t kt => k88 t (by
            show Steps p.tables e below (T85.setTop (mkF m 15 #[.val (.int p0), .val (.int p1), .val (.ref wFALSE), .val (.ref wFALSE), .unset, .unset] [(.ref wFALSE), (.int (0 : Int32))])) _
            refine st87 _ ?_
            exact kt)
          rw [((by rw [f3, if_neg ((by first | exact Int32.lt_irrefl _ | decide) : ¬ ((0 : Int32) < (0 : Int32)))]) : (f3 (0 : Int32) (0 : Int32)) = (0 : Int32))] at hQ89
          obtain ⟨rfl, N89q, e89⟩ := hQ89
          have N89 := Fr.app N87 N89q
          obtain ⟨cq91, kq91, q91a, q91b, q91c⟩ := isOf hZ e89 EFALSE
          obtain ⟨_, _, ⟨T91, L91, k91, n91⟩, -, X91, ⟨Lc91, hQ91, l91, y91, z91⟩, st91⟩ := X89.virtualBack hx (y := (⟨"com/example/turtlehead/turtlehead/Truth", "and", "(Lcom/example/turtlehead/turtlehead/Truth;)Lcom/example/turtlehead/turtlehead/Truth;"⟩ : MethodName)) (z := (⟨"com/example/turtlehead/turtlehead/Truth", "and", "(Lcom/example/turtlehead/turtlehead/Truth;)Lcom/example/turtlehead/turtlehead/Truth;"⟩ : MethodName)) hown (mvT hZ (hw _ (List.mem_of_getElem? (i := 19) rfl))) (mvT hZ (hw _ (List.mem_of_getElem? (i := 20) rfl))) (notFace_of_selects (args := #[]) (mvT hZ (hw _ (List.mem_of_getElem? (i := 22) rfl)))) (mvT hZ (hw _ (List.mem_of_getElem? (i := 22) rfl))) (mvT hZ (hw _ (List.mem_of_getElem? (i := 21) rfl))) (by decide) (backOf (W := 0) (rm4 l Z a0 hw [] wFALSE wFALSE wTRUE wFALSE wUNKNOWN h0 n0 Z0 W0 ) hZ (hw _ (List.mem_of_getElem? (i := 23) rfl)) (hw _ (List.mem_of_getElem? (i := 6) rfl)) (by decide) (by decide)) q91a q91c (g := (mkF m 25 #[.val (.int p0), .val (.int p1), .val (.ref wFALSE), .val (.ref wFALSE), .val (.int (0 : Int32)), .unset] [(.ref wFALSE), (.ref wFALSE)])) rfl (by rw [hml]; rfl) (Steps.refl _) (argsL := [(.ref wFALSE)]) (rest := []) (lenOf pd_3 rfl) rfl (by show 2 * 0 + _ ≤ _; exact Nat.le_of_eq rfl) (hb hby at_25) (fun _ _ => ⟨rfl, e89, (by decide : 0 + 0 ≤ _), (by decide : 0 + 0 ≤ _)⟩)
          dsimp only [Pt.U, Pt.locs, Pt.cells, Pt.slots] at X91 l91 y91 z91 st91 hQ91
          subst l91 y91 z91
          unfold Q4 at hQ91
          have k92 : ∀ t, Steps p.tables e below (T89.setTop (mkF m 25 #[.val (.int p0), .val (.int p1), .val (.ref wFALSE), .val (.ref wFALSE), .val (.int (0 : Int32)), .unset] [(.ref wFALSE), (.ref wFALSE)])) t → Steps p.tables e below (s₁.setTop (entryFrame m #[(.int p0), (.int p1)] maxLocals)) t := fun t kt => k90 t (by
            show Steps p.tables e below (T87.setTop (mkF m 18 #[.val (.int p0), .val (.int p1), .val (.ref wFALSE), .val (.ref wFALSE), .unset, .unset] [(.int (0 : Int32)), (.int (0 : Int32))])) _
            refine st89 _ ?_
            show Steps p.tables e below (T89.setTop (mkF m 21 #[.val (.int p0), .val (.int p1), .val (.ref wFALSE), .val (.ref wFALSE), .unset, .unset] [(.int (0 : Int32))])) _
            refine XS.istore X89.here hx rfl (hb hby at_21) rfl (l' := #[.val (.int p0), .val (.int p1), .val (.ref wFALSE), .val (.ref wFALSE), .val (.int (0 : Int32)), .unset]) rfl ?_
            show Steps p.tables e below (T89.setTop (mkF m 23 #[.val (.int p0), .val (.int p1), .val (.ref wFALSE), .val (.ref wFALSE), .val (.int (0 : Int32)), .unset] [])) _
            refine XS.aloadN X89.here hx rfl (hb hby at_23) rfl rfl ?_
            show Steps p.tables e below (T89.setTop (mkF m 24 #[.val (.int p0), .val (.int p1), .val (.ref wFALSE), .val (.ref wFALSE), .val (.int (0 : Int32)), .unset] [(.ref wFALSE)])) _
            refine XS.aloadN X89.here hx rfl (hb hby at_24) rfl rfl ?_
            exact kt)
          rw [((by rw [f4, if_pos (rfl : wFALSE = wFALSE)]) : (f4 wFALSE wFALSE wTRUE wFALSE wUNKNOWN) = wFALSE)] at hQ91
          obtain ⟨rfl, N91q, e91⟩ := hQ91
          have N91 := Fr.app N89 N91q
          obtain ⟨_, _, ⟨T93, L93, k93, n93⟩, -, X93, ⟨Lc93, hQ93, l93, y93, z93⟩, st93⟩ := Jvm.LawKit.callS X91 hx (y := (⟨"com/example/turtlehead/turtlehead/TruthAndPinLaw", "rank", "(Lcom/example/turtlehead/turtlehead/Truth;)I"⟩ : MethodName)) hown (mvT hZ (hw _ (List.mem_of_getElem? (i := 8) rfl))) (mvT hZ (hw _ (List.mem_of_getElem? (i := 9) rfl))) (mvT hZ (hw _ (List.mem_of_getElem? (i := 2) rfl))) (mvT hZ (hw _ (List.mem_of_getElem? (i := 10) rfl))) (by decide) (backOf (W := 0) (rm2 l Z a0 hw [] wFALSE wTRUE wFALSE wUNKNOWN h0 n0 Z0 W0 ) hZ (hw _ (List.mem_of_getElem? (i := 10) rfl)) (hw _ (List.mem_of_getElem? (i := 2) rfl)) (by decide) (by decide)) (g := (mkF m 39 #[.val (.int p0), .val (.int p1), .val (.ref wFALSE), .val (.ref wFALSE), .val (.int (0 : Int32)), .val (.ref wFALSE)] [(.ref wFALSE)])) rfl (by rw [hml]; rfl) (argsL := [(.ref wFALSE)]) (rest := []) (lenOf pd_1 rfl) rfl (by show 2 * 0 + _ ≤ _; exact Nat.le_of_eq rfl) (hb hby at_39) (fun _ _ => ⟨rfl, e91, (by decide : 0 + 0 ≤ _), (by decide : 0 + 0 ≤ _)⟩)
          dsimp only [Pt.U, Pt.locs, Pt.cells, Pt.slots] at X93 l93 y93 z93 st93 hQ93
          subst l93 y93 z93
          unfold Q2 at hQ93
          have k94 : ∀ t, Steps p.tables e below (T91.setTop (mkF m 39 #[.val (.int p0), .val (.int p1), .val (.ref wFALSE), .val (.ref wFALSE), .val (.int (0 : Int32)), .val (.ref wFALSE)] [(.ref wFALSE)])) t → Steps p.tables e below (s₁.setTop (entryFrame m #[(.int p0), (.int p1)] maxLocals)) t := fun t kt => k92 t (by
            show Steps p.tables e below (T89.setTop (mkF m 25 #[.val (.int p0), .val (.int p1), .val (.ref wFALSE), .val (.ref wFALSE), .val (.int (0 : Int32)), .unset] [(.ref wFALSE), (.ref wFALSE)])) _
            refine st91.trans ?_
            show Steps p.tables e below (T91.setTop (mkF m 28 #[.val (.int p0), .val (.int p1), .val (.ref wFALSE), .val (.ref wFALSE), .val (.int (0 : Int32)), .unset] [(.ref wFALSE)])) _
            refine XS.astore X91.here hx rfl (hb hby at_28) rfl rfl (l' := #[.val (.int p0), .val (.int p1), .val (.ref wFALSE), .val (.ref wFALSE), .val (.int (0 : Int32)), .val (.ref wFALSE)]) rfl ?_
            show Steps p.tables e below (T91.setTop (mkF m 30 #[.val (.int p0), .val (.int p1), .val (.ref wFALSE), .val (.ref wFALSE), .val (.int (0 : Int32)), .val (.ref wFALSE)] [])) _
            refine XS.aload X91.here hx rfl (hb hby at_30) rfl rfl ?_
            show Steps p.tables e below (T91.setTop (mkF m 32 #[.val (.int p0), .val (.int p1), .val (.ref wFALSE), .val (.ref wFALSE), .val (.int (0 : Int32)), .val (.ref wFALSE)] [(.ref wFALSE)])) _
            refine XS.ifnonnullYes X91.here hx rfl (pc0 := 32) (pc' := 37) rfl (hb hby at_32) rfl (by decide) (by decide) ?_
            show Steps p.tables e below (T91.setTop (mkF m 37 #[.val (.int p0), .val (.int p1), .val (.ref wFALSE), .val (.ref wFALSE), .val (.int (0 : Int32)), .val (.ref wFALSE)] [])) _
            refine XS.aload X91.here hx rfl (hb hby at_37) rfl rfl ?_
            exact kt)
          rw [((by rw [f2, if_pos (rfl : wFALSE = wFALSE)]) : (f2 wFALSE wTRUE wFALSE wUNKNOWN) = (0 : Int32))] at hQ93
          obtain ⟨rfl, N93q, e93⟩ := hQ93
          have N93 := Fr.app N91 N93q
          obtain ⟨fs, hr, hrun, hended, hW, hsame⟩ := X93.leave (v := some (.int (1 : Int32))) (fun h => by rw [Bd.returns] at h; cases h)
          refine ⟨_, _, k94 _ ?_, hrun, hended, _, _, rfl, ?_, ⟨_, rfl⟩, hW, hsame.mono (by decide) (by decide)⟩
          · show Steps p.tables e below (T91.setTop (mkF m 39 #[.val (.int p0), .val (.int p1), .val (.ref wFALSE), .val (.ref wFALSE), .val (.int (0 : Int32)), .val (.ref wFALSE)] [(.ref wFALSE)])) _
            refine st93 _ ?_
            show Steps p.tables e below (T93.setTop (mkF m 42 #[.val (.int p0), .val (.int p1), .val (.ref wFALSE), .val (.ref wFALSE), .val (.int (0 : Int32)), .val (.ref wFALSE)] [(.int (0 : Int32))])) _
            refine XS.iload X93.here hx rfl (hb hby at_42) rfl ?_
            show Steps p.tables e below (T93.setTop (mkF m 44 #[.val (.int p0), .val (.int p1), .val (.ref wFALSE), .val (.ref wFALSE), .val (.int (0 : Int32)), .val (.ref wFALSE)] [(.int (0 : Int32)), (.int (0 : Int32))])) _
            refine XS.icmpNo X93.here hx rfl (hb hby at_44) rfl (teq (rfl : (0 : Int32) = (0 : Int32))).2 ?_
            show Steps p.tables e below (T93.setTop (mkF m 47 #[.val (.int p0), .val (.int p1), .val (.ref wFALSE), .val (.ref wFALSE), .val (.int (0 : Int32)), .val (.ref wFALSE)] [])) _
            refine XS.iconst X93.here hx rfl (hb hby at_47) ?_
            show Steps p.tables e below (T93.setTop (mkF m 48 #[.val (.int p0), .val (.int p1), .val (.ref wFALSE), .val (.ref wFALSE), .val (.int (0 : Int32)), .val (.ref wFALSE)] [(.int (1 : Int32))])) _
            refine XS.goto X93.here hx rfl (pc0 := 48) (pc' := 52) rfl (hb hby at_48) (by decide) (by decide) ?_
            show Steps p.tables e below (T93.setTop (mkF m 52 #[.val (.int p0), .val (.int p1), .val (.ref wFALSE), .val (.ref wFALSE), .val (.int (0 : Int32)), .val (.ref wFALSE)] [(.int (1 : Int32))])) _
            exact retN X93 hx (t := .boolean) Bd.returns (by simp) (hb hby at_52) hr
          · show Q0 Z p0 p1 wTRUE wFALSE wUNKNOWN h0 n0 _ T93.heap _
            rw [e93]
            exact ⟨rfl, N93⟩
        · rw [((by rw [f1, if_neg (hc73 : ¬ (((p1 &&& (2147483647 : Int32)) % (3 : Int32)) = (0 : Int32))), if_neg (hc84 : ¬ (((p1 &&& (2147483647 : Int32)) % (3 : Int32)) = (1 : Int32)))]) : (f1 p1 wTRUE wFALSE wUNKNOWN) = wUNKNOWN)] at hQ71
          obtain ⟨rfl, N71q, e71⟩ := hQ71
          have N71 := Fr.app N33 N71q
          obtain ⟨_, _, ⟨T95, L95, k95, n95⟩, -, X95, ⟨Lc95, hQ95, l95, y95, z95⟩, st95⟩ := Jvm.LawKit.callS X71 hx (y := (⟨"com/example/turtlehead/turtlehead/TruthAndPinLaw", "rank", "(Lcom/example/turtlehead/turtlehead/Truth;)I"⟩ : MethodName)) hown (mvT hZ (hw _ (List.mem_of_getElem? (i := 8) rfl))) (mvT hZ (hw _ (List.mem_of_getElem? (i := 9) rfl))) (mvT hZ (hw _ (List.mem_of_getElem? (i := 2) rfl))) (mvT hZ (hw _ (List.mem_of_getElem? (i := 10) rfl))) (by decide) (backOf (W := 0) (rm2 l Z a0 hw [] wFALSE wTRUE wFALSE wUNKNOWN h0 n0 Z0 W0 ) hZ (hw _ (List.mem_of_getElem? (i := 10) rfl)) (hw _ (List.mem_of_getElem? (i := 2) rfl)) (by decide) (by decide)) (g := (mkF m 11 #[.val (.int p0), .val (.int p1), .val (.ref wFALSE), .val (.ref wUNKNOWN), .unset, .unset] [(.ref wFALSE)])) rfl (by rw [hml]; rfl) (argsL := [(.ref wFALSE)]) (rest := []) (lenOf pd_1 rfl) rfl (by show 2 * 0 + _ ≤ _; exact Nat.le_of_eq rfl) (hb hby at_11) (fun _ _ => ⟨rfl, e71, (by decide : 0 + 0 ≤ _), (by decide : 0 + 0 ≤ _)⟩)
          dsimp only [Pt.U, Pt.locs, Pt.cells, Pt.slots] at X95 l95 y95 z95 st95 hQ95
          subst l95 y95 z95
          unfold Q2 at hQ95
          have k96 : ∀ t, Steps p.tables e below (T71.setTop (mkF m 11 #[.val (.int p0), .val (.int p1), .val (.ref wFALSE), .val (.ref wUNKNOWN), .unset, .unset] [(.ref wFALSE)])) t → Steps p.tables e below (s₁.setTop (entryFrame m #[(.int p0), (.int p1)] maxLocals)) t := fun t kt => k72 t (by
            show Steps p.tables e below (T33.setTop (mkF m 6 #[.val (.int p0), .val (.int p1), .val (.ref wFALSE), .unset, .unset, .unset] [(.int p1)])) _
            refine st71 _ ?_
            show Steps p.tables e below (T71.setTop (mkF m 9 #[.val (.int p0), .val (.int p1), .val (.ref wFALSE), .unset, .unset, .unset] [(.ref wUNKNOWN)])) _
            refine XS.astoreN X71.here hx rfl (hb hby at_9) rfl rfl (l' := #[.val (.int p0), .val (.int p1), .val (.ref wFALSE), .val (.ref wUNKNOWN), .unset, .unset]) rfl ?_
            show Steps p.tables e below (T71.setTop (mkF m 10 #[.val (.int p0), .val (.int p1), .val (.ref wFALSE), .val (.ref wUNKNOWN), .unset, .unset] [])) _
            refine XS.aloadN X71.here hx rfl (hb hby at_10) rfl rfl ?_
            exact kt)
          rw [((by rw [f2, if_pos (rfl : wFALSE = wFALSE)]) : (f2 wFALSE wTRUE wFALSE wUNKNOWN) = (0 : Int32))] at hQ95
          obtain ⟨rfl, N95q, e95⟩ := hQ95
          have N95 := Fr.app N71 N95q
          obtain ⟨_, _, ⟨T97, L97, k97, n97⟩, -, X97, ⟨Lc97, hQ97, l97, y97, z97⟩, st97⟩ := Jvm.LawKit.callS X95 hx (y := (⟨"com/example/turtlehead/turtlehead/TruthAndPinLaw", "rank", "(Lcom/example/turtlehead/turtlehead/Truth;)I"⟩ : MethodName)) hown (mvT hZ (hw _ (List.mem_of_getElem? (i := 8) rfl))) (mvT hZ (hw _ (List.mem_of_getElem? (i := 9) rfl))) (mvT hZ (hw _ (List.mem_of_getElem? (i := 2) rfl))) (mvT hZ (hw _ (List.mem_of_getElem? (i := 10) rfl))) (by decide) (backOf (W := 1) (rm2 l Z a0 hw [] wUNKNOWN wTRUE wFALSE wUNKNOWN h0 n0 Z0 W0 ) hZ (hw _ (List.mem_of_getElem? (i := 10) rfl)) (hw _ (List.mem_of_getElem? (i := 2) rfl)) (by decide) (by decide)) (g := (mkF m 15 #[.val (.int p0), .val (.int p1), .val (.ref wFALSE), .val (.ref wUNKNOWN), .unset, .unset] [(.ref wUNKNOWN), (.int (0 : Int32))])) rfl (by rw [hml]; rfl) (argsL := [(.ref wUNKNOWN)]) (rest := [(.int (0 : Int32))]) (lenOf pd_1 rfl) rfl (by show 2 * 0 + _ ≤ _; exact Nat.le_of_eq rfl) (hb hby at_15) (fun _ _ => ⟨rfl, e95, (by decide : 0 + 0 ≤ _), (by decide : 0 + 0 ≤ _)⟩)
          dsimp only [Pt.U, Pt.locs, Pt.cells, Pt.slots] at X97 l97 y97 z97 st97 hQ97
          subst l97 y97 z97
          unfold Q2 at hQ97
          have k98 : ∀ t, Steps p.tables e below (T95.setTop (mkF m 15 #[.val (.int p0), .val (.int p1), .val (.ref wFALSE), .val (.ref wUNKNOWN), .unset, .unset] [(.ref wUNKNOWN), (.int (0 : Int32))])) t → Steps p.tables e below (s₁.setTop (entryFrame m #[(.int p0), (.int p1)] maxLocals)) t := fun t kt => k96 t (by
            show Steps p.tables e below (T71.setTop (mkF m 11 #[.val (.int p0), .val (.int p1), .val (.ref wFALSE), .val (.ref wUNKNOWN), .unset, .unset] [(.ref wFALSE)])) _
            refine st95 _ ?_
            show Steps p.tables e below (T95.setTop (mkF m 14 #[.val (.int p0), .val (.int p1), .val (.ref wFALSE), .val (.ref wUNKNOWN), .unset, .unset] [(.int (0 : Int32))])) _
            refine XS.aloadN X95.here hx rfl (hb hby at_14) rfl rfl ?_
            exact kt)
          rw [((by rw [f2, if_neg ((Fld.ne FUNKNOWN_ordinal FFALSE_ordinal (by decide)) : ¬ (wUNKNOWN = wFALSE)), if_pos (rfl : wUNKNOWN = wUNKNOWN)]) : (f2 wUNKNOWN wTRUE wFALSE wUNKNOWN) = (1 : Int32))] at hQ97
          obtain ⟨rfl, N97q, e97⟩ := hQ97
          have N97 := Fr.app N95 N97q
          obtain ⟨_, _, ⟨T99, L99, k99, n99⟩, -, X99, ⟨Lc99, hQ99, l99, y99, z99⟩, st99⟩ := Jvm.LawKit.callS X97 hx (y := (⟨"java/lang/Math", "min", "(II)I"⟩ : MethodName)) hown (mvT hZ (hw _ (List.mem_of_getElem? (i := 15) rfl))) (mvT hZ (hw _ (List.mem_of_getElem? (i := 16) rfl))) (mvT hZ (hw _ (List.mem_of_getElem? (i := 17) rfl))) (mvT hZ (hw _ (List.mem_of_getElem? (i := 18) rfl))) (by decide) (backOf (W := 0) (rm3 l Z a0 hw [] (0 : Int32) (1 : Int32) h0 n0 Z0 ) hZ (hw _ (List.mem_of_getElem? (i := 18) rfl)) (hw _ (List.mem_of_getElem? (i := 17) rfl)) (by decide) (by decide)) (g := (mkF m 18 #[.val (.int p0), .val (.int p1), .val (.ref wFALSE), .val (.ref wUNKNOWN), .unset, .unset] [(.int (1 : Int32)), (.int (0 : Int32))])) rfl (by rw [hml]; rfl) (argsL := [(.int (0 : Int32)), (.int (1 : Int32))]) (rest := []) (lenOf pd_2 rfl) rfl (by show 2 * 0 + _ ≤ _; exact Nat.le_of_eq rfl) (hb hby at_18) (fun _ _ => ⟨rfl, e97, (by decide : 0 + 0 ≤ _), (by decide : 0 + 0 ≤ _)⟩)
          dsimp only [Pt.U, Pt.locs, Pt.cells, Pt.slots] at X99 l99 y99 z99 st99 hQ99
          subst l99 y99 z99
          unfold Q3 at hQ99
          have k100 : ∀ t, Steps p.tables e below (T97.setTop (mkF m 18 #[.val (.int p0), .val (.int p1), .val (.ref wFALSE), .val (.ref wUNKNOWN), .unset, .unset] [(.int (1 : Int32)), (.int (0 : Int32))])) t → Steps p.tables e below (s₁.setTop (entryFrame m #[(.int p0), (.int p1)] maxLocals)) t := fun t kt => k98 t (by
            show Steps p.tables e below (T95.setTop (mkF m 15 #[.val (.int p0), .val (.int p1), .val (.ref wFALSE), .val (.ref wUNKNOWN), .unset, .unset] [(.ref wUNKNOWN), (.int (0 : Int32))])) _
            refine st97 _ ?_
            exact kt)
          rw [((by rw [f3, if_neg ((by decide) : ¬ ((1 : Int32) < (0 : Int32)))]) : (f3 (0 : Int32) (1 : Int32)) = (0 : Int32))] at hQ99
          obtain ⟨rfl, N99q, e99⟩ := hQ99
          have N99 := Fr.app N97 N99q
          obtain ⟨cq101, kq101, q101a, q101b, q101c⟩ := isOf hZ e99 EFALSE
          obtain ⟨_, _, ⟨T101, L101, k101, n101⟩, -, X101, ⟨Lc101, hQ101, l101, y101, z101⟩, st101⟩ := X99.virtualBack hx (y := (⟨"com/example/turtlehead/turtlehead/Truth", "and", "(Lcom/example/turtlehead/turtlehead/Truth;)Lcom/example/turtlehead/turtlehead/Truth;"⟩ : MethodName)) (z := (⟨"com/example/turtlehead/turtlehead/Truth", "and", "(Lcom/example/turtlehead/turtlehead/Truth;)Lcom/example/turtlehead/turtlehead/Truth;"⟩ : MethodName)) hown (mvT hZ (hw _ (List.mem_of_getElem? (i := 19) rfl))) (mvT hZ (hw _ (List.mem_of_getElem? (i := 20) rfl))) (notFace_of_selects (args := #[]) (mvT hZ (hw _ (List.mem_of_getElem? (i := 22) rfl)))) (mvT hZ (hw _ (List.mem_of_getElem? (i := 22) rfl))) (mvT hZ (hw _ (List.mem_of_getElem? (i := 21) rfl))) (by decide) (backOf (W := 0) (rm4 l Z a0 hw [] wFALSE wUNKNOWN wTRUE wFALSE wUNKNOWN h0 n0 Z0 W0 ) hZ (hw _ (List.mem_of_getElem? (i := 23) rfl)) (hw _ (List.mem_of_getElem? (i := 6) rfl)) (by decide) (by decide)) q101a q101c (g := (mkF m 25 #[.val (.int p0), .val (.int p1), .val (.ref wFALSE), .val (.ref wUNKNOWN), .val (.int (0 : Int32)), .unset] [(.ref wUNKNOWN), (.ref wFALSE)])) rfl (by rw [hml]; rfl) (Steps.refl _) (argsL := [(.ref wUNKNOWN)]) (rest := []) (lenOf pd_3 rfl) rfl (by show 2 * 0 + _ ≤ _; exact Nat.le_of_eq rfl) (hb hby at_25) (fun _ _ => ⟨rfl, e99, (by decide : 0 + 0 ≤ _), (by decide : 0 + 0 ≤ _)⟩)
          dsimp only [Pt.U, Pt.locs, Pt.cells, Pt.slots] at X101 l101 y101 z101 st101 hQ101
          subst l101 y101 z101
          unfold Q4 at hQ101
          have k102 : ∀ t, Steps p.tables e below (T99.setTop (mkF m 25 #[.val (.int p0), .val (.int p1), .val (.ref wFALSE), .val (.ref wUNKNOWN), .val (.int (0 : Int32)), .unset] [(.ref wUNKNOWN), (.ref wFALSE)])) t → Steps p.tables e below (s₁.setTop (entryFrame m #[(.int p0), (.int p1)] maxLocals)) t := fun t kt => k100 t (by
            show Steps p.tables e below (T97.setTop (mkF m 18 #[.val (.int p0), .val (.int p1), .val (.ref wFALSE), .val (.ref wUNKNOWN), .unset, .unset] [(.int (1 : Int32)), (.int (0 : Int32))])) _
            refine st99 _ ?_
            show Steps p.tables e below (T99.setTop (mkF m 21 #[.val (.int p0), .val (.int p1), .val (.ref wFALSE), .val (.ref wUNKNOWN), .unset, .unset] [(.int (0 : Int32))])) _
            refine XS.istore X99.here hx rfl (hb hby at_21) rfl (l' := #[.val (.int p0), .val (.int p1), .val (.ref wFALSE), .val (.ref wUNKNOWN), .val (.int (0 : Int32)), .unset]) rfl ?_
            show Steps p.tables e below (T99.setTop (mkF m 23 #[.val (.int p0), .val (.int p1), .val (.ref wFALSE), .val (.ref wUNKNOWN), .val (.int (0 : Int32)), .unset] [])) _
            refine XS.aloadN X99.here hx rfl (hb hby at_23) rfl rfl ?_
            show Steps p.tables e below (T99.setTop (mkF m 24 #[.val (.int p0), .val (.int p1), .val (.ref wFALSE), .val (.ref wUNKNOWN), .val (.int (0 : Int32)), .unset] [(.ref wFALSE)])) _
            refine XS.aloadN X99.here hx rfl (hb hby at_24) rfl rfl ?_
            exact kt)
          rw [((by rw [f4, if_pos (rfl : wFALSE = wFALSE)]) : (f4 wFALSE wUNKNOWN wTRUE wFALSE wUNKNOWN) = wFALSE)] at hQ101
          obtain ⟨rfl, N101q, e101⟩ := hQ101
          have N101 := Fr.app N99 N101q
          obtain ⟨_, _, ⟨T103, L103, k103, n103⟩, -, X103, ⟨Lc103, hQ103, l103, y103, z103⟩, st103⟩ := Jvm.LawKit.callS X101 hx (y := (⟨"com/example/turtlehead/turtlehead/TruthAndPinLaw", "rank", "(Lcom/example/turtlehead/turtlehead/Truth;)I"⟩ : MethodName)) hown (mvT hZ (hw _ (List.mem_of_getElem? (i := 8) rfl))) (mvT hZ (hw _ (List.mem_of_getElem? (i := 9) rfl))) (mvT hZ (hw _ (List.mem_of_getElem? (i := 2) rfl))) (mvT hZ (hw _ (List.mem_of_getElem? (i := 10) rfl))) (by decide) (backOf (W := 0) (rm2 l Z a0 hw [] wFALSE wTRUE wFALSE wUNKNOWN h0 n0 Z0 W0 ) hZ (hw _ (List.mem_of_getElem? (i := 10) rfl)) (hw _ (List.mem_of_getElem? (i := 2) rfl)) (by decide) (by decide)) (g := (mkF m 39 #[.val (.int p0), .val (.int p1), .val (.ref wFALSE), .val (.ref wUNKNOWN), .val (.int (0 : Int32)), .val (.ref wFALSE)] [(.ref wFALSE)])) rfl (by rw [hml]; rfl) (argsL := [(.ref wFALSE)]) (rest := []) (lenOf pd_1 rfl) rfl (by show 2 * 0 + _ ≤ _; exact Nat.le_of_eq rfl) (hb hby at_39) (fun _ _ => ⟨rfl, e101, (by decide : 0 + 0 ≤ _), (by decide : 0 + 0 ≤ _)⟩)
          dsimp only [Pt.U, Pt.locs, Pt.cells, Pt.slots] at X103 l103 y103 z103 st103 hQ103
          subst l103 y103 z103
          unfold Q2 at hQ103
          have k104 : ∀ t, Steps p.tables e below (T101.setTop (mkF m 39 #[.val (.int p0), .val (.int p1), .val (.ref wFALSE), .val (.ref wUNKNOWN), .val (.int (0 : Int32)), .val (.ref wFALSE)] [(.ref wFALSE)])) t → Steps p.tables e below (s₁.setTop (entryFrame m #[(.int p0), (.int p1)] maxLocals)) t := fun t kt => k102 t (by
            show Steps p.tables e below (T99.setTop (mkF m 25 #[.val (.int p0), .val (.int p1), .val (.ref wFALSE), .val (.ref wUNKNOWN), .val (.int (0 : Int32)), .unset] [(.ref wUNKNOWN), (.ref wFALSE)])) _
            refine st101.trans ?_
            show Steps p.tables e below (T101.setTop (mkF m 28 #[.val (.int p0), .val (.int p1), .val (.ref wFALSE), .val (.ref wUNKNOWN), .val (.int (0 : Int32)), .unset] [(.ref wFALSE)])) _
            refine XS.astore X101.here hx rfl (hb hby at_28) rfl rfl (l' := #[.val (.int p0), .val (.int p1), .val (.ref wFALSE), .val (.ref wUNKNOWN), .val (.int (0 : Int32)), .val (.ref wFALSE)]) rfl ?_
            show Steps p.tables e below (T101.setTop (mkF m 30 #[.val (.int p0), .val (.int p1), .val (.ref wFALSE), .val (.ref wUNKNOWN), .val (.int (0 : Int32)), .val (.ref wFALSE)] [])) _
            refine XS.aload X101.here hx rfl (hb hby at_30) rfl rfl ?_
            show Steps p.tables e below (T101.setTop (mkF m 32 #[.val (.int p0), .val (.int p1), .val (.ref wFALSE), .val (.ref wUNKNOWN), .val (.int (0 : Int32)), .val (.ref wFALSE)] [(.ref wFALSE)])) _
            refine XS.ifnonnullYes X101.here hx rfl (pc0 := 32) (pc' := 37) rfl (hb hby at_32) rfl (by decide) (by decide) ?_
            show Steps p.tables e below (T101.setTop (mkF m 37 #[.val (.int p0), .val (.int p1), .val (.ref wFALSE), .val (.ref wUNKNOWN), .val (.int (0 : Int32)), .val (.ref wFALSE)] [])) _
            refine XS.aload X101.here hx rfl (hb hby at_37) rfl rfl ?_
            exact kt)
          rw [((by rw [f2, if_pos (rfl : wFALSE = wFALSE)]) : (f2 wFALSE wTRUE wFALSE wUNKNOWN) = (0 : Int32))] at hQ103
          obtain ⟨rfl, N103q, e103⟩ := hQ103
          have N103 := Fr.app N101 N103q
          obtain ⟨fs, hr, hrun, hended, hW, hsame⟩ := X103.leave (v := some (.int (1 : Int32))) (fun h => by rw [Bd.returns] at h; cases h)
          refine ⟨_, _, k104 _ ?_, hrun, hended, _, _, rfl, ?_, ⟨_, rfl⟩, hW, hsame.mono (by decide) (by decide)⟩
          · show Steps p.tables e below (T101.setTop (mkF m 39 #[.val (.int p0), .val (.int p1), .val (.ref wFALSE), .val (.ref wUNKNOWN), .val (.int (0 : Int32)), .val (.ref wFALSE)] [(.ref wFALSE)])) _
            refine st103 _ ?_
            show Steps p.tables e below (T103.setTop (mkF m 42 #[.val (.int p0), .val (.int p1), .val (.ref wFALSE), .val (.ref wUNKNOWN), .val (.int (0 : Int32)), .val (.ref wFALSE)] [(.int (0 : Int32))])) _
            refine XS.iload X103.here hx rfl (hb hby at_42) rfl ?_
            show Steps p.tables e below (T103.setTop (mkF m 44 #[.val (.int p0), .val (.int p1), .val (.ref wFALSE), .val (.ref wUNKNOWN), .val (.int (0 : Int32)), .val (.ref wFALSE)] [(.int (0 : Int32)), (.int (0 : Int32))])) _
            refine XS.icmpNo X103.here hx rfl (hb hby at_44) rfl (teq (rfl : (0 : Int32) = (0 : Int32))).2 ?_
            show Steps p.tables e below (T103.setTop (mkF m 47 #[.val (.int p0), .val (.int p1), .val (.ref wFALSE), .val (.ref wUNKNOWN), .val (.int (0 : Int32)), .val (.ref wFALSE)] [])) _
            refine XS.iconst X103.here hx rfl (hb hby at_47) ?_
            show Steps p.tables e below (T103.setTop (mkF m 48 #[.val (.int p0), .val (.int p1), .val (.ref wFALSE), .val (.ref wUNKNOWN), .val (.int (0 : Int32)), .val (.ref wFALSE)] [(.int (1 : Int32))])) _
            refine XS.goto X103.here hx rfl (pc0 := 48) (pc' := 52) rfl (hb hby at_48) (by decide) (by decide) ?_
            show Steps p.tables e below (T103.setTop (mkF m 52 #[.val (.int p0), .val (.int p1), .val (.ref wFALSE), .val (.ref wUNKNOWN), .val (.int (0 : Int32)), .val (.ref wFALSE)] [(.int (1 : Int32))])) _
            exact retN X103 hx (t := .boolean) Bd.returns (by simp) (hb hby at_52) hr
          · show Q0 Z p0 p1 wTRUE wFALSE wUNKNOWN h0 n0 _ T103.heap _
            rw [e103]
            exact ⟨rfl, N103⟩
    · rw [((by rw [f1, if_neg (hc35 : ¬ (((p0 &&& (2147483647 : Int32)) % (3 : Int32)) = (0 : Int32))), if_neg (hc70 : ¬ (((p0 &&& (2147483647 : Int32)) % (3 : Int32)) = (1 : Int32)))]) : (f1 p0 wTRUE wFALSE wUNKNOWN) = wUNKNOWN)] at hQ33
      obtain ⟨rfl, N33q, e33⟩ := hQ33
      have N33 := Fr.app N0 N33q
      obtain ⟨_, _, ⟨T105, L105, k105, n105⟩, -, X105, ⟨Lc105, hQ105, l105, y105, z105⟩, st105⟩ := Jvm.LawKit.callS X33 hx (y := (⟨"com/example/turtlehead/turtlehead/TruthAndPinLaw", "pick", "(I)Lcom/example/turtlehead/turtlehead/Truth;"⟩ : MethodName)) hown (mvT hZ (hw _ (List.mem_of_getElem? (i := 0) rfl))) (mvT hZ (hw _ (List.mem_of_getElem? (i := 1) rfl))) (mvT hZ (hw _ (List.mem_of_getElem? (i := 2) rfl))) (mvT hZ (hw _ (List.mem_of_getElem? (i := 3) rfl))) (by decide) (backOf (W := 0) (rm1 l Z a0 hw [] p1 wTRUE wFALSE wUNKNOWN h0 n0 Z0 W0 ) hZ (hw _ (List.mem_of_getElem? (i := 3) rfl)) (hw _ (List.mem_of_getElem? (i := 2) rfl)) (by decide) (by decide)) (g := (mkF m 6 #[.val (.int p0), .val (.int p1), .val (.ref wUNKNOWN), .unset, .unset, .unset] [(.int p1)])) rfl (by rw [hml]; rfl) (argsL := [(.int p1)]) (rest := []) (lenOf pd_0 rfl) rfl (by show 2 * 0 + _ ≤ _; exact Nat.le_of_eq rfl) (hb hby at_6) (fun _ _ => ⟨rfl, e33, (by decide : 0 + 0 ≤ _), (by decide : 0 + 0 ≤ _)⟩)
      dsimp only [Pt.U, Pt.locs, Pt.cells, Pt.slots] at X105 l105 y105 z105 st105 hQ105
      subst l105 y105 z105
      unfold Q1 at hQ105
      have k106 : ∀ t, Steps p.tables e below (T33.setTop (mkF m 6 #[.val (.int p0), .val (.int p1), .val (.ref wUNKNOWN), .unset, .unset, .unset] [(.int p1)])) t → Steps p.tables e below (s₁.setTop (entryFrame m #[(.int p0), (.int p1)] maxLocals)) t := fun t kt => k34 t (by
        show Steps p.tables e below (s₁.setTop (mkF m 1 #[.val (.int p0), .val (.int p1), .unset, .unset, .unset, .unset] [(.int p0)])) _
        refine st33 _ ?_
        show Steps p.tables e below (T33.setTop (mkF m 4 #[.val (.int p0), .val (.int p1), .unset, .unset, .unset, .unset] [(.ref wUNKNOWN)])) _
        refine XS.astoreN X33.here hx rfl (hb hby at_4) rfl rfl (l' := #[.val (.int p0), .val (.int p1), .val (.ref wUNKNOWN), .unset, .unset, .unset]) rfl ?_
        show Steps p.tables e below (T33.setTop (mkF m 5 #[.val (.int p0), .val (.int p1), .val (.ref wUNKNOWN), .unset, .unset, .unset] [])) _
        refine XS.iloadN X33.here hx rfl (hb hby at_5) rfl ?_
        exact kt)
      by_cases hc107 : ((p1 &&& (2147483647 : Int32)) % (3 : Int32)) = (0 : Int32)
      · rw [((by rw [f1, if_pos (hc107 : ((p1 &&& (2147483647 : Int32)) % (3 : Int32)) = (0 : Int32))]) : (f1 p1 wTRUE wFALSE wUNKNOWN) = wTRUE)] at hQ105
        obtain ⟨rfl, N105q, e105⟩ := hQ105
        have N105 := Fr.app N33 N105q
        obtain ⟨_, _, ⟨T108, L108, k108, n108⟩, -, X108, ⟨Lc108, hQ108, l108, y108, z108⟩, st108⟩ := Jvm.LawKit.callS X105 hx (y := (⟨"com/example/turtlehead/turtlehead/TruthAndPinLaw", "rank", "(Lcom/example/turtlehead/turtlehead/Truth;)I"⟩ : MethodName)) hown (mvT hZ (hw _ (List.mem_of_getElem? (i := 8) rfl))) (mvT hZ (hw _ (List.mem_of_getElem? (i := 9) rfl))) (mvT hZ (hw _ (List.mem_of_getElem? (i := 2) rfl))) (mvT hZ (hw _ (List.mem_of_getElem? (i := 10) rfl))) (by decide) (backOf (W := 0) (rm2 l Z a0 hw [] wUNKNOWN wTRUE wFALSE wUNKNOWN h0 n0 Z0 W0 ) hZ (hw _ (List.mem_of_getElem? (i := 10) rfl)) (hw _ (List.mem_of_getElem? (i := 2) rfl)) (by decide) (by decide)) (g := (mkF m 11 #[.val (.int p0), .val (.int p1), .val (.ref wUNKNOWN), .val (.ref wTRUE), .unset, .unset] [(.ref wUNKNOWN)])) rfl (by rw [hml]; rfl) (argsL := [(.ref wUNKNOWN)]) (rest := []) (lenOf pd_1 rfl) rfl (by show 2 * 0 + _ ≤ _; exact Nat.le_of_eq rfl) (hb hby at_11) (fun _ _ => ⟨rfl, e105, (by decide : 0 + 0 ≤ _), (by decide : 0 + 0 ≤ _)⟩)
        dsimp only [Pt.U, Pt.locs, Pt.cells, Pt.slots] at X108 l108 y108 z108 st108 hQ108
        subst l108 y108 z108
        unfold Q2 at hQ108
        have k109 : ∀ t, Steps p.tables e below (T105.setTop (mkF m 11 #[.val (.int p0), .val (.int p1), .val (.ref wUNKNOWN), .val (.ref wTRUE), .unset, .unset] [(.ref wUNKNOWN)])) t → Steps p.tables e below (s₁.setTop (entryFrame m #[(.int p0), (.int p1)] maxLocals)) t := fun t kt => k106 t (by
          show Steps p.tables e below (T33.setTop (mkF m 6 #[.val (.int p0), .val (.int p1), .val (.ref wUNKNOWN), .unset, .unset, .unset] [(.int p1)])) _
          refine st105 _ ?_
          show Steps p.tables e below (T105.setTop (mkF m 9 #[.val (.int p0), .val (.int p1), .val (.ref wUNKNOWN), .unset, .unset, .unset] [(.ref wTRUE)])) _
          refine XS.astoreN X105.here hx rfl (hb hby at_9) rfl rfl (l' := #[.val (.int p0), .val (.int p1), .val (.ref wUNKNOWN), .val (.ref wTRUE), .unset, .unset]) rfl ?_
          show Steps p.tables e below (T105.setTop (mkF m 10 #[.val (.int p0), .val (.int p1), .val (.ref wUNKNOWN), .val (.ref wTRUE), .unset, .unset] [])) _
          refine XS.aloadN X105.here hx rfl (hb hby at_10) rfl rfl ?_
          exact kt)
        rw [((by rw [f2, if_neg ((Fld.ne FUNKNOWN_ordinal FFALSE_ordinal (by decide)) : ¬ (wUNKNOWN = wFALSE)), if_pos (rfl : wUNKNOWN = wUNKNOWN)]) : (f2 wUNKNOWN wTRUE wFALSE wUNKNOWN) = (1 : Int32))] at hQ108
        obtain ⟨rfl, N108q, e108⟩ := hQ108
        have N108 := Fr.app N105 N108q
        obtain ⟨_, _, ⟨T110, L110, k110, n110⟩, -, X110, ⟨Lc110, hQ110, l110, y110, z110⟩, st110⟩ := Jvm.LawKit.callS X108 hx (y := (⟨"com/example/turtlehead/turtlehead/TruthAndPinLaw", "rank", "(Lcom/example/turtlehead/turtlehead/Truth;)I"⟩ : MethodName)) hown (mvT hZ (hw _ (List.mem_of_getElem? (i := 8) rfl))) (mvT hZ (hw _ (List.mem_of_getElem? (i := 9) rfl))) (mvT hZ (hw _ (List.mem_of_getElem? (i := 2) rfl))) (mvT hZ (hw _ (List.mem_of_getElem? (i := 10) rfl))) (by decide) (backOf (W := 1) (rm2 l Z a0 hw [] wTRUE wTRUE wFALSE wUNKNOWN h0 n0 Z0 W0 ) hZ (hw _ (List.mem_of_getElem? (i := 10) rfl)) (hw _ (List.mem_of_getElem? (i := 2) rfl)) (by decide) (by decide)) (g := (mkF m 15 #[.val (.int p0), .val (.int p1), .val (.ref wUNKNOWN), .val (.ref wTRUE), .unset, .unset] [(.ref wTRUE), (.int (1 : Int32))])) rfl (by rw [hml]; rfl) (argsL := [(.ref wTRUE)]) (rest := [(.int (1 : Int32))]) (lenOf pd_1 rfl) rfl (by show 2 * 0 + _ ≤ _; exact Nat.le_of_eq rfl) (hb hby at_15) (fun _ _ => ⟨rfl, e108, (by decide : 0 + 0 ≤ _), (by decide : 0 + 0 ≤ _)⟩)
        dsimp only [Pt.U, Pt.locs, Pt.cells, Pt.slots] at X110 l110 y110 z110 st110 hQ110
        subst l110 y110 z110
        unfold Q2 at hQ110
        have k111 : ∀ t, Steps p.tables e below (T108.setTop (mkF m 15 #[.val (.int p0), .val (.int p1), .val (.ref wUNKNOWN), .val (.ref wTRUE), .unset, .unset] [(.ref wTRUE), (.int (1 : Int32))])) t → Steps p.tables e below (s₁.setTop (entryFrame m #[(.int p0), (.int p1)] maxLocals)) t := fun t kt => k109 t (by
          show Steps p.tables e below (T105.setTop (mkF m 11 #[.val (.int p0), .val (.int p1), .val (.ref wUNKNOWN), .val (.ref wTRUE), .unset, .unset] [(.ref wUNKNOWN)])) _
          refine st108 _ ?_
          show Steps p.tables e below (T108.setTop (mkF m 14 #[.val (.int p0), .val (.int p1), .val (.ref wUNKNOWN), .val (.ref wTRUE), .unset, .unset] [(.int (1 : Int32))])) _
          refine XS.aloadN X108.here hx rfl (hb hby at_14) rfl rfl ?_
          exact kt)
        rw [((by rw [f2, if_neg ((Fld.ne FTRUE_ordinal FFALSE_ordinal (by decide)) : ¬ (wTRUE = wFALSE)), if_neg ((Fld.ne FTRUE_ordinal FUNKNOWN_ordinal (by decide)) : ¬ (wTRUE = wUNKNOWN))]) : (f2 wTRUE wTRUE wFALSE wUNKNOWN) = (2 : Int32))] at hQ110
        obtain ⟨rfl, N110q, e110⟩ := hQ110
        have N110 := Fr.app N108 N110q
        obtain ⟨_, _, ⟨T112, L112, k112, n112⟩, -, X112, ⟨Lc112, hQ112, l112, y112, z112⟩, st112⟩ := Jvm.LawKit.callS X110 hx (y := (⟨"java/lang/Math", "min", "(II)I"⟩ : MethodName)) hown (mvT hZ (hw _ (List.mem_of_getElem? (i := 15) rfl))) (mvT hZ (hw _ (List.mem_of_getElem? (i := 16) rfl))) (mvT hZ (hw _ (List.mem_of_getElem? (i := 17) rfl))) (mvT hZ (hw _ (List.mem_of_getElem? (i := 18) rfl))) (by decide) (backOf (W := 0) (rm3 l Z a0 hw [] (1 : Int32) (2 : Int32) h0 n0 Z0 ) hZ (hw _ (List.mem_of_getElem? (i := 18) rfl)) (hw _ (List.mem_of_getElem? (i := 17) rfl)) (by decide) (by decide)) (g := (mkF m 18 #[.val (.int p0), .val (.int p1), .val (.ref wUNKNOWN), .val (.ref wTRUE), .unset, .unset] [(.int (2 : Int32)), (.int (1 : Int32))])) rfl (by rw [hml]; rfl) (argsL := [(.int (1 : Int32)), (.int (2 : Int32))]) (rest := []) (lenOf pd_2 rfl) rfl (by show 2 * 0 + _ ≤ _; exact Nat.le_of_eq rfl) (hb hby at_18) (fun _ _ => ⟨rfl, e110, (by decide : 0 + 0 ≤ _), (by decide : 0 + 0 ≤ _)⟩)
        dsimp only [Pt.U, Pt.locs, Pt.cells, Pt.slots] at X112 l112 y112 z112 st112 hQ112
        subst l112 y112 z112
        unfold Q3 at hQ112
        have k113 : ∀ t, Steps p.tables e below (T110.setTop (mkF m 18 #[.val (.int p0), .val (.int p1), .val (.ref wUNKNOWN), .val (.ref wTRUE), .unset, .unset] [(.int (2 : Int32)), (.int (1 : Int32))])) t → Steps p.tables e below (s₁.setTop (entryFrame m #[(.int p0), (.int p1)] maxLocals)) t := fun t kt => k111 t (by
          show Steps p.tables e below (T108.setTop (mkF m 15 #[.val (.int p0), .val (.int p1), .val (.ref wUNKNOWN), .val (.ref wTRUE), .unset, .unset] [(.ref wTRUE), (.int (1 : Int32))])) _
          refine st110 _ ?_
          exact kt)
        rw [((by rw [f3, if_neg ((by decide) : ¬ ((2 : Int32) < (1 : Int32)))]) : (f3 (1 : Int32) (2 : Int32)) = (1 : Int32))] at hQ112
        obtain ⟨rfl, N112q, e112⟩ := hQ112
        have N112 := Fr.app N110 N112q
        obtain ⟨cq114, kq114, q114a, q114b, q114c⟩ := isOf hZ e112 EUNKNOWN
        obtain ⟨_, _, ⟨T114, L114, k114, n114⟩, -, X114, ⟨Lc114, hQ114, l114, y114, z114⟩, st114⟩ := X112.virtualBack hx (y := (⟨"com/example/turtlehead/turtlehead/Truth", "and", "(Lcom/example/turtlehead/turtlehead/Truth;)Lcom/example/turtlehead/turtlehead/Truth;"⟩ : MethodName)) (z := (⟨"com/example/turtlehead/turtlehead/Truth", "and", "(Lcom/example/turtlehead/turtlehead/Truth;)Lcom/example/turtlehead/turtlehead/Truth;"⟩ : MethodName)) hown (mvT hZ (hw _ (List.mem_of_getElem? (i := 19) rfl))) (mvT hZ (hw _ (List.mem_of_getElem? (i := 20) rfl))) (notFace_of_selects (args := #[]) (mvT hZ (hw _ (List.mem_of_getElem? (i := 22) rfl)))) (mvT hZ (hw _ (List.mem_of_getElem? (i := 22) rfl))) (mvT hZ (hw _ (List.mem_of_getElem? (i := 21) rfl))) (by decide) (backOf (W := 0) (rm4 l Z a0 hw [] wUNKNOWN wTRUE wTRUE wFALSE wUNKNOWN h0 n0 Z0 W0 ) hZ (hw _ (List.mem_of_getElem? (i := 23) rfl)) (hw _ (List.mem_of_getElem? (i := 6) rfl)) (by decide) (by decide)) q114a q114c (g := (mkF m 25 #[.val (.int p0), .val (.int p1), .val (.ref wUNKNOWN), .val (.ref wTRUE), .val (.int (1 : Int32)), .unset] [(.ref wTRUE), (.ref wUNKNOWN)])) rfl (by rw [hml]; rfl) (Steps.refl _) (argsL := [(.ref wTRUE)]) (rest := []) (lenOf pd_3 rfl) rfl (by show 2 * 0 + _ ≤ _; exact Nat.le_of_eq rfl) (hb hby at_25) (fun _ _ => ⟨rfl, e112, (by decide : 0 + 0 ≤ _), (by decide : 0 + 0 ≤ _)⟩)
        dsimp only [Pt.U, Pt.locs, Pt.cells, Pt.slots] at X114 l114 y114 z114 st114 hQ114
        subst l114 y114 z114
        unfold Q4 at hQ114
        have k115 : ∀ t, Steps p.tables e below (T112.setTop (mkF m 25 #[.val (.int p0), .val (.int p1), .val (.ref wUNKNOWN), .val (.ref wTRUE), .val (.int (1 : Int32)), .unset] [(.ref wTRUE), (.ref wUNKNOWN)])) t → Steps p.tables e below (s₁.setTop (entryFrame m #[(.int p0), (.int p1)] maxLocals)) t := fun t kt => k113 t (by
          show Steps p.tables e below (T110.setTop (mkF m 18 #[.val (.int p0), .val (.int p1), .val (.ref wUNKNOWN), .val (.ref wTRUE), .unset, .unset] [(.int (2 : Int32)), (.int (1 : Int32))])) _
          refine st112 _ ?_
          show Steps p.tables e below (T112.setTop (mkF m 21 #[.val (.int p0), .val (.int p1), .val (.ref wUNKNOWN), .val (.ref wTRUE), .unset, .unset] [(.int (1 : Int32))])) _
          refine XS.istore X112.here hx rfl (hb hby at_21) rfl (l' := #[.val (.int p0), .val (.int p1), .val (.ref wUNKNOWN), .val (.ref wTRUE), .val (.int (1 : Int32)), .unset]) rfl ?_
          show Steps p.tables e below (T112.setTop (mkF m 23 #[.val (.int p0), .val (.int p1), .val (.ref wUNKNOWN), .val (.ref wTRUE), .val (.int (1 : Int32)), .unset] [])) _
          refine XS.aloadN X112.here hx rfl (hb hby at_23) rfl rfl ?_
          show Steps p.tables e below (T112.setTop (mkF m 24 #[.val (.int p0), .val (.int p1), .val (.ref wUNKNOWN), .val (.ref wTRUE), .val (.int (1 : Int32)), .unset] [(.ref wUNKNOWN)])) _
          refine XS.aloadN X112.here hx rfl (hb hby at_24) rfl rfl ?_
          exact kt)
        rw [((by rw [f4, if_neg ((Fld.ne FUNKNOWN_ordinal FFALSE_ordinal (by decide)) : ¬ (wUNKNOWN = wFALSE)), if_neg ((Fld.ne FTRUE_ordinal FFALSE_ordinal (by decide)) : ¬ (wTRUE = wFALSE)), if_pos (rfl : wUNKNOWN = wUNKNOWN)]) : (f4 wUNKNOWN wTRUE wTRUE wFALSE wUNKNOWN) = wUNKNOWN)] at hQ114
        obtain ⟨rfl, N114q, e114⟩ := hQ114
        have N114 := Fr.app N112 N114q
        obtain ⟨_, _, ⟨T116, L116, k116, n116⟩, -, X116, ⟨Lc116, hQ116, l116, y116, z116⟩, st116⟩ := Jvm.LawKit.callS X114 hx (y := (⟨"com/example/turtlehead/turtlehead/TruthAndPinLaw", "rank", "(Lcom/example/turtlehead/turtlehead/Truth;)I"⟩ : MethodName)) hown (mvT hZ (hw _ (List.mem_of_getElem? (i := 8) rfl))) (mvT hZ (hw _ (List.mem_of_getElem? (i := 9) rfl))) (mvT hZ (hw _ (List.mem_of_getElem? (i := 2) rfl))) (mvT hZ (hw _ (List.mem_of_getElem? (i := 10) rfl))) (by decide) (backOf (W := 0) (rm2 l Z a0 hw [] wUNKNOWN wTRUE wFALSE wUNKNOWN h0 n0 Z0 W0 ) hZ (hw _ (List.mem_of_getElem? (i := 10) rfl)) (hw _ (List.mem_of_getElem? (i := 2) rfl)) (by decide) (by decide)) (g := (mkF m 39 #[.val (.int p0), .val (.int p1), .val (.ref wUNKNOWN), .val (.ref wTRUE), .val (.int (1 : Int32)), .val (.ref wUNKNOWN)] [(.ref wUNKNOWN)])) rfl (by rw [hml]; rfl) (argsL := [(.ref wUNKNOWN)]) (rest := []) (lenOf pd_1 rfl) rfl (by show 2 * 0 + _ ≤ _; exact Nat.le_of_eq rfl) (hb hby at_39) (fun _ _ => ⟨rfl, e114, (by decide : 0 + 0 ≤ _), (by decide : 0 + 0 ≤ _)⟩)
        dsimp only [Pt.U, Pt.locs, Pt.cells, Pt.slots] at X116 l116 y116 z116 st116 hQ116
        subst l116 y116 z116
        unfold Q2 at hQ116
        have k117 : ∀ t, Steps p.tables e below (T114.setTop (mkF m 39 #[.val (.int p0), .val (.int p1), .val (.ref wUNKNOWN), .val (.ref wTRUE), .val (.int (1 : Int32)), .val (.ref wUNKNOWN)] [(.ref wUNKNOWN)])) t → Steps p.tables e below (s₁.setTop (entryFrame m #[(.int p0), (.int p1)] maxLocals)) t := fun t kt => k115 t (by
          show Steps p.tables e below (T112.setTop (mkF m 25 #[.val (.int p0), .val (.int p1), .val (.ref wUNKNOWN), .val (.ref wTRUE), .val (.int (1 : Int32)), .unset] [(.ref wTRUE), (.ref wUNKNOWN)])) _
          refine st114.trans ?_
          show Steps p.tables e below (T114.setTop (mkF m 28 #[.val (.int p0), .val (.int p1), .val (.ref wUNKNOWN), .val (.ref wTRUE), .val (.int (1 : Int32)), .unset] [(.ref wUNKNOWN)])) _
          refine XS.astore X114.here hx rfl (hb hby at_28) rfl rfl (l' := #[.val (.int p0), .val (.int p1), .val (.ref wUNKNOWN), .val (.ref wTRUE), .val (.int (1 : Int32)), .val (.ref wUNKNOWN)]) rfl ?_
          show Steps p.tables e below (T114.setTop (mkF m 30 #[.val (.int p0), .val (.int p1), .val (.ref wUNKNOWN), .val (.ref wTRUE), .val (.int (1 : Int32)), .val (.ref wUNKNOWN)] [])) _
          refine XS.aload X114.here hx rfl (hb hby at_30) rfl rfl ?_
          show Steps p.tables e below (T114.setTop (mkF m 32 #[.val (.int p0), .val (.int p1), .val (.ref wUNKNOWN), .val (.ref wTRUE), .val (.int (1 : Int32)), .val (.ref wUNKNOWN)] [(.ref wUNKNOWN)])) _
          refine XS.ifnonnullYes X114.here hx rfl (pc0 := 32) (pc' := 37) rfl (hb hby at_32) rfl (by decide) (by decide) ?_
          show Steps p.tables e below (T114.setTop (mkF m 37 #[.val (.int p0), .val (.int p1), .val (.ref wUNKNOWN), .val (.ref wTRUE), .val (.int (1 : Int32)), .val (.ref wUNKNOWN)] [])) _
          refine XS.aload X114.here hx rfl (hb hby at_37) rfl rfl ?_
          exact kt)
        rw [((by rw [f2, if_neg ((Fld.ne FUNKNOWN_ordinal FFALSE_ordinal (by decide)) : ¬ (wUNKNOWN = wFALSE)), if_pos (rfl : wUNKNOWN = wUNKNOWN)]) : (f2 wUNKNOWN wTRUE wFALSE wUNKNOWN) = (1 : Int32))] at hQ116
        obtain ⟨rfl, N116q, e116⟩ := hQ116
        have N116 := Fr.app N114 N116q
        obtain ⟨fs, hr, hrun, hended, hW, hsame⟩ := X116.leave (v := some (.int (1 : Int32))) (fun h => by rw [Bd.returns] at h; cases h)
        refine ⟨_, _, k117 _ ?_, hrun, hended, _, _, rfl, ?_, ⟨_, rfl⟩, hW, hsame.mono (by decide) (by decide)⟩
        · show Steps p.tables e below (T114.setTop (mkF m 39 #[.val (.int p0), .val (.int p1), .val (.ref wUNKNOWN), .val (.ref wTRUE), .val (.int (1 : Int32)), .val (.ref wUNKNOWN)] [(.ref wUNKNOWN)])) _
          refine st116 _ ?_
          show Steps p.tables e below (T116.setTop (mkF m 42 #[.val (.int p0), .val (.int p1), .val (.ref wUNKNOWN), .val (.ref wTRUE), .val (.int (1 : Int32)), .val (.ref wUNKNOWN)] [(.int (1 : Int32))])) _
          refine XS.iload X116.here hx rfl (hb hby at_42) rfl ?_
          show Steps p.tables e below (T116.setTop (mkF m 44 #[.val (.int p0), .val (.int p1), .val (.ref wUNKNOWN), .val (.ref wTRUE), .val (.int (1 : Int32)), .val (.ref wUNKNOWN)] [(.int (1 : Int32)), (.int (1 : Int32))])) _
          refine XS.icmpNo X116.here hx rfl (hb hby at_44) rfl (teq (rfl : (1 : Int32) = (1 : Int32))).2 ?_
          show Steps p.tables e below (T116.setTop (mkF m 47 #[.val (.int p0), .val (.int p1), .val (.ref wUNKNOWN), .val (.ref wTRUE), .val (.int (1 : Int32)), .val (.ref wUNKNOWN)] [])) _
          refine XS.iconst X116.here hx rfl (hb hby at_47) ?_
          show Steps p.tables e below (T116.setTop (mkF m 48 #[.val (.int p0), .val (.int p1), .val (.ref wUNKNOWN), .val (.ref wTRUE), .val (.int (1 : Int32)), .val (.ref wUNKNOWN)] [(.int (1 : Int32))])) _
          refine XS.goto X116.here hx rfl (pc0 := 48) (pc' := 52) rfl (hb hby at_48) (by decide) (by decide) ?_
          show Steps p.tables e below (T116.setTop (mkF m 52 #[.val (.int p0), .val (.int p1), .val (.ref wUNKNOWN), .val (.ref wTRUE), .val (.int (1 : Int32)), .val (.ref wUNKNOWN)] [(.int (1 : Int32))])) _
          exact retN X116 hx (t := .boolean) Bd.returns (by simp) (hb hby at_52) hr
        · show Q0 Z p0 p1 wTRUE wFALSE wUNKNOWN h0 n0 _ T116.heap _
          rw [e116]
          exact ⟨rfl, N116⟩
      · by_cases hc118 : ((p1 &&& (2147483647 : Int32)) % (3 : Int32)) = (1 : Int32)
        · rw [((by rw [f1, if_neg (hc107 : ¬ (((p1 &&& (2147483647 : Int32)) % (3 : Int32)) = (0 : Int32))), if_pos (hc118 : ((p1 &&& (2147483647 : Int32)) % (3 : Int32)) = (1 : Int32))]) : (f1 p1 wTRUE wFALSE wUNKNOWN) = wFALSE)] at hQ105
          obtain ⟨rfl, N105q, e105⟩ := hQ105
          have N105 := Fr.app N33 N105q
          obtain ⟨_, _, ⟨T119, L119, k119, n119⟩, -, X119, ⟨Lc119, hQ119, l119, y119, z119⟩, st119⟩ := Jvm.LawKit.callS X105 hx (y := (⟨"com/example/turtlehead/turtlehead/TruthAndPinLaw", "rank", "(Lcom/example/turtlehead/turtlehead/Truth;)I"⟩ : MethodName)) hown (mvT hZ (hw _ (List.mem_of_getElem? (i := 8) rfl))) (mvT hZ (hw _ (List.mem_of_getElem? (i := 9) rfl))) (mvT hZ (hw _ (List.mem_of_getElem? (i := 2) rfl))) (mvT hZ (hw _ (List.mem_of_getElem? (i := 10) rfl))) (by decide) (backOf (W := 0) (rm2 l Z a0 hw [] wUNKNOWN wTRUE wFALSE wUNKNOWN h0 n0 Z0 W0 ) hZ (hw _ (List.mem_of_getElem? (i := 10) rfl)) (hw _ (List.mem_of_getElem? (i := 2) rfl)) (by decide) (by decide)) (g := (mkF m 11 #[.val (.int p0), .val (.int p1), .val (.ref wUNKNOWN), .val (.ref wFALSE), .unset, .unset] [(.ref wUNKNOWN)])) rfl (by rw [hml]; rfl) (argsL := [(.ref wUNKNOWN)]) (rest := []) (lenOf pd_1 rfl) rfl (by show 2 * 0 + _ ≤ _; exact Nat.le_of_eq rfl) (hb hby at_11) (fun _ _ => ⟨rfl, e105, (by decide : 0 + 0 ≤ _), (by decide : 0 + 0 ≤ _)⟩)
          dsimp only [Pt.U, Pt.locs, Pt.cells, Pt.slots] at X119 l119 y119 z119 st119 hQ119
          subst l119 y119 z119
          unfold Q2 at hQ119
          have k120 : ∀ t, Steps p.tables e below (T105.setTop (mkF m 11 #[.val (.int p0), .val (.int p1), .val (.ref wUNKNOWN), .val (.ref wFALSE), .unset, .unset] [(.ref wUNKNOWN)])) t → Steps p.tables e below (s₁.setTop (entryFrame m #[(.int p0), (.int p1)] maxLocals)) t := fun t kt => k106 t (by
            show Steps p.tables e below (T33.setTop (mkF m 6 #[.val (.int p0), .val (.int p1), .val (.ref wUNKNOWN), .unset, .unset, .unset] [(.int p1)])) _
            refine st105 _ ?_
            show Steps p.tables e below (T105.setTop (mkF m 9 #[.val (.int p0), .val (.int p1), .val (.ref wUNKNOWN), .unset, .unset, .unset] [(.ref wFALSE)])) _
            refine XS.astoreN X105.here hx rfl (hb hby at_9) rfl rfl (l' := #[.val (.int p0), .val (.int p1), .val (.ref wUNKNOWN), .val (.ref wFALSE), .unset, .unset]) rfl ?_
            show Steps p.tables e below (T105.setTop (mkF m 10 #[.val (.int p0), .val (.int p1), .val (.ref wUNKNOWN), .val (.ref wFALSE), .unset, .unset] [])) _
            refine XS.aloadN X105.here hx rfl (hb hby at_10) rfl rfl ?_
            exact kt)
          rw [((by rw [f2, if_neg ((Fld.ne FUNKNOWN_ordinal FFALSE_ordinal (by decide)) : ¬ (wUNKNOWN = wFALSE)), if_pos (rfl : wUNKNOWN = wUNKNOWN)]) : (f2 wUNKNOWN wTRUE wFALSE wUNKNOWN) = (1 : Int32))] at hQ119
          obtain ⟨rfl, N119q, e119⟩ := hQ119
          have N119 := Fr.app N105 N119q
          obtain ⟨_, _, ⟨T121, L121, k121, n121⟩, -, X121, ⟨Lc121, hQ121, l121, y121, z121⟩, st121⟩ := Jvm.LawKit.callS X119 hx (y := (⟨"com/example/turtlehead/turtlehead/TruthAndPinLaw", "rank", "(Lcom/example/turtlehead/turtlehead/Truth;)I"⟩ : MethodName)) hown (mvT hZ (hw _ (List.mem_of_getElem? (i := 8) rfl))) (mvT hZ (hw _ (List.mem_of_getElem? (i := 9) rfl))) (mvT hZ (hw _ (List.mem_of_getElem? (i := 2) rfl))) (mvT hZ (hw _ (List.mem_of_getElem? (i := 10) rfl))) (by decide) (backOf (W := 1) (rm2 l Z a0 hw [] wFALSE wTRUE wFALSE wUNKNOWN h0 n0 Z0 W0 ) hZ (hw _ (List.mem_of_getElem? (i := 10) rfl)) (hw _ (List.mem_of_getElem? (i := 2) rfl)) (by decide) (by decide)) (g := (mkF m 15 #[.val (.int p0), .val (.int p1), .val (.ref wUNKNOWN), .val (.ref wFALSE), .unset, .unset] [(.ref wFALSE), (.int (1 : Int32))])) rfl (by rw [hml]; rfl) (argsL := [(.ref wFALSE)]) (rest := [(.int (1 : Int32))]) (lenOf pd_1 rfl) rfl (by show 2 * 0 + _ ≤ _; exact Nat.le_of_eq rfl) (hb hby at_15) (fun _ _ => ⟨rfl, e119, (by decide : 0 + 0 ≤ _), (by decide : 0 + 0 ≤ _)⟩)
          dsimp only [Pt.U, Pt.locs, Pt.cells, Pt.slots] at X121 l121 y121 z121 st121 hQ121
          subst l121 y121 z121
          unfold Q2 at hQ121
          have k122 : ∀ t, Steps p.tables e below (T119.setTop (mkF m 15 #[.val (.int p0), .val (.int p1), .val (.ref wUNKNOWN), .val (.ref wFALSE), .unset, .unset] [(.ref wFALSE), (.int (1 : Int32))])) t → Steps p.tables e below (s₁.setTop (entryFrame m #[(.int p0), (.int p1)] maxLocals)) t := fun t kt => k120 t (by
            show Steps p.tables e below (T105.setTop (mkF m 11 #[.val (.int p0), .val (.int p1), .val (.ref wUNKNOWN), .val (.ref wFALSE), .unset, .unset] [(.ref wUNKNOWN)])) _
            refine st119 _ ?_
            show Steps p.tables e below (T119.setTop (mkF m 14 #[.val (.int p0), .val (.int p1), .val (.ref wUNKNOWN), .val (.ref wFALSE), .unset, .unset] [(.int (1 : Int32))])) _
            refine XS.aloadN X119.here hx rfl (hb hby at_14) rfl rfl ?_
            exact kt)
          rw [((by rw [f2, if_pos (rfl : wFALSE = wFALSE)]) : (f2 wFALSE wTRUE wFALSE wUNKNOWN) = (0 : Int32))] at hQ121
          obtain ⟨rfl, N121q, e121⟩ := hQ121
          have N121 := Fr.app N119 N121q
          obtain ⟨_, _, ⟨T123, L123, k123, n123⟩, -, X123, ⟨Lc123, hQ123, l123, y123, z123⟩, st123⟩ := Jvm.LawKit.callS X121 hx (y := (⟨"java/lang/Math", "min", "(II)I"⟩ : MethodName)) hown (mvT hZ (hw _ (List.mem_of_getElem? (i := 15) rfl))) (mvT hZ (hw _ (List.mem_of_getElem? (i := 16) rfl))) (mvT hZ (hw _ (List.mem_of_getElem? (i := 17) rfl))) (mvT hZ (hw _ (List.mem_of_getElem? (i := 18) rfl))) (by decide) (backOf (W := 0) (rm3 l Z a0 hw [] (1 : Int32) (0 : Int32) h0 n0 Z0 ) hZ (hw _ (List.mem_of_getElem? (i := 18) rfl)) (hw _ (List.mem_of_getElem? (i := 17) rfl)) (by decide) (by decide)) (g := (mkF m 18 #[.val (.int p0), .val (.int p1), .val (.ref wUNKNOWN), .val (.ref wFALSE), .unset, .unset] [(.int (0 : Int32)), (.int (1 : Int32))])) rfl (by rw [hml]; rfl) (argsL := [(.int (1 : Int32)), (.int (0 : Int32))]) (rest := []) (lenOf pd_2 rfl) rfl (by show 2 * 0 + _ ≤ _; exact Nat.le_of_eq rfl) (hb hby at_18) (fun _ _ => ⟨rfl, e121, (by decide : 0 + 0 ≤ _), (by decide : 0 + 0 ≤ _)⟩)
          dsimp only [Pt.U, Pt.locs, Pt.cells, Pt.slots] at X123 l123 y123 z123 st123 hQ123
          subst l123 y123 z123
          unfold Q3 at hQ123
          have k124 : ∀ t, Steps p.tables e below (T121.setTop (mkF m 18 #[.val (.int p0), .val (.int p1), .val (.ref wUNKNOWN), .val (.ref wFALSE), .unset, .unset] [(.int (0 : Int32)), (.int (1 : Int32))])) t → Steps p.tables e below (s₁.setTop (entryFrame m #[(.int p0), (.int p1)] maxLocals)) t := fun t kt => k122 t (by
            show Steps p.tables e below (T119.setTop (mkF m 15 #[.val (.int p0), .val (.int p1), .val (.ref wUNKNOWN), .val (.ref wFALSE), .unset, .unset] [(.ref wFALSE), (.int (1 : Int32))])) _
            refine st121 _ ?_
            exact kt)
          rw [((by rw [f3, if_pos ((by decide) : (0 : Int32) < (1 : Int32))]) : (f3 (1 : Int32) (0 : Int32)) = (0 : Int32))] at hQ123
          obtain ⟨rfl, N123q, e123⟩ := hQ123
          have N123 := Fr.app N121 N123q
          obtain ⟨cq125, kq125, q125a, q125b, q125c⟩ := isOf hZ e123 EUNKNOWN
          obtain ⟨_, _, ⟨T125, L125, k125, n125⟩, -, X125, ⟨Lc125, hQ125, l125, y125, z125⟩, st125⟩ := X123.virtualBack hx (y := (⟨"com/example/turtlehead/turtlehead/Truth", "and", "(Lcom/example/turtlehead/turtlehead/Truth;)Lcom/example/turtlehead/turtlehead/Truth;"⟩ : MethodName)) (z := (⟨"com/example/turtlehead/turtlehead/Truth", "and", "(Lcom/example/turtlehead/turtlehead/Truth;)Lcom/example/turtlehead/turtlehead/Truth;"⟩ : MethodName)) hown (mvT hZ (hw _ (List.mem_of_getElem? (i := 19) rfl))) (mvT hZ (hw _ (List.mem_of_getElem? (i := 20) rfl))) (notFace_of_selects (args := #[]) (mvT hZ (hw _ (List.mem_of_getElem? (i := 22) rfl)))) (mvT hZ (hw _ (List.mem_of_getElem? (i := 22) rfl))) (mvT hZ (hw _ (List.mem_of_getElem? (i := 21) rfl))) (by decide) (backOf (W := 0) (rm4 l Z a0 hw [] wUNKNOWN wFALSE wTRUE wFALSE wUNKNOWN h0 n0 Z0 W0 ) hZ (hw _ (List.mem_of_getElem? (i := 23) rfl)) (hw _ (List.mem_of_getElem? (i := 6) rfl)) (by decide) (by decide)) q125a q125c (g := (mkF m 25 #[.val (.int p0), .val (.int p1), .val (.ref wUNKNOWN), .val (.ref wFALSE), .val (.int (0 : Int32)), .unset] [(.ref wFALSE), (.ref wUNKNOWN)])) rfl (by rw [hml]; rfl) (Steps.refl _) (argsL := [(.ref wFALSE)]) (rest := []) (lenOf pd_3 rfl) rfl (by show 2 * 0 + _ ≤ _; exact Nat.le_of_eq rfl) (hb hby at_25) (fun _ _ => ⟨rfl, e123, (by decide : 0 + 0 ≤ _), (by decide : 0 + 0 ≤ _)⟩)
          dsimp only [Pt.U, Pt.locs, Pt.cells, Pt.slots] at X125 l125 y125 z125 st125 hQ125
          subst l125 y125 z125
          unfold Q4 at hQ125
          have k126 : ∀ t, Steps p.tables e below (T123.setTop (mkF m 25 #[.val (.int p0), .val (.int p1), .val (.ref wUNKNOWN), .val (.ref wFALSE), .val (.int (0 : Int32)), .unset] [(.ref wFALSE), (.ref wUNKNOWN)])) t → Steps p.tables e below (s₁.setTop (entryFrame m #[(.int p0), (.int p1)] maxLocals)) t := fun t kt => k124 t (by
            show Steps p.tables e below (T121.setTop (mkF m 18 #[.val (.int p0), .val (.int p1), .val (.ref wUNKNOWN), .val (.ref wFALSE), .unset, .unset] [(.int (0 : Int32)), (.int (1 : Int32))])) _
            refine st123 _ ?_
            show Steps p.tables e below (T123.setTop (mkF m 21 #[.val (.int p0), .val (.int p1), .val (.ref wUNKNOWN), .val (.ref wFALSE), .unset, .unset] [(.int (0 : Int32))])) _
            refine XS.istore X123.here hx rfl (hb hby at_21) rfl (l' := #[.val (.int p0), .val (.int p1), .val (.ref wUNKNOWN), .val (.ref wFALSE), .val (.int (0 : Int32)), .unset]) rfl ?_
            show Steps p.tables e below (T123.setTop (mkF m 23 #[.val (.int p0), .val (.int p1), .val (.ref wUNKNOWN), .val (.ref wFALSE), .val (.int (0 : Int32)), .unset] [])) _
            refine XS.aloadN X123.here hx rfl (hb hby at_23) rfl rfl ?_
            show Steps p.tables e below (T123.setTop (mkF m 24 #[.val (.int p0), .val (.int p1), .val (.ref wUNKNOWN), .val (.ref wFALSE), .val (.int (0 : Int32)), .unset] [(.ref wUNKNOWN)])) _
            refine XS.aloadN X123.here hx rfl (hb hby at_24) rfl rfl ?_
            exact kt)
          rw [((by rw [f4, if_neg ((Fld.ne FUNKNOWN_ordinal FFALSE_ordinal (by decide)) : ¬ (wUNKNOWN = wFALSE)), if_pos (rfl : wFALSE = wFALSE)]) : (f4 wUNKNOWN wFALSE wTRUE wFALSE wUNKNOWN) = wFALSE)] at hQ125
          obtain ⟨rfl, N125q, e125⟩ := hQ125
          have N125 := Fr.app N123 N125q
          obtain ⟨_, _, ⟨T127, L127, k127, n127⟩, -, X127, ⟨Lc127, hQ127, l127, y127, z127⟩, st127⟩ := Jvm.LawKit.callS X125 hx (y := (⟨"com/example/turtlehead/turtlehead/TruthAndPinLaw", "rank", "(Lcom/example/turtlehead/turtlehead/Truth;)I"⟩ : MethodName)) hown (mvT hZ (hw _ (List.mem_of_getElem? (i := 8) rfl))) (mvT hZ (hw _ (List.mem_of_getElem? (i := 9) rfl))) (mvT hZ (hw _ (List.mem_of_getElem? (i := 2) rfl))) (mvT hZ (hw _ (List.mem_of_getElem? (i := 10) rfl))) (by decide) (backOf (W := 0) (rm2 l Z a0 hw [] wFALSE wTRUE wFALSE wUNKNOWN h0 n0 Z0 W0 ) hZ (hw _ (List.mem_of_getElem? (i := 10) rfl)) (hw _ (List.mem_of_getElem? (i := 2) rfl)) (by decide) (by decide)) (g := (mkF m 39 #[.val (.int p0), .val (.int p1), .val (.ref wUNKNOWN), .val (.ref wFALSE), .val (.int (0 : Int32)), .val (.ref wFALSE)] [(.ref wFALSE)])) rfl (by rw [hml]; rfl) (argsL := [(.ref wFALSE)]) (rest := []) (lenOf pd_1 rfl) rfl (by show 2 * 0 + _ ≤ _; exact Nat.le_of_eq rfl) (hb hby at_39) (fun _ _ => ⟨rfl, e125, (by decide : 0 + 0 ≤ _), (by decide : 0 + 0 ≤ _)⟩)
          dsimp only [Pt.U, Pt.locs, Pt.cells, Pt.slots] at X127 l127 y127 z127 st127 hQ127
          subst l127 y127 z127
          unfold Q2 at hQ127
          have k128 : ∀ t, Steps p.tables e below (T125.setTop (mkF m 39 #[.val (.int p0), .val (.int p1), .val (.ref wUNKNOWN), .val (.ref wFALSE), .val (.int (0 : Int32)), .val (.ref wFALSE)] [(.ref wFALSE)])) t → Steps p.tables e below (s₁.setTop (entryFrame m #[(.int p0), (.int p1)] maxLocals)) t := fun t kt => k126 t (by
            show Steps p.tables e below (T123.setTop (mkF m 25 #[.val (.int p0), .val (.int p1), .val (.ref wUNKNOWN), .val (.ref wFALSE), .val (.int (0 : Int32)), .unset] [(.ref wFALSE), (.ref wUNKNOWN)])) _
            refine st125.trans ?_
            show Steps p.tables e below (T125.setTop (mkF m 28 #[.val (.int p0), .val (.int p1), .val (.ref wUNKNOWN), .val (.ref wFALSE), .val (.int (0 : Int32)), .unset] [(.ref wFALSE)])) _
            refine XS.astore X125.here hx rfl (hb hby at_28) rfl rfl (l' := #[.val (.int p0), .val (.int p1), .val (.ref wUNKNOWN), .val (.ref wFALSE), .val (.int (0 : Int32)), .val (.ref wFALSE)]) rfl ?_
            show Steps p.tables e below (T125.setTop (mkF m 30 #[.val (.int p0), .val (.int p1), .val (.ref wUNKNOWN), .val (.ref wFALSE), .val (.int (0 : Int32)), .val (.ref wFALSE)] [])) _
            refine XS.aload X125.here hx rfl (hb hby at_30) rfl rfl ?_
            show Steps p.tables e below (T125.setTop (mkF m 32 #[.val (.int p0), .val (.int p1), .val (.ref wUNKNOWN), .val (.ref wFALSE), .val (.int (0 : Int32)), .val (.ref wFALSE)] [(.ref wFALSE)])) _
            refine XS.ifnonnullYes X125.here hx rfl (pc0 := 32) (pc' := 37) rfl (hb hby at_32) rfl (by decide) (by decide) ?_
            show Steps p.tables e below (T125.setTop (mkF m 37 #[.val (.int p0), .val (.int p1), .val (.ref wUNKNOWN), .val (.ref wFALSE), .val (.int (0 : Int32)), .val (.ref wFALSE)] [])) _
            refine XS.aload X125.here hx rfl (hb hby at_37) rfl rfl ?_
            exact kt)
          rw [((by rw [f2, if_pos (rfl : wFALSE = wFALSE)]) : (f2 wFALSE wTRUE wFALSE wUNKNOWN) = (0 : Int32))] at hQ127
          obtain ⟨rfl, N127q, e127⟩ := hQ127
          have N127 := Fr.app N125 N127q
          obtain ⟨fs, hr, hrun, hended, hW, hsame⟩ := X127.leave (v := some (.int (1 : Int32))) (fun h => by rw [Bd.returns] at h; cases h)
          refine ⟨_, _, k128 _ ?_, hrun, hended, _, _, rfl, ?_, ⟨_, rfl⟩, hW, hsame.mono (by decide) (by decide)⟩
          · show Steps p.tables e below (T125.setTop (mkF m 39 #[.val (.int p0), .val (.int p1), .val (.ref wUNKNOWN), .val (.ref wFALSE), .val (.int (0 : Int32)), .val (.ref wFALSE)] [(.ref wFALSE)])) _
            refine st127 _ ?_
            show Steps p.tables e below (T127.setTop (mkF m 42 #[.val (.int p0), .val (.int p1), .val (.ref wUNKNOWN), .val (.ref wFALSE), .val (.int (0 : Int32)), .val (.ref wFALSE)] [(.int (0 : Int32))])) _
            refine XS.iload X127.here hx rfl (hb hby at_42) rfl ?_
            show Steps p.tables e below (T127.setTop (mkF m 44 #[.val (.int p0), .val (.int p1), .val (.ref wUNKNOWN), .val (.ref wFALSE), .val (.int (0 : Int32)), .val (.ref wFALSE)] [(.int (0 : Int32)), (.int (0 : Int32))])) _
            refine XS.icmpNo X127.here hx rfl (hb hby at_44) rfl (teq (rfl : (0 : Int32) = (0 : Int32))).2 ?_
            show Steps p.tables e below (T127.setTop (mkF m 47 #[.val (.int p0), .val (.int p1), .val (.ref wUNKNOWN), .val (.ref wFALSE), .val (.int (0 : Int32)), .val (.ref wFALSE)] [])) _
            refine XS.iconst X127.here hx rfl (hb hby at_47) ?_
            show Steps p.tables e below (T127.setTop (mkF m 48 #[.val (.int p0), .val (.int p1), .val (.ref wUNKNOWN), .val (.ref wFALSE), .val (.int (0 : Int32)), .val (.ref wFALSE)] [(.int (1 : Int32))])) _
            refine XS.goto X127.here hx rfl (pc0 := 48) (pc' := 52) rfl (hb hby at_48) (by decide) (by decide) ?_
            show Steps p.tables e below (T127.setTop (mkF m 52 #[.val (.int p0), .val (.int p1), .val (.ref wUNKNOWN), .val (.ref wFALSE), .val (.int (0 : Int32)), .val (.ref wFALSE)] [(.int (1 : Int32))])) _
            exact retN X127 hx (t := .boolean) Bd.returns (by simp) (hb hby at_52) hr
          · show Q0 Z p0 p1 wTRUE wFALSE wUNKNOWN h0 n0 _ T127.heap _
            rw [e127]
            exact ⟨rfl, N127⟩
        · rw [((by rw [f1, if_neg (hc107 : ¬ (((p1 &&& (2147483647 : Int32)) % (3 : Int32)) = (0 : Int32))), if_neg (hc118 : ¬ (((p1 &&& (2147483647 : Int32)) % (3 : Int32)) = (1 : Int32)))]) : (f1 p1 wTRUE wFALSE wUNKNOWN) = wUNKNOWN)] at hQ105
          obtain ⟨rfl, N105q, e105⟩ := hQ105
          have N105 := Fr.app N33 N105q
          obtain ⟨_, _, ⟨T129, L129, k129, n129⟩, -, X129, ⟨Lc129, hQ129, l129, y129, z129⟩, st129⟩ := Jvm.LawKit.callS X105 hx (y := (⟨"com/example/turtlehead/turtlehead/TruthAndPinLaw", "rank", "(Lcom/example/turtlehead/turtlehead/Truth;)I"⟩ : MethodName)) hown (mvT hZ (hw _ (List.mem_of_getElem? (i := 8) rfl))) (mvT hZ (hw _ (List.mem_of_getElem? (i := 9) rfl))) (mvT hZ (hw _ (List.mem_of_getElem? (i := 2) rfl))) (mvT hZ (hw _ (List.mem_of_getElem? (i := 10) rfl))) (by decide) (backOf (W := 0) (rm2 l Z a0 hw [] wUNKNOWN wTRUE wFALSE wUNKNOWN h0 n0 Z0 W0 ) hZ (hw _ (List.mem_of_getElem? (i := 10) rfl)) (hw _ (List.mem_of_getElem? (i := 2) rfl)) (by decide) (by decide)) (g := (mkF m 11 #[.val (.int p0), .val (.int p1), .val (.ref wUNKNOWN), .val (.ref wUNKNOWN), .unset, .unset] [(.ref wUNKNOWN)])) rfl (by rw [hml]; rfl) (argsL := [(.ref wUNKNOWN)]) (rest := []) (lenOf pd_1 rfl) rfl (by show 2 * 0 + _ ≤ _; exact Nat.le_of_eq rfl) (hb hby at_11) (fun _ _ => ⟨rfl, e105, (by decide : 0 + 0 ≤ _), (by decide : 0 + 0 ≤ _)⟩)
          dsimp only [Pt.U, Pt.locs, Pt.cells, Pt.slots] at X129 l129 y129 z129 st129 hQ129
          subst l129 y129 z129
          unfold Q2 at hQ129
          have k130 : ∀ t, Steps p.tables e below (T105.setTop (mkF m 11 #[.val (.int p0), .val (.int p1), .val (.ref wUNKNOWN), .val (.ref wUNKNOWN), .unset, .unset] [(.ref wUNKNOWN)])) t → Steps p.tables e below (s₁.setTop (entryFrame m #[(.int p0), (.int p1)] maxLocals)) t := fun t kt => k106 t (by
            show Steps p.tables e below (T33.setTop (mkF m 6 #[.val (.int p0), .val (.int p1), .val (.ref wUNKNOWN), .unset, .unset, .unset] [(.int p1)])) _
            refine st105 _ ?_
            show Steps p.tables e below (T105.setTop (mkF m 9 #[.val (.int p0), .val (.int p1), .val (.ref wUNKNOWN), .unset, .unset, .unset] [(.ref wUNKNOWN)])) _
            refine XS.astoreN X105.here hx rfl (hb hby at_9) rfl rfl (l' := #[.val (.int p0), .val (.int p1), .val (.ref wUNKNOWN), .val (.ref wUNKNOWN), .unset, .unset]) rfl ?_
            show Steps p.tables e below (T105.setTop (mkF m 10 #[.val (.int p0), .val (.int p1), .val (.ref wUNKNOWN), .val (.ref wUNKNOWN), .unset, .unset] [])) _
            refine XS.aloadN X105.here hx rfl (hb hby at_10) rfl rfl ?_
            exact kt)
          rw [((by rw [f2, if_neg ((Fld.ne FUNKNOWN_ordinal FFALSE_ordinal (by decide)) : ¬ (wUNKNOWN = wFALSE)), if_pos (rfl : wUNKNOWN = wUNKNOWN)]) : (f2 wUNKNOWN wTRUE wFALSE wUNKNOWN) = (1 : Int32))] at hQ129
          obtain ⟨rfl, N129q, e129⟩ := hQ129
          have N129 := Fr.app N105 N129q
          obtain ⟨_, _, ⟨T131, L131, k131, n131⟩, -, X131, ⟨Lc131, hQ131, l131, y131, z131⟩, st131⟩ := Jvm.LawKit.callS X129 hx (y := (⟨"com/example/turtlehead/turtlehead/TruthAndPinLaw", "rank", "(Lcom/example/turtlehead/turtlehead/Truth;)I"⟩ : MethodName)) hown (mvT hZ (hw _ (List.mem_of_getElem? (i := 8) rfl))) (mvT hZ (hw _ (List.mem_of_getElem? (i := 9) rfl))) (mvT hZ (hw _ (List.mem_of_getElem? (i := 2) rfl))) (mvT hZ (hw _ (List.mem_of_getElem? (i := 10) rfl))) (by decide) (backOf (W := 1) (rm2 l Z a0 hw [] wUNKNOWN wTRUE wFALSE wUNKNOWN h0 n0 Z0 W0 ) hZ (hw _ (List.mem_of_getElem? (i := 10) rfl)) (hw _ (List.mem_of_getElem? (i := 2) rfl)) (by decide) (by decide)) (g := (mkF m 15 #[.val (.int p0), .val (.int p1), .val (.ref wUNKNOWN), .val (.ref wUNKNOWN), .unset, .unset] [(.ref wUNKNOWN), (.int (1 : Int32))])) rfl (by rw [hml]; rfl) (argsL := [(.ref wUNKNOWN)]) (rest := [(.int (1 : Int32))]) (lenOf pd_1 rfl) rfl (by show 2 * 0 + _ ≤ _; exact Nat.le_of_eq rfl) (hb hby at_15) (fun _ _ => ⟨rfl, e129, (by decide : 0 + 0 ≤ _), (by decide : 0 + 0 ≤ _)⟩)
          dsimp only [Pt.U, Pt.locs, Pt.cells, Pt.slots] at X131 l131 y131 z131 st131 hQ131
          subst l131 y131 z131
          unfold Q2 at hQ131
          have k132 : ∀ t, Steps p.tables e below (T129.setTop (mkF m 15 #[.val (.int p0), .val (.int p1), .val (.ref wUNKNOWN), .val (.ref wUNKNOWN), .unset, .unset] [(.ref wUNKNOWN), (.int (1 : Int32))])) t → Steps p.tables e below (s₁.setTop (entryFrame m #[(.int p0), (.int p1)] maxLocals)) t := fun t kt => k130 t (by
            show Steps p.tables e below (T105.setTop (mkF m 11 #[.val (.int p0), .val (.int p1), .val (.ref wUNKNOWN), .val (.ref wUNKNOWN), .unset, .unset] [(.ref wUNKNOWN)])) _
            refine st129 _ ?_
            show Steps p.tables e below (T129.setTop (mkF m 14 #[.val (.int p0), .val (.int p1), .val (.ref wUNKNOWN), .val (.ref wUNKNOWN), .unset, .unset] [(.int (1 : Int32))])) _
            refine XS.aloadN X129.here hx rfl (hb hby at_14) rfl rfl ?_
            exact kt)
          rw [((by rw [f2, if_neg ((Fld.ne FUNKNOWN_ordinal FFALSE_ordinal (by decide)) : ¬ (wUNKNOWN = wFALSE)), if_pos (rfl : wUNKNOWN = wUNKNOWN)]) : (f2 wUNKNOWN wTRUE wFALSE wUNKNOWN) = (1 : Int32))] at hQ131
          obtain ⟨rfl, N131q, e131⟩ := hQ131
          have N131 := Fr.app N129 N131q
          obtain ⟨_, _, ⟨T133, L133, k133, n133⟩, -, X133, ⟨Lc133, hQ133, l133, y133, z133⟩, st133⟩ := Jvm.LawKit.callS X131 hx (y := (⟨"java/lang/Math", "min", "(II)I"⟩ : MethodName)) hown (mvT hZ (hw _ (List.mem_of_getElem? (i := 15) rfl))) (mvT hZ (hw _ (List.mem_of_getElem? (i := 16) rfl))) (mvT hZ (hw _ (List.mem_of_getElem? (i := 17) rfl))) (mvT hZ (hw _ (List.mem_of_getElem? (i := 18) rfl))) (by decide) (backOf (W := 0) (rm3 l Z a0 hw [] (1 : Int32) (1 : Int32) h0 n0 Z0 ) hZ (hw _ (List.mem_of_getElem? (i := 18) rfl)) (hw _ (List.mem_of_getElem? (i := 17) rfl)) (by decide) (by decide)) (g := (mkF m 18 #[.val (.int p0), .val (.int p1), .val (.ref wUNKNOWN), .val (.ref wUNKNOWN), .unset, .unset] [(.int (1 : Int32)), (.int (1 : Int32))])) rfl (by rw [hml]; rfl) (argsL := [(.int (1 : Int32)), (.int (1 : Int32))]) (rest := []) (lenOf pd_2 rfl) rfl (by show 2 * 0 + _ ≤ _; exact Nat.le_of_eq rfl) (hb hby at_18) (fun _ _ => ⟨rfl, e131, (by decide : 0 + 0 ≤ _), (by decide : 0 + 0 ≤ _)⟩)
          dsimp only [Pt.U, Pt.locs, Pt.cells, Pt.slots] at X133 l133 y133 z133 st133 hQ133
          subst l133 y133 z133
          unfold Q3 at hQ133
          have k134 : ∀ t, Steps p.tables e below (T131.setTop (mkF m 18 #[.val (.int p0), .val (.int p1), .val (.ref wUNKNOWN), .val (.ref wUNKNOWN), .unset, .unset] [(.int (1 : Int32)), (.int (1 : Int32))])) t → Steps p.tables e below (s₁.setTop (entryFrame m #[(.int p0), (.int p1)] maxLocals)) t := fun t kt => k132 t (by
            show Steps p.tables e below (T129.setTop (mkF m 15 #[.val (.int p0), .val (.int p1), .val (.ref wUNKNOWN), .val (.ref wUNKNOWN), .unset, .unset] [(.ref wUNKNOWN), (.int (1 : Int32))])) _
            refine st131 _ ?_
            exact kt)
          rw [((by rw [f3, if_neg ((by first | exact Int32.lt_irrefl _ | decide) : ¬ ((1 : Int32) < (1 : Int32)))]) : (f3 (1 : Int32) (1 : Int32)) = (1 : Int32))] at hQ133
          obtain ⟨rfl, N133q, e133⟩ := hQ133
          have N133 := Fr.app N131 N133q
          obtain ⟨cq135, kq135, q135a, q135b, q135c⟩ := isOf hZ e133 EUNKNOWN
          obtain ⟨_, _, ⟨T135, L135, k135, n135⟩, -, X135, ⟨Lc135, hQ135, l135, y135, z135⟩, st135⟩ := X133.virtualBack hx (y := (⟨"com/example/turtlehead/turtlehead/Truth", "and", "(Lcom/example/turtlehead/turtlehead/Truth;)Lcom/example/turtlehead/turtlehead/Truth;"⟩ : MethodName)) (z := (⟨"com/example/turtlehead/turtlehead/Truth", "and", "(Lcom/example/turtlehead/turtlehead/Truth;)Lcom/example/turtlehead/turtlehead/Truth;"⟩ : MethodName)) hown (mvT hZ (hw _ (List.mem_of_getElem? (i := 19) rfl))) (mvT hZ (hw _ (List.mem_of_getElem? (i := 20) rfl))) (notFace_of_selects (args := #[]) (mvT hZ (hw _ (List.mem_of_getElem? (i := 22) rfl)))) (mvT hZ (hw _ (List.mem_of_getElem? (i := 22) rfl))) (mvT hZ (hw _ (List.mem_of_getElem? (i := 21) rfl))) (by decide) (backOf (W := 0) (rm4 l Z a0 hw [] wUNKNOWN wUNKNOWN wTRUE wFALSE wUNKNOWN h0 n0 Z0 W0 ) hZ (hw _ (List.mem_of_getElem? (i := 23) rfl)) (hw _ (List.mem_of_getElem? (i := 6) rfl)) (by decide) (by decide)) q135a q135c (g := (mkF m 25 #[.val (.int p0), .val (.int p1), .val (.ref wUNKNOWN), .val (.ref wUNKNOWN), .val (.int (1 : Int32)), .unset] [(.ref wUNKNOWN), (.ref wUNKNOWN)])) rfl (by rw [hml]; rfl) (Steps.refl _) (argsL := [(.ref wUNKNOWN)]) (rest := []) (lenOf pd_3 rfl) rfl (by show 2 * 0 + _ ≤ _; exact Nat.le_of_eq rfl) (hb hby at_25) (fun _ _ => ⟨rfl, e133, (by decide : 0 + 0 ≤ _), (by decide : 0 + 0 ≤ _)⟩)
          dsimp only [Pt.U, Pt.locs, Pt.cells, Pt.slots] at X135 l135 y135 z135 st135 hQ135
          subst l135 y135 z135
          unfold Q4 at hQ135
          have k136 : ∀ t, Steps p.tables e below (T133.setTop (mkF m 25 #[.val (.int p0), .val (.int p1), .val (.ref wUNKNOWN), .val (.ref wUNKNOWN), .val (.int (1 : Int32)), .unset] [(.ref wUNKNOWN), (.ref wUNKNOWN)])) t → Steps p.tables e below (s₁.setTop (entryFrame m #[(.int p0), (.int p1)] maxLocals)) t := fun t kt => k134 t (by
            show Steps p.tables e below (T131.setTop (mkF m 18 #[.val (.int p0), .val (.int p1), .val (.ref wUNKNOWN), .val (.ref wUNKNOWN), .unset, .unset] [(.int (1 : Int32)), (.int (1 : Int32))])) _
            refine st133 _ ?_
            show Steps p.tables e below (T133.setTop (mkF m 21 #[.val (.int p0), .val (.int p1), .val (.ref wUNKNOWN), .val (.ref wUNKNOWN), .unset, .unset] [(.int (1 : Int32))])) _
            refine XS.istore X133.here hx rfl (hb hby at_21) rfl (l' := #[.val (.int p0), .val (.int p1), .val (.ref wUNKNOWN), .val (.ref wUNKNOWN), .val (.int (1 : Int32)), .unset]) rfl ?_
            show Steps p.tables e below (T133.setTop (mkF m 23 #[.val (.int p0), .val (.int p1), .val (.ref wUNKNOWN), .val (.ref wUNKNOWN), .val (.int (1 : Int32)), .unset] [])) _
            refine XS.aloadN X133.here hx rfl (hb hby at_23) rfl rfl ?_
            show Steps p.tables e below (T133.setTop (mkF m 24 #[.val (.int p0), .val (.int p1), .val (.ref wUNKNOWN), .val (.ref wUNKNOWN), .val (.int (1 : Int32)), .unset] [(.ref wUNKNOWN)])) _
            refine XS.aloadN X133.here hx rfl (hb hby at_24) rfl rfl ?_
            exact kt)
          rw [((by rw [f4, if_neg ((Fld.ne FUNKNOWN_ordinal FFALSE_ordinal (by decide)) : ¬ (wUNKNOWN = wFALSE)), if_neg ((Fld.ne FUNKNOWN_ordinal FFALSE_ordinal (by decide)) : ¬ (wUNKNOWN = wFALSE)), if_pos (rfl : wUNKNOWN = wUNKNOWN)]) : (f4 wUNKNOWN wUNKNOWN wTRUE wFALSE wUNKNOWN) = wUNKNOWN)] at hQ135
          obtain ⟨rfl, N135q, e135⟩ := hQ135
          have N135 := Fr.app N133 N135q
          obtain ⟨_, _, ⟨T137, L137, k137, n137⟩, -, X137, ⟨Lc137, hQ137, l137, y137, z137⟩, st137⟩ := Jvm.LawKit.callS X135 hx (y := (⟨"com/example/turtlehead/turtlehead/TruthAndPinLaw", "rank", "(Lcom/example/turtlehead/turtlehead/Truth;)I"⟩ : MethodName)) hown (mvT hZ (hw _ (List.mem_of_getElem? (i := 8) rfl))) (mvT hZ (hw _ (List.mem_of_getElem? (i := 9) rfl))) (mvT hZ (hw _ (List.mem_of_getElem? (i := 2) rfl))) (mvT hZ (hw _ (List.mem_of_getElem? (i := 10) rfl))) (by decide) (backOf (W := 0) (rm2 l Z a0 hw [] wUNKNOWN wTRUE wFALSE wUNKNOWN h0 n0 Z0 W0 ) hZ (hw _ (List.mem_of_getElem? (i := 10) rfl)) (hw _ (List.mem_of_getElem? (i := 2) rfl)) (by decide) (by decide)) (g := (mkF m 39 #[.val (.int p0), .val (.int p1), .val (.ref wUNKNOWN), .val (.ref wUNKNOWN), .val (.int (1 : Int32)), .val (.ref wUNKNOWN)] [(.ref wUNKNOWN)])) rfl (by rw [hml]; rfl) (argsL := [(.ref wUNKNOWN)]) (rest := []) (lenOf pd_1 rfl) rfl (by show 2 * 0 + _ ≤ _; exact Nat.le_of_eq rfl) (hb hby at_39) (fun _ _ => ⟨rfl, e135, (by decide : 0 + 0 ≤ _), (by decide : 0 + 0 ≤ _)⟩)
          dsimp only [Pt.U, Pt.locs, Pt.cells, Pt.slots] at X137 l137 y137 z137 st137 hQ137
          subst l137 y137 z137
          unfold Q2 at hQ137
          have k138 : ∀ t, Steps p.tables e below (T135.setTop (mkF m 39 #[.val (.int p0), .val (.int p1), .val (.ref wUNKNOWN), .val (.ref wUNKNOWN), .val (.int (1 : Int32)), .val (.ref wUNKNOWN)] [(.ref wUNKNOWN)])) t → Steps p.tables e below (s₁.setTop (entryFrame m #[(.int p0), (.int p1)] maxLocals)) t := fun t kt => k136 t (by
            show Steps p.tables e below (T133.setTop (mkF m 25 #[.val (.int p0), .val (.int p1), .val (.ref wUNKNOWN), .val (.ref wUNKNOWN), .val (.int (1 : Int32)), .unset] [(.ref wUNKNOWN), (.ref wUNKNOWN)])) _
            refine st135.trans ?_
            show Steps p.tables e below (T135.setTop (mkF m 28 #[.val (.int p0), .val (.int p1), .val (.ref wUNKNOWN), .val (.ref wUNKNOWN), .val (.int (1 : Int32)), .unset] [(.ref wUNKNOWN)])) _
            refine XS.astore X135.here hx rfl (hb hby at_28) rfl rfl (l' := #[.val (.int p0), .val (.int p1), .val (.ref wUNKNOWN), .val (.ref wUNKNOWN), .val (.int (1 : Int32)), .val (.ref wUNKNOWN)]) rfl ?_
            show Steps p.tables e below (T135.setTop (mkF m 30 #[.val (.int p0), .val (.int p1), .val (.ref wUNKNOWN), .val (.ref wUNKNOWN), .val (.int (1 : Int32)), .val (.ref wUNKNOWN)] [])) _
            refine XS.aload X135.here hx rfl (hb hby at_30) rfl rfl ?_
            show Steps p.tables e below (T135.setTop (mkF m 32 #[.val (.int p0), .val (.int p1), .val (.ref wUNKNOWN), .val (.ref wUNKNOWN), .val (.int (1 : Int32)), .val (.ref wUNKNOWN)] [(.ref wUNKNOWN)])) _
            refine XS.ifnonnullYes X135.here hx rfl (pc0 := 32) (pc' := 37) rfl (hb hby at_32) rfl (by decide) (by decide) ?_
            show Steps p.tables e below (T135.setTop (mkF m 37 #[.val (.int p0), .val (.int p1), .val (.ref wUNKNOWN), .val (.ref wUNKNOWN), .val (.int (1 : Int32)), .val (.ref wUNKNOWN)] [])) _
            refine XS.aload X135.here hx rfl (hb hby at_37) rfl rfl ?_
            exact kt)
          rw [((by rw [f2, if_neg ((Fld.ne FUNKNOWN_ordinal FFALSE_ordinal (by decide)) : ¬ (wUNKNOWN = wFALSE)), if_pos (rfl : wUNKNOWN = wUNKNOWN)]) : (f2 wUNKNOWN wTRUE wFALSE wUNKNOWN) = (1 : Int32))] at hQ137
          obtain ⟨rfl, N137q, e137⟩ := hQ137
          have N137 := Fr.app N135 N137q
          obtain ⟨fs, hr, hrun, hended, hW, hsame⟩ := X137.leave (v := some (.int (1 : Int32))) (fun h => by rw [Bd.returns] at h; cases h)
          refine ⟨_, _, k138 _ ?_, hrun, hended, _, _, rfl, ?_, ⟨_, rfl⟩, hW, hsame.mono (by decide) (by decide)⟩
          · show Steps p.tables e below (T135.setTop (mkF m 39 #[.val (.int p0), .val (.int p1), .val (.ref wUNKNOWN), .val (.ref wUNKNOWN), .val (.int (1 : Int32)), .val (.ref wUNKNOWN)] [(.ref wUNKNOWN)])) _
            refine st137 _ ?_
            show Steps p.tables e below (T137.setTop (mkF m 42 #[.val (.int p0), .val (.int p1), .val (.ref wUNKNOWN), .val (.ref wUNKNOWN), .val (.int (1 : Int32)), .val (.ref wUNKNOWN)] [(.int (1 : Int32))])) _
            refine XS.iload X137.here hx rfl (hb hby at_42) rfl ?_
            show Steps p.tables e below (T137.setTop (mkF m 44 #[.val (.int p0), .val (.int p1), .val (.ref wUNKNOWN), .val (.ref wUNKNOWN), .val (.int (1 : Int32)), .val (.ref wUNKNOWN)] [(.int (1 : Int32)), (.int (1 : Int32))])) _
            refine XS.icmpNo X137.here hx rfl (hb hby at_44) rfl (teq (rfl : (1 : Int32) = (1 : Int32))).2 ?_
            show Steps p.tables e below (T137.setTop (mkF m 47 #[.val (.int p0), .val (.int p1), .val (.ref wUNKNOWN), .val (.ref wUNKNOWN), .val (.int (1 : Int32)), .val (.ref wUNKNOWN)] [])) _
            refine XS.iconst X137.here hx rfl (hb hby at_47) ?_
            show Steps p.tables e below (T137.setTop (mkF m 48 #[.val (.int p0), .val (.int p1), .val (.ref wUNKNOWN), .val (.ref wUNKNOWN), .val (.int (1 : Int32)), .val (.ref wUNKNOWN)] [(.int (1 : Int32))])) _
            refine XS.goto X137.here hx rfl (pc0 := 48) (pc' := 52) rfl (hb hby at_48) (by decide) (by decide) ?_
            show Steps p.tables e below (T137.setTop (mkF m 52 #[.val (.int p0), .val (.int p1), .val (.ref wUNKNOWN), .val (.ref wUNKNOWN), .val (.int (1 : Int32)), .val (.ref wUNKNOWN)] [(.int (1 : Int32))])) _
            exact retN X137 hx (t := .boolean) Bd.returns (by simp) (hb hby at_52) hr
          · show Q0 Z p0 p1 wTRUE wFALSE wUNKNOWN h0 n0 _ T137.heap _
            rw [e137]
            exact ⟨rfl, N137⟩
set_option maxRecDepth 65536 in
set_option maxHeartbeats 40000000 in
theorem comes_1 {Post : Tables → Env → Array Value → State → Outcome → State → Prop} (hpost : ∀ tb e args s v u, (limb_1_1.after args s (.returned v) u = true ∧ limb_1_2.after args s (.returned v) u = true ∧ True) → FrameEnd s (.returned v) u (Jvm.fieldLocs frame_1_writes args s ++ Jvm.arrayLocs frame_1_arrays args s ++ Jvm.staticLocs frame_1_statics s) 0 0 → Post tb e args s (.returned v) u) :
    ArmFor flags0 classFile x code maxLocals ret World_1 tables_1 room_1 Calls_1 rest_1 Pre_1 Post := by
  intro l hfl _ _ p e ha hc hk s m args below hf hA hF happ hP
  obtain ⟨hcalls, hrest, hpre⟩ := hP
  obtain ⟨-, -, -, hnamed, -, -, -, hat⟩ := (Spec.applies_iff hf).mp happ
  obtain ⟨hg, hn⟩ := and_e (Cond.before_iff.mp (show (Jvm.Cond.and given_1 narrow_1).before args s = true from hpre))
  obtain ⟨gc, gr0⟩ := and_e hg
  obtain ⟨ga0, ga1⟩ := and_e gr0
  obtain ⟨w0, w1, rfl⟩ : ∃ w0 w1 : Value, args = #[w0, w1] := by
    have hs : args.size = 2 := by simpa [Cond.value, given_1] using gc
    obtain ⟨L⟩ := args
    match L, hs with
    | [w0, w1], _ => exact ⟨w0, w1, rfl⟩
  have hw := fun d (hd : d ∈ tables_1) => atoms_spec (ws := Jvm.Cond.code x code maxLocals ret :: tables_1) hat d (List.mem_cons_of_mem _ hd)
  have hfit : Fit s := fun {y c} hc i hi => by
    obtain ⟨ha, rfl⟩ := Array.getElem?_eq_some_iff.mp hc
    have q := List.all_eq_true.mp ((Array.all_eq_true_iff_forall_mem.mp hF) _ (Array.getElem_mem ha)) i (List.mem_range.mpr hi)
    simpa [Array.getElem?_eq_getElem hi] using q
  obtain ⟨i0, ei0⟩ := is_v ga0
  obtain rfl : w0 = (.int i0) := Option.some.inj ei0
  obtain ⟨i1, ei1⟩ := is_v ga1
  obtain rfl : w1 = (.int i1) := Option.some.inj ei1
  obtain ⟨nr0, hn0⟩ := and_e hn
  obtain ⟨nr1, hn1⟩ := and_e hn0
  obtain ⟨nr2, hn2⟩ := and_e hn1
  obtain ⟨nr3, hn3⟩ := and_e hn2
  obtain ⟨nr4, nr5⟩ := and_e hn3
  obtain ⟨wTRUE, evwTRUE⟩ := exa_v nr0
  have STRUE : Sta s s.heap "com/example/turtlehead/turtlehead/Truth" "TRUE" "Lcom/example/turtlehead/turtlehead/Truth;" (.ref wTRUE) := Sta.start evwTRUE (Or.inr ⟨(hw _ (List.mem_of_getElem? (i := 6) rfl)), (hw _ (List.mem_of_getElem? (i := 7) rfl))⟩)
  obtain ⟨wFALSE, evwFALSE⟩ := exa_v nr1
  have SFALSE : Sta s s.heap "com/example/turtlehead/turtlehead/Truth" "FALSE" "Lcom/example/turtlehead/turtlehead/Truth;" (.ref wFALSE) := Sta.start evwFALSE (Or.inr ⟨(hw _ (List.mem_of_getElem? (i := 6) rfl)), (hw _ (List.mem_of_getElem? (i := 12) rfl))⟩)
  obtain ⟨wUNKNOWN, evwUNKNOWN⟩ := exa_v nr4
  have SUNKNOWN : Sta s s.heap "com/example/turtlehead/turtlehead/Truth" "UNKNOWN" "Lcom/example/turtlehead/turtlehead/Truth;" (.ref wUNKNOWN) := Sta.start evwUNKNOWN (Or.inr ⟨(hw _ (List.mem_of_getElem? (i := 6) rfl)), (hw _ (List.mem_of_getElem? (i := 14) rfl))⟩)
  have ETRUE : Exa s s.heap wTRUE "com/example/turtlehead/turtlehead/Truth" := Exa.start evwTRUE nr0
  have EFALSE : Exa s s.heap wFALSE "com/example/turtlehead/turtlehead/Truth" := Exa.start evwFALSE nr1
  have FTRUE_ordinal : Fld s s.heap wTRUE "java/lang/Enum" "ordinal" "I" (.int (0 : Int32)) := own_fldI evwTRUE nr2
  have FFALSE_ordinal : Fld s s.heap wFALSE "java/lang/Enum" "ordinal" "I" (.int (1 : Int32)) := own_fldI evwFALSE nr3
  have EUNKNOWN : Exa s s.heap wUNKNOWN "com/example/turtlehead/turtlehead/Truth" := Exa.start evwUNKNOWN nr4
  have FUNKNOWN_ordinal : Fld s s.heap wUNKNOWN "java/lang/Enum" "ordinal" "I" (.int (2 : Int32)) := own_fldI evwUNKNOWN nr5
  obtain ⟨n, o, h1, h2, h3, _, L, rfl, ⟨rfl, N⟩, hq⟩ := rm0 l s _ hw tables_1 i0 i1 wTRUE wFALSE wUNKNOWN s.heap s.heap.size (Nat.le_refl _) ⟨STRUE, ETRUE, SFALSE, EFALSE, FTRUE_ordinal, FFALSE_ordinal, SUNKNOWN, EUNKNOWN, FUNKNOWN_ordinal, trivial⟩  p e ha hc hk s m _ below hf ((Spec.applies_iff_loose hf).mp happ).1 ⟨rfl, State.Warmed39.refl s, rfl⟩ trivial
  refine ⟨n, _, h1, h2, h3, hpost _ _ _ _ _ _ ⟨Cond.after_iff.mpr rfl, Cond.after_iff.mpr (eq_i res_at (Term.int_eval (1)) rfl), trivial⟩ ⟨hq.1, hq.2.1, (hq.2.2.sift fun y hy => Or.inr (N y hy)).mono (by decide) (by decide)⟩⟩
theorem main_1_1 : Claimed_1_1 := comes_1 fun _ _ _ _ _ _ h hF => ⟨h.1, hF⟩
theorem main_1_2 : Claimed_1_2 := comes_1 fun _ _ _ _ _ _ h hF => ⟨h.2.1, hF⟩
end Jvm.Pilot.@@N@@
namespace Jvm.Pilot.@@N@@
open Jvm Jvm.ClassFile Sem Op Lib Jvm.Free Jvm.Stand Jvm.Pilot.@@N@@.Jvm.D
/-! MADE BY PROGRAM (witnessworld.py) out of the Statement's table words and the real class files: 13 classes; the members and pool entries that the words name. The judged class is class 1, her method 3. -/
namespace start1
open Jvm.ClassFile
def u (s : String) : CpInfo := .utf8 (stringToUtf16 s)
/-- a pool by its gaps: so many unusable entries, then the entry; so many at the end -/
def gap : Nat → List CpInfo → List CpInfo
  | 0, r => r
  | n + 1, r => .unusable :: gap n r
def poolList (es : List (Nat × CpInfo)) (last : Nat) : List CpInfo := es.foldr (fun e r => gap e.1 (e.2 :: r)) (gap last [])
def pool (es : List (Nat × CpInfo)) (last : Nat) : Array CpInfo := ⟨poolList es last⟩
def fileOf (pool : Array CpInfo) (this : Nat) (attrs : Array Attribute := #[]) (ms : Array MethodInfo := #[]) (fl : Nat := 33) (sup : Nat := 0) (ifs : Array Nat := #[]) (fds : Array FieldInfo := #[]) : ClassFile where
  minorVersion := 0
  majorVersion := 65
  constantPool := pool
  accessFlags := fl
  thisClass := this
  superClass := sup
  interfaces := ifs
  fields := fds
  methods := ms
  attributes := attrs
def plain (name : String) (sup : Option ClassId) : Class where
  name := name
  kind := .ordinary
  loader := none
  accessFlags := 33
  super := sup
  interfaces := #[]
  cf := none
  fields := #[]
  methods := #[]
  instanceTypes := #[]
  staticTypes := #[]
  resolved := #[]
  callSites := []
  init := .initialized
  statics := none
  mirror := none

def pool0 : Array CpInfo := pool [(5, u "<init>"), (0, u "()V"), (1, .class_ 10), (1, u "java/lang/Object")] 113

def k0m0 : Method := { name := "<init>", desc := "()V", sig := { parameters := [], returnType := none }, accessFlags := 1, code := none }
/-- java/lang/Object -/
def k0 : Class := { plain "java/lang/Object" none with
  accessFlags := 33
  interfaces := #[]
  cf := some (fileOf pool0 8 #[] #[{ accessFlags := 1, nameIndex := 5, descriptorIndex := 6, attributes := #[] }] 33 0 #[] #[])
  fields := #[]
  methods := #[k0m0]
  instanceTypes := #[]
  staticTypes := #[]
  resolved := Array.replicate 124 none
  statics := none }

def pool1 : Array CpInfo := pool [(2, .class_ 4), (1, u "java/lang/Object"), (0, u "<init>"), (0, u "()V"), (0, .integer 2147483647), (0, .fieldref 9 10), (0, .class_ 11), (0, .nameAndType 12 13), (0, u "com/example/turtlehead/turtlehead/Truth"), (0, u "TRUE"), (0, u "Lcom/example/turtlehead/turtlehead/Truth;"), (0, .fieldref 9 15), (0, .nameAndType 16 13), (0, u "FALSE"), (0, .fieldref 9 18), (0, .nameAndType 19 13), (0, u "UNKNOWN"), (0, .methodref 21 22), (0, .class_ 23), (0, .nameAndType 24 25), (0, u "com/example/turtlehead/turtlehead/TruthAndPinLaw"), (0, u "pick"), (0, u "(I)Lcom/example/turtlehead/turtlehead/Truth;"), (0, .methodref 21 27), (0, .nameAndType 28 29), (0, u "rank"), (0, u "(Lcom/example/turtlehead/turtlehead/Truth;)I"), (0, .methodref 31 32), (0, .class_ 33), (0, .nameAndType 34 35), (0, u "java/lang/Math"), (0, u "min"), (0, u "(II)I"), (0, .methodref 9 37), (0, .nameAndType 38 39), (0, u "and"), (0, u "(Lcom/example/turtlehead/turtlehead/Truth;)Lcom/example/turtlehead/turtlehead/Truth;"), (3, u "law"), (0, u "(II)Z")] 2

def k1m0 : Method := { name := "<init>", desc := "()V", sig := { parameters := [], returnType := none }, accessFlags := 2, code := none }
def k1c1 : Code := { maxStack := 2, maxLocals := 2, code := method_2_code, exceptionTable := #[], attributes := #[] }
def k1m1 : Method := { name := "pick", desc := "(I)Lcom/example/turtlehead/turtlehead/Truth;", sig := { parameters := [.int], returnType := some (.object "com/example/turtlehead/turtlehead/Truth") }, accessFlags := 10, code := some k1c1 }
def k1c2 : Code := { maxStack := 2, maxLocals := 1, code := method_3_code, exceptionTable := #[], attributes := #[] }
def k1m2 : Method := { name := "rank", desc := "(Lcom/example/turtlehead/turtlehead/Truth;)I", sig := { parameters := [(.object "com/example/turtlehead/turtlehead/Truth")], returnType := some .int }, accessFlags := 10, code := some k1c2 }
def k1c3 : Code := { maxStack := 2, maxLocals := 6, code := code, exceptionTable := #[], attributes := #[] }
def k1m3 : Method := { name := "law", desc := "(II)Z", sig := { parameters := [.int, .int], returnType := some .boolean }, accessFlags := 9, code := some k1c3 }
/-- com/example/turtlehead/turtlehead/TruthAndPinLaw -/
def k1 : Class := { plain "com/example/turtlehead/turtlehead/TruthAndPinLaw" (some 0) with
  accessFlags := 49
  interfaces := #[]
  cf := some (fileOf pool1 21 #[] #[{ accessFlags := 2, nameIndex := 5, descriptorIndex := 6, attributes := #[] }, { accessFlags := 10, nameIndex := 24, descriptorIndex := 25, attributes := #[] }, { accessFlags := 10, nameIndex := 28, descriptorIndex := 29, attributes := #[] }, { accessFlags := 9, nameIndex := 43, descriptorIndex := 44, attributes := #[] }] 49 2 #[] #[])
  fields := #[]
  methods := #[k1m0, k1m1, k1m2, k1m3]
  instanceTypes := #[]
  staticTypes := #[]
  resolved := Array.replicate 47 none
  statics := none }

def pool2 : Array CpInfo := pool [(1, .class_ 2), (0, u "java/lang/constant/Constable"), (0, .class_ 4), (0, u "java/lang/Object")] 6

/-- java/lang/constant/Constable -/
def k2 : Class := { plain "java/lang/constant/Constable" (some 0) with
  accessFlags := 1537
  interfaces := #[]
  cf := some (fileOf pool2 1 #[] #[] 1537 3 #[] #[])
  fields := #[]
  methods := #[]
  instanceTypes := #[]
  staticTypes := #[]
  resolved := Array.replicate 11 none
  statics := none }

def pool3 : Array CpInfo := pool [(1, .class_ 2), (0, u "java/lang/Comparable"), (0, .class_ 4), (0, u "java/lang/Object")] 7

/-- java/lang/Comparable -/
def k3 : Class := { plain "java/lang/Comparable" (some 0) with
  accessFlags := 1537
  interfaces := #[]
  cf := some (fileOf pool3 1 #[] #[] 1537 3 #[] #[])
  fields := #[]
  methods := #[]
  instanceTypes := #[]
  staticTypes := #[]
  resolved := Array.replicate 12 none
  statics := none }

def pool4 : Array CpInfo := pool [(1, .class_ 2), (0, u "java/io/Serializable"), (0, .class_ 4), (0, u "java/lang/Object")] 2

/-- java/io/Serializable -/
def k4 : Class := { plain "java/io/Serializable" (some 0) with
  accessFlags := 1537
  interfaces := #[]
  cf := some (fileOf pool4 1 #[] #[] 1537 3 #[] #[])
  fields := #[]
  methods := #[]
  instanceTypes := #[]
  staticTypes := #[]
  resolved := Array.replicate 7 none
  statics := none }

def pool5 : Array CpInfo := pool [(2, .class_ 4), (1, u "java/lang/Enum"), (0, u "name"), (0, u "Ljava/lang/String;"), (2, u "ordinal"), (0, u "I"), (1, .class_ 14), (1, u "java/lang/Object"), (4, u "hash"), (86, .class_ 108), (1, u "java/lang/Enum$EnumDesc"), (2, .class_ 112), (0, u "java/lang/constant/Constable"), (0, .class_ 114), (0, u "java/lang/Comparable"), (0, .class_ 116), (0, u "java/io/Serializable")] 87

/-- java/lang/Enum -/
def k5 : Class := { plain "java/lang/Enum" (some 0) with
  accessFlags := 1057
  interfaces := #[2, 3, 4]
  cf := some (fileOf pool5 2 #[.nestMembers #[106]] #[] 1057 12 #[111, 113, 115] #[{ accessFlags := 18, nameIndex := 5, descriptorIndex := 6, attributes := #[] }, { accessFlags := 18, nameIndex := 9, descriptorIndex := 10, attributes := #[] }, { accessFlags := 2, nameIndex := 19, descriptorIndex := 10, attributes := #[] }])
  fields := #[{ name := "name", type := (.object "java/lang/String"), accessFlags := 18, slot := 0, constantValue := 0 }, { name := "ordinal", type := .int, accessFlags := 18, slot := 1, constantValue := 0 }, { name := "hash", type := .int, accessFlags := 2, slot := 2, constantValue := 0 }]
  methods := #[]
  instanceTypes := #[(.object "java/lang/String"), .int, .int]
  staticTypes := #[]
  resolved := Array.replicate 204 none
  statics := none }

def pool6 : Array CpInfo := pool [(1, .class_ 2), (0, u "com/example/turtlehead/turtlehead/Truth"), (0, .fieldref 1 4), (0, .nameAndType 5 6), (0, u "TRUE"), (0, u "Lcom/example/turtlehead/turtlehead/Truth;"), (0, .fieldref 1 8), (0, .nameAndType 9 6), (0, u "FALSE"), (0, .fieldref 1 11), (0, .nameAndType 12 6), (0, u "UNKNOWN"), (2, u "$VALUES"), (0, u "[Lcom/example/turtlehead/turtlehead/Truth;"), (6, .class_ 25), (1, u "java/lang/Enum"), (26, u "and"), (0, u "(Lcom/example/turtlehead/turtlehead/Truth;)Lcom/example/turtlehead/turtlehead/Truth;")] 5

def k6c0 : Code := { maxStack := 2, maxLocals := 3, code := prog_105_method_6_code, exceptionTable := #[], attributes := #[] }
def k6m0 : Method := { name := "and", desc := "(Lcom/example/turtlehead/turtlehead/Truth;)Lcom/example/turtlehead/turtlehead/Truth;", sig := { parameters := [(.object "com/example/turtlehead/turtlehead/Truth")], returnType := some (.object "com/example/turtlehead/turtlehead/Truth") }, accessFlags := 1, code := some k6c0 }
/-- com/example/turtlehead/turtlehead/Truth -/
def k6 : Class := { plain "com/example/turtlehead/turtlehead/Truth" (some 5) with
  accessFlags := 16433
  interfaces := #[]
  cf := some (fileOf pool6 1 #[] #[{ accessFlags := 1, nameIndex := 52, descriptorIndex := 53, attributes := #[] }] 16433 23 #[] #[{ accessFlags := 16409, nameIndex := 5, descriptorIndex := 6, attributes := #[] }, { accessFlags := 16409, nameIndex := 9, descriptorIndex := 6, attributes := #[] }, { accessFlags := 16409, nameIndex := 12, descriptorIndex := 6, attributes := #[] }, { accessFlags := 4122, nameIndex := 15, descriptorIndex := 16, attributes := #[] }])
  fields := #[{ name := "TRUE", type := (.object "com/example/turtlehead/turtlehead/Truth"), accessFlags := 16409, slot := 0, constantValue := 0 }, { name := "FALSE", type := (.object "com/example/turtlehead/turtlehead/Truth"), accessFlags := 16409, slot := 1, constantValue := 0 }, { name := "UNKNOWN", type := (.object "com/example/turtlehead/turtlehead/Truth"), accessFlags := 16409, slot := 2, constantValue := 0 }, { name := "$VALUES", type := (.array (.object "com/example/turtlehead/turtlehead/Truth")), accessFlags := 4122, slot := 3, constantValue := 0 }]
  methods := #[k6m0]
  instanceTypes := #[(.object "java/lang/String"), .int, .int]
  staticTypes := #[(.object "com/example/turtlehead/turtlehead/Truth"), (.object "com/example/turtlehead/turtlehead/Truth"), (.object "com/example/turtlehead/turtlehead/Truth"), (.array (.object "com/example/turtlehead/turtlehead/Truth"))]
  resolved := Array.replicate 59 none
  statics := some 0 }

def pool7 : Array CpInfo := pool [(1, .class_ 2), (0, u "java/lang/Math"), (1, .class_ 6), (1, u "java/lang/Object"), (0, u "<init>"), (0, u "()V"), (89, .class_ 100), (1, u "java/lang/Math$RandomNumberGeneratorHolder"), (71, u "negativeZeroFloatBits"), (0, u "J"), (2, u "negativeZeroDoubleBits"), (24, u "min"), (43, u "$assertionsDisabled"), (0, u "Z"), (88, u "(II)I"), (2, u "twoToTheDoubleScaleDown"), (0, u "D"), (4, u "twoToTheDoubleScaleUp"), (9, u "E"), (3, u "PI"), (2, u "TAU"), (2, u "DEGREES_TO_RADIANS"), (0, u "RADIANS_TO_DEGREES")] 94

def k7m0 : Method := { name := "<init>", desc := "()V", sig := { parameters := [], returnType := none }, accessFlags := 2, code := none }
def k7c1 : Code := { maxStack := 2, maxLocals := 2, code := jdk_29_method_69_code, exceptionTable := #[], attributes := #[] }
def k7m1 : Method := { name := "min", desc := "(II)I", sig := { parameters := [.int, .int], returnType := some .int }, accessFlags := 9, code := some k7c1 }
/-- java/lang/Math -/
def k7 : Class := { plain "java/lang/Math" (some 0) with
  accessFlags := 49
  interfaces := #[]
  cf := some (fileOf pool7 1 #[.nestMembers #[98]] #[{ accessFlags := 2, nameIndex := 7, descriptorIndex := 8, attributes := #[] }, { accessFlags := 9, nameIndex := 201, descriptorIndex := 335, attributes := #[] }] 49 4 #[] #[{ accessFlags := 25, nameIndex := 354, descriptorIndex := 339, attributes := #[] }, { accessFlags := 25, nameIndex := 358, descriptorIndex := 339, attributes := #[] }, { accessFlags := 25, nameIndex := 361, descriptorIndex := 339, attributes := #[] }, { accessFlags := 26, nameIndex := 364, descriptorIndex := 339, attributes := #[] }, { accessFlags := 26, nameIndex := 365, descriptorIndex := 339, attributes := #[] }, { accessFlags := 26, nameIndex := 172, descriptorIndex := 173, attributes := #[] }, { accessFlags := 26, nameIndex := 176, descriptorIndex := 173, attributes := #[] }, { accessFlags := 8, nameIndex := 344, descriptorIndex := 339, attributes := #[] }, { accessFlags := 8, nameIndex := 338, descriptorIndex := 339, attributes := #[] }, { accessFlags := 4120, nameIndex := 245, descriptorIndex := 246, attributes := #[] }])
  fields := #[{ name := "E", type := .double, accessFlags := 25, slot := 0, constantValue := 0 }, { name := "PI", type := .double, accessFlags := 25, slot := 1, constantValue := 0 }, { name := "TAU", type := .double, accessFlags := 25, slot := 2, constantValue := 0 }, { name := "DEGREES_TO_RADIANS", type := .double, accessFlags := 26, slot := 3, constantValue := 0 }, { name := "RADIANS_TO_DEGREES", type := .double, accessFlags := 26, slot := 4, constantValue := 0 }, { name := "negativeZeroFloatBits", type := .long, accessFlags := 26, slot := 5, constantValue := 0 }, { name := "negativeZeroDoubleBits", type := .long, accessFlags := 26, slot := 6, constantValue := 0 }, { name := "twoToTheDoubleScaleUp", type := .double, accessFlags := 8, slot := 7, constantValue := 0 }, { name := "twoToTheDoubleScaleDown", type := .double, accessFlags := 8, slot := 8, constantValue := 0 }, { name := "$assertionsDisabled", type := .boolean, accessFlags := 4120, slot := 9, constantValue := 0 }]
  methods := #[k7m0, k7m1]
  instanceTypes := #[]
  staticTypes := #[.double, .double, .double, .double, .double, .long, .long, .double, .double, .boolean]
  resolved := Array.replicate 460 none
  statics := none }

def pool8 : Array CpInfo := pool [(1, u "java/lang/Cloneable"), (0, .class_ 1), (0, u "java/lang/Object"), (0, .class_ 3)] 3

/-- java/lang/Cloneable -/
def k8 : Class := { plain "java/lang/Cloneable" (some 0) with
  accessFlags := 1537
  interfaces := #[]
  cf := some (fileOf pool8 2 #[] #[] 1537 4 #[] #[])
  fields := #[]
  methods := #[]
  instanceTypes := #[]
  staticTypes := #[]
  resolved := Array.replicate 8 none
  statics := none }

/-- the primitive byte -/
def k9 : Class := { plain "byte" none with kind := .primitive 'B', accessFlags := 0x411 }
/-- [B -/
def k10 : Class := { plain "[B" (some 0) with kind := .array 9 .byte, interfaces := #[8, 4], accessFlags := 1041 }

/-- the primitive int -/
def k11 : Class := { plain "int" none with kind := .primitive 'I', accessFlags := 0x411 }
/-- [I -/
def k12 : Class := { plain "[I" (some 0) with kind := .array 11 .int, interfaces := #[8, 4], accessFlags := 1041 }

def heap : Heap := #[{ cls := 6, slots := #[.ref 1, .ref 2, .ref 3, .null], vm := .statics 6 },
  { cls := 6, slots := #[.null, .int 0, .int 0], vm := .none },
  { cls := 6, slots := #[.null, .int 1, .int 0], vm := .none },
  { cls := 6, slots := #[.null, .int 2, .int 0], vm := .none }]
def classes : Array Class := #[k0, k1, k2, k3, k4, k5, k6, k7, k8, k9, k10, k11, k12]
def interned : List (Array UInt16 × Addr) := []
def slotsUsed : Nat := 13
def theMethod : MethodId := ⟨1, 3⟩
def args0 : Array Value := #[.int 5, .int 7]
def aboutOver (below : List Frame) : State where
  vm := { classes := classes, interned := interned.toArray }
  heap := heap
  slotsUsed := slotsUsed
  threads := #[{ frames := .invoking theMethod args0 :: below }]
def below0 : List Frame := [.native { method := ⟨0, 0⟩, args := #[] }]
def about1 : State := aboutOver below0
def p0 : Program := .bare "" "" ""
def e0 : Env := launch0.env 0 0 0
theorem w_frames : about1.frames = Frame.invoking theMethod args0 :: below0 := rfl
set_option maxRecDepth 65536 in
theorem w_args : argsFit about1.vm theMethod args0 = true := by decide +kernel
set_option maxRecDepth 65536 in
theorem w_heap : heapFits about1 = true := by decide +kernel
set_option maxRecDepth 65536 in
theorem w_runnable : about1.curStatus? = some .runnable := by decide +kernel
set_option maxRecDepth 65536 in
theorem w_alone : about1.alone = true := by decide +kernel
set_option maxRecDepth 65536 in
theorem w_named : about1.methodNamed? x = some theMethod := by decide +kernel
set_option maxRecDepth 65536 in
theorem w_hears : about1.hears theMethod below0 = true := by decide +kernel
set_option maxRecDepth 65536 in
theorem w_ripe : about1.ripe theMethod args0 below0 = true := by decide +kernel
theorem w_running : about1.status = .running := rfl
set_option maxRecDepth 65536 in
theorem w_room : about1.hasRoom e0.platform room_1 = true :=
  launch0.hasRoom_least _ room_1 (by decide +kernel) (by decide +kernel) (by decide +kernel) (by decide +kernel) (by decide +kernel) (by decide +kernel)
theorem allAtoms_all (ts : List Jvm.Cond) (a : Array Jvm.Value) (st : Jvm.State) : (allAtoms ts).before a st = ts.all (fun c => c.before a st) := by
  induction ts with
  | nil => rfl
  | cons c t ih =>
    show (Jvm.Cond.and c (allAtoms t)).before a st = _
    rw [Jvm.Cond.before_and, ih, List.all_cons]
def words1 : List Jvm.Cond := Jvm.Cond.code x code maxLocals ret :: tables_1
/-- a 'code' word, met by the world's own term for the bytes: nothing is compared byte by byte -/
theorem code_word {y : MethodName} {bytes : ByteArray} {mx : Nat} {rt : Option FieldType} {a : Array Value} {s : State} {m : MethodId} {meth : Method} {c : Code} (h1 : s.methodNamed? y = some m) (h2 : s.vm.method? m = some meth) (h3 : meth.code = some c) (h4 : c.code = bytes)
    (h5 : (c.maxLocals == mx && c.exceptionTable.isEmpty && decide (c.maxStack ≤ mostOperands) && decide (meth.sig.returnType = rt) && !meth.locks && decide (parseMethodDescriptor y.desc = some meth.sig)) = true) : (Jvm.Cond.code y bytes mx rt).before a s = true := by
  simp only [Bool.and_eq_true, beq_iff_eq, Bool.not_eq_true', decide_eq_true_eq] at h5
  obtain ⟨⟨⟨⟨⟨g1, g2⟩, g3⟩, g4⟩, g5⟩, g6⟩ := h5
  simp [Cond.before, Cond.holds, Cond.value, h1, h2, h3, h4, g1, g2, g3, g4, g5, g6]
def isCode : Jvm.Cond → Bool
  | .code _ _ _ _ => true
  | _ => false
theorem all_split {L : List Jvm.Cond} {P : Jvm.Cond → Bool} (h1 : L.all (fun c => isCode c || P c) = true) (h2 : ∀ c ∈ L.filter isCode, P c = true) : L.all P = true := by
  refine List.all_eq_true.mpr fun c hc => ?_
  have h := List.all_eq_true.mp h1 c hc
  rcases Bool.eq_false_or_eq_true (isCode c) with hi | hi
  · exact h2 c (List.mem_filter.mpr ⟨hc, hi⟩)
  · simpa [hi] using h
set_option maxRecDepth 65536 in
theorem w_c0 : (Jvm.Cond.code x code maxLocals ret).before args0 about1 = true := code_word (m := ⟨1, 3⟩) (meth := k1m3) (c := k1c3) (by decide +kernel) rfl rfl rfl (by decide +kernel)
set_option maxRecDepth 65536 in
theorem w_c1 : (Jvm.Cond.code ({ cls := "com/example/turtlehead/turtlehead/TruthAndPinLaw", name := "pick", desc := "(I)Lcom/example/turtlehead/turtlehead/Truth;" } : Jvm.MethodName) method_2_code (2 : Nat) (Option.some (Jvm.ClassFile.FieldType.object "com/example/turtlehead/turtlehead/Truth"))).before args0 about1 = true := code_word (m := ⟨1, 1⟩) (meth := k1m1) (c := k1c1) (by decide +kernel) rfl rfl rfl (by decide +kernel)
set_option maxRecDepth 65536 in
theorem w_c2 : (Jvm.Cond.code ({ cls := "com/example/turtlehead/turtlehead/TruthAndPinLaw", name := "rank", desc := "(Lcom/example/turtlehead/turtlehead/Truth;)I" } : Jvm.MethodName) method_3_code (1 : Nat) (Option.some Jvm.ClassFile.FieldType.int)).before args0 about1 = true := code_word (m := ⟨1, 2⟩) (meth := k1m2) (c := k1c2) (by decide +kernel) rfl rfl rfl (by decide +kernel)
set_option maxRecDepth 65536 in
theorem w_c3 : (Jvm.Cond.code ({ cls := "java/lang/Math", name := "min", desc := "(II)I" } : Jvm.MethodName) jdk_29_method_69_code (2 : Nat) (Option.some Jvm.ClassFile.FieldType.int)).before args0 about1 = true := code_word (m := ⟨7, 1⟩) (meth := k7m1) (c := k7c1) (by decide +kernel) rfl rfl rfl (by decide +kernel)
set_option maxRecDepth 65536 in
theorem w_c4 : (Jvm.Cond.code ({ cls := "com/example/turtlehead/turtlehead/Truth", name := "and", desc := "(Lcom/example/turtlehead/turtlehead/Truth;)Lcom/example/turtlehead/turtlehead/Truth;" } : Jvm.MethodName) prog_105_method_6_code (3 : Nat) (Option.some (Jvm.ClassFile.FieldType.object "com/example/turtlehead/turtlehead/Truth"))).before args0 about1 = true := code_word (m := ⟨6, 0⟩) (meth := k6m0) (c := k6c0) (by decide +kernel) rfl rfl rfl (by decide +kernel)
def codes1 : List Jvm.Cond := [Jvm.Cond.code x code maxLocals ret, Jvm.Cond.code ({ cls := "com/example/turtlehead/turtlehead/TruthAndPinLaw", name := "pick", desc := "(I)Lcom/example/turtlehead/turtlehead/Truth;" } : Jvm.MethodName) method_2_code (2 : Nat) (Option.some (Jvm.ClassFile.FieldType.object "com/example/turtlehead/turtlehead/Truth")), Jvm.Cond.code ({ cls := "com/example/turtlehead/turtlehead/TruthAndPinLaw", name := "rank", desc := "(Lcom/example/turtlehead/turtlehead/Truth;)I" } : Jvm.MethodName) method_3_code (1 : Nat) (Option.some Jvm.ClassFile.FieldType.int), Jvm.Cond.code ({ cls := "java/lang/Math", name := "min", desc := "(II)I" } : Jvm.MethodName) jdk_29_method_69_code (2 : Nat) (Option.some Jvm.ClassFile.FieldType.int), Jvm.Cond.code ({ cls := "com/example/turtlehead/turtlehead/Truth", name := "and", desc := "(Lcom/example/turtlehead/turtlehead/Truth;)Lcom/example/turtlehead/turtlehead/Truth;" } : Jvm.MethodName) prog_105_method_6_code (3 : Nat) (Option.some (Jvm.ClassFile.FieldType.object "com/example/turtlehead/turtlehead/Truth"))]
set_option maxRecDepth 65536 in
theorem codes_eq : words1.filter isCode = codes1 := rfl
theorem w_codes : ∀ c ∈ words1.filter isCode, c.before args0 about1 = true := by
  rw [codes_eq]
  intro c hc
  simp only [codes1, List.mem_cons, List.not_mem_nil, or_false] at hc
  rcases hc with rfl | rfl | rfl | rfl | rfl
  · exact w_c0
  · exact w_c1
  · exact w_c2
  · exact w_c3
  · exact w_c4
set_option maxRecDepth 65536 in
theorem w_t1 : (words1.take 24).all (fun c => isCode c || c.before args0 about1) = true := by decide +kernel
set_option maxRecDepth 65536 in
theorem w_t2 : (words1.drop 24).all (fun c => isCode c || c.before args0 about1) = true := by decide +kernel
theorem w_tables : (allAtoms (Jvm.Cond.code x code maxLocals ret :: tables_1)).before args0 about1 = true := by
  rw [allAtoms_all]
  show words1.all (fun c => c.before args0 about1) = true
  refine all_split ?_ w_codes
  rw [← List.take_append_drop 24 words1, List.all_append, w_t1, w_t2]
  rfl
set_option maxRecDepth 65536 in
theorem w_case : (Jvm.Cond.and given_1 narrow_1).before args0 about1 = true := by decide +kernel
theorem w_applies : (headSpec (Jvm.Cond.code x code maxLocals ret :: tables_1) room_1).applies x e0.platform about1 = true :=
  (Spec.applies_iff w_frames).mpr ⟨w_running, w_runnable, w_alone, w_named, w_hears, w_ripe, w_room, w_tables⟩
theorem atStart : AtStart classFile x code maxLocals ret World_1 tables_1 room_1 Calls_1 rest_1 Pre_1 launch0 p0 e0 about1 theMethod args0 below0 :=
  ⟨lists_1, trivial, launch0.admits_env _ _ _, launch0.least_env, fairChoices_fair.cas, fairChoices_fair.clock, w_frames, w_args, w_heap, w_applies, trivial, trivial, w_case⟩
end start1
theorem witness_1 : WitnessClaimed_1 := ⟨start1.p0, start1.e0, start1.about1, start1.theMethod, start1.args0, start1.below0, start1.atStart⟩
end Jvm.Pilot.@@N@@
