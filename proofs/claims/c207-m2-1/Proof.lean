import JvmDerived
import JvmDerived.Pilot.@@N@@Statement
import JvmDerived.Pilot.@@N@@Code
set_option linter.unusedVariables false
set_option linter.unusedSimpArgs false
namespace Jvm.RoadKit
open Sem ClassFile Op Lib Jvm.Stand Jvm.Free Jvm.LawKit
section New
variable {p : Program} {l : Launch} {e : Env} {R : Room} {s : State} {m : MethodId} {args : Array Value} {below : List Frame} {meth : Method} {c : Code} {T : State} {locs : List Loc} {cells slots : Nat}
theorem own_retI (X : Stand p l e R s m args below meth c T locs cells slots) (hx : p.tables.exec = Jvm.exec) {pc : Nat} {Ls : Array Slot} {z : Int32} {rest : List Value} (hret : meth.sig.returnType = some .int) (hd : decode c.code pc = .ok (.ireturn, 1)) {fs : List Frame}
    (hl : ∀ (f : JFrame) (acts : List Action), f.method = m → f.locked = none → f.entered = [] → (doReturn e (T.setTop f) acts (some (.int z))).1 = T.setFrames fs) : Steps p.tables e below (T.setTop (mkF m pc Ls (.int z :: rest))) (T.setFrames fs) :=
  retOut X hx hret rfl (Or.inl ⟨rfl, Or.inl rfl, z, rfl⟩) hd hl
theorem own_retL (X : Stand p l e R s m args below meth c T locs cells slots) (hx : p.tables.exec = Jvm.exec) {pc : Nat} {Ls : Array Slot} {z : Int64} {rest : List Value} (hret : meth.sig.returnType = some .long) (hd : decode c.code pc = .ok (.lreturn, 1)) {fs : List Frame}
    (hl : ∀ (f : JFrame) (acts : List Action), f.method = m → f.locked = none → f.entered = [] → (doReturn e (T.setTop f) acts (some (.long z))).1 = T.setFrames fs) : Steps p.tables e below (T.setTop (mkF m pc Ls (.long z :: rest))) (T.setFrames fs) :=
  retOut X hx hret rfl (Or.inr (Or.inl ⟨rfl, rfl, z, rfl⟩)) hd hl
theorem own_retA (X : Stand p l e R s m args below meth c T locs cells slots) (hx : p.tables.exec = Jvm.exec) {pc : Nat} {Ls : Array Slot} {w : Value} {t : FieldType} {rest : List Value} (hret : meth.sig.returnType = some t) (ht : t.isReference = true) (hw : w.isRef = true) (hd : decode c.code pc = .ok (.areturn, 1)) {fs : List Frame}
    (hl : ∀ (f : JFrame) (acts : List Action), f.method = m → f.locked = none → f.entered = [] → (doReturn e (T.setTop f) acts (some w)).1 = T.setFrames fs) : Steps p.tables e below (T.setTop (mkF m pc Ls (w :: rest))) (T.setFrames fs) :=
  retOut X hx hret (by cases t <;> cases w <;> simp_all [narrow, Value.isRef, FieldType.isReference]) (Or.inr (Or.inr (Or.inr (Or.inr ⟨rfl, ht, hw⟩)))) hd hl
end New
end Jvm.RoadKit
namespace Jvm.Pilot.@@N@@
open Jvm Jvm.ClassFile Sem Op Lib Jvm.Free Jvm.Stand Jvm.LawKit Jvm.RoadKit Bundle Jvm.Pilot.@@N@@.Jvm.D
theorem own_lcEt {x y : Int64} (h : x = y) : lcmpW x y = (0 : Int32) := by rw [lcW]; exact (lc_eq x y).mpr h
theorem own_lcEf {x y : Int64} (h : ¬ (x = y)) : ¬ (lcmpW x y = (0 : Int32)) := by rw [lcW]; exact fun q => h ((lc_eq x y).mp q)
theorem own_lcLt {x y : Int64} (h : x < y) : lcmpW x y < (0 : Int32) := by rw [lcW]; exact (lc_lt x y).mpr h
theorem own_lcLf {x y : Int64} (h : ¬ (x < y)) : ¬ (lcmpW x y < (0 : Int32)) := by rw [lcW]; exact fun q => h ((lc_lt x y).mp q)
theorem own_lcGt {x y : Int64} (h : y < x) : (0 : Int32) < lcmpW x y := by rw [lcW]; exact (lc_gt x y).mpr h
theorem own_lcGf {x y : Int64} (h : ¬ (y < x)) : ¬ ((0 : Int32) < lcmpW x y) := by rw [lcW]; exact fun q => h ((lc_gt x y).mp q)
theorem own_ext_refl (h : Heap) : Ext h h := ⟨Nat.le_refl _, fun _ _ q => q⟩
theorem own_ext_trans {h h' h'' : Heap} (E : Ext h h') (F : Ext h' h'') : Ext h h'' := ⟨Nat.le_trans E.1 F.1, fun a c q => F.2 a c (E.2 a c q)⟩
theorem own_ext_wr {h h' h'' : Heap} {a : Addr} {sl : Nat} {v : Value} (E : Ext h h') (W : Wr h' h'' a sl v) (q : h.size ≤ a) : Ext h h'' := by
  obtain ⟨cell, -, -, -, rfl⟩ := W
  refine ⟨by simpa using E.1, fun b c r => ?_⟩
  have hb : b < h.size := (Array.getElem?_eq_some_iff.mp r).1
  rw [Array.getElem?_setIfInBounds_ne (Nat.ne_of_gt (Nat.lt_of_lt_of_le hb q))]
  exact E.2 b c r
theorem own_fldI {args : Array Value} {s : State} {t : Term} {a : Addr} {C n d : String} {k : Int32} (ev : t.eval args s none [] s = some (.ref a)) (h : (Cond.eq (.field t C n d) (.int k)).value args s none s [] = some true) : Fld s s.heap a C n d (.int k) := by
  obtain ⟨u, v, h1, h2, -, k2⟩ := cmp_v (Or.inl h)
  have e2 : (Term.int k).eval args s none [] s = some (.int k) := rfl
  cases e2.symm.trans h2
  obtain ⟨z, rfl⟩ := k2
  have q : z = k := by simpa [Cond.value, h1, e2] using h
  subst q
  exact Fld.start ((fld_at ev).symm.trans h1)
theorem own_fldJ {args : Array Value} {s : State} {t : Term} {a : Addr} {C n d : String} {k : Int64} (ev : t.eval args s none [] s = some (.ref a)) (h : (Cond.eq (.field t C n d) (.long k)).value args s none s [] = some true) : Fld s s.heap a C n d (.long k) := by
  obtain ⟨u, v, h1, h2, -, k2⟩ := cmp_v (Or.inl h)
  have e2 : (Term.long k).eval args s none [] s = some (.long k) := rfl
  cases e2.symm.trans h2
  obtain ⟨z, rfl⟩ := k2
  have q : z = k := by simpa [Cond.value, h1, e2] using h
  subst q
  exact Fld.start ((fld_at ev).symm.trans h1)
theorem own_fldN {args : Array Value} {s : State} {t : Term} {a : Addr} {C n d : String} (ev : t.eval args s none [] s = some (.ref a)) (h : (Cond.eq (.field t C n d) .null).value args s none s [] = some true) : Fld s s.heap a C n d .null :=
  Fld.start ((fld_at ev).symm.trans (null_v h))
theorem own_eqR {args : Array Value} {s : State} {t u : Term} {b : Addr} (eu : u.eval args s none [] s = some (.ref b)) (h : (Cond.eq t u).value args s none s [] = some true) : t.eval args s none [] s = some (.ref b) := by
  obtain ⟨x, y, h1, h2, k1, k2⟩ := cmp_v (Or.inl h)
  cases eu.symm.trans h2
  have hx : x.isRef = true := k2.2
  have q := gotT (eq_R h1 h2 hx rfl) h
  rw [h1, q]
theorem own_fldR {args : Array Value} {s : State} {t u : Term} {a b : Addr} {C n d : String} (ev : t.eval args s none [] s = some (.ref a)) (eu : u.eval args s none [] s = some (.ref b)) (h : (Cond.eq (.field t C n d) u).value args s none s [] = some true) : Fld s s.heap a C n d (.ref b) :=
  Fld.start ((fld_at ev).symm.trans (own_eqR eu h))
theorem own_elI {args : Array Value} {s : State} {t : Term} {a : Addr} {cl : Cell} {j k : Int32} {i : Nat} (ev : t.eval args s none [] s = some (.ref a)) (hc : s.heap[a]? = some cl) (h : (Cond.eq (.elem t (.int j)) (.int k)).value args s none s [] = some true) (hj : j.toNatClampNeg = i) : cl.slots[i]? = some (.int k) := by
  obtain ⟨u, v, h1, h2, -, k2⟩ := cmp_v (Or.inl h)
  have e2 : (Term.int k).eval args s none [] s = some (.int k) := rfl
  cases e2.symm.trans h2
  obtain ⟨z, rfl⟩ := k2
  have q : z = k := by simpa [Cond.value, h1, e2] using h
  subst q hj
  exact (elem_in h1 ev (rfl : (Term.int j).eval args s none [] s = some (.int j)) hc).2
theorem own_elR {args : Array Value} {s : State} {t u : Term} {a b : Addr} {cl : Cell} {j : Int32} {i : Nat} (ev : t.eval args s none [] s = some (.ref a)) (eu : u.eval args s none [] s = some (.ref b)) (hc : s.heap[a]? = some cl) (h : (Cond.eq (.elem t (.int j)) u).value args s none s [] = some true) (hj : j.toNatClampNeg = i) : cl.slots[i]? = some (.ref b) := by
  subst hj
  exact (elem_in (own_eqR eu h) ev (rfl : (Term.int j).eval args s none [] s = some (.int j)) hc).2
theorem own_len {args : Array Value} {s : State} {t : Term} {a : Addr} {cl : Cell} {ty : FieldType} {k : Int32} (ev : t.eval args s none [] s = some (.ref a)) (A : Arr s s.heap a cl ty) (h : (Cond.eq (.length t) (.int k)).value args s none s [] = some true) : cl.slots.size < 2 ^ 31 ∧ cl.slots.size.toInt32 = k := by
  obtain ⟨u, v, h1, h2, -, k2⟩ := cmp_v (Or.inl h)
  have e2 : (Term.int k).eval args s none [] s = some (.int k) := rfl
  cases e2.symm.trans h2
  obtain ⟨z, rfl⟩ := k2
  have q : z = k := by simpa [Cond.value, h1, e2] using h
  subst q
  have ha := A.fin (Vm.Alike.refl _)
  simp only [Term.eval, ev, ha, Option.bind_eq_bind, Option.bind_some] at h1
  split at h1
  · rename_i q
    exact ⟨q, by simpa using h1⟩
  · cases h1
theorem own_mask (p : Int32) : (p &&& (2147483647 : Int32)).toInt = p.toInt % 2 ^ 31 := by
  have h1 : (p &&& (2147483647 : Int32)).toInt = ((p &&& (2147483647 : Int32)).toBitVec).toInt := rfl
  have h2 : (p &&& (2147483647 : Int32)).toBitVec = p.toBitVec &&& 2147483647#32 := by simp [Int32.toBitVec_and]
  have h3 : p.toInt = p.toBitVec.toInt := rfl
  rw [h1, h2, h3, BitVec.toInt_eq_toNat_bmod, BitVec.toInt_eq_toNat_bmod, BitVec.toNat_and]
  have h4 : p.toBitVec.toNat &&& (2147483647#32).toNat = p.toBitVec.toNat % 2 ^ 31 := Nat.and_two_pow_sub_one_eq_mod _ 31
  rw [h4]
  have h5 := p.toBitVec.isLt
  generalize p.toBitVec.toNat = n at *
  simp only [Int.bmod_def]
  omega
theorem own_cases3 {z p : Int32} (h : z = (p &&& (2147483647 : Int32)) % (3 : Int32)) : z = (0 : Int32) ∨ z = (1 : Int32) ∨ z = (2 : Int32) := by
  have e1 : (p &&& (2147483647 : Int32)).toInt = p.toInt % 2 ^ 31 := own_mask p
  have e2 : z.toInt = (p.toInt % 2 ^ 31) % 3 := by
    rw [h, Int32.toInt_mod, e1, show (3 : Int32).toInt = 3 from by decide, Int.tmod_eq_emod_of_nonneg (Int.emod_nonneg _ (by decide))]
  have e3 : 0 ≤ z.toInt ∧ z.toInt < 3 := by rw [e2]; exact ⟨Int.emod_nonneg _ (by decide), Int.emod_lt_of_pos _ (by decide)⟩
  have k : ∀ {c : Int32} {k : Int}, c.toInt = k → z.toInt = k → z = c := fun h1 h2 => Int32.toInt_inj.mp (h2.trans h1.symm)
  have e4 : z.toInt = 0 ∨ z.toInt = 1 ∨ z.toInt = 2 := by omega
  rcases e4 with e | e | e
  · exact Or.inl (k (by decide) e)
  · exact Or.inr (Or.inl (k (by decide) e))
  · exact Or.inr (Or.inr ((k (by decide) e)))
def World (Z : State) (h : Heap) (wFALSE : Addr) (wUNKNOWN : Addr) (wTRUE : Addr) : Prop := Sta Z h "com/example/turtlehead/turtlehead/Truth" "FALSE" "Lcom/example/turtlehead/turtlehead/Truth;" (.ref wFALSE) ∧ Exa Z h wFALSE "com/example/turtlehead/turtlehead/Truth" ∧ Sta Z h "com/example/turtlehead/turtlehead/Truth" "UNKNOWN" "Lcom/example/turtlehead/turtlehead/Truth;" (.ref wUNKNOWN) ∧ Exa Z h wUNKNOWN "com/example/turtlehead/turtlehead/Truth" ∧ Sta Z h "com/example/turtlehead/turtlehead/Truth" "TRUE" "Lcom/example/turtlehead/turtlehead/Truth;" (.ref wTRUE) ∧ Exa Z h wTRUE "com/example/turtlehead/turtlehead/Truth" ∧ Fld Z h wFALSE "java/lang/Enum" "ordinal" "I" (.int (1 : Int32)) ∧ Fld Z h wTRUE "java/lang/Enum" "ordinal" "I" (.int (0 : Int32)) ∧ Fld Z h wUNKNOWN "java/lang/Enum" "ordinal" "I" (.int (2 : Int32)) ∧ True
theorem World.ext {Z : State} {h h' : Heap} {wFALSE : Addr} {wUNKNOWN : Addr} {wTRUE : Addr} (W : World Z h wFALSE wUNKNOWN wTRUE) (E : Ext h h') : World Z h' wFALSE wUNKNOWN wTRUE := by
  obtain ⟨SFALSE, EFALSE, SUNKNOWN, EUNKNOWN, STRUE, ETRUE, FFALSE_ordinal, FTRUE_ordinal, FUNKNOWN_ordinal, -⟩ := W
  exact ⟨SFALSE.ext E, EFALSE.ext E, SUNKNOWN.ext E, EUNKNOWN.ext E, STRUE.ext E, ETRUE.ext E, FFALSE_ordinal.ext E, FTRUE_ordinal.ext E, FUNKNOWN_ordinal.ext E, trivial⟩
theorem d1_0 : decode jdk_29_method_65_code 0 = .ok (.iload_n 0, 1) := by decide +kernel
theorem d1_1 : decode jdk_29_method_65_code 1 = .ok (.iload_n 1, 1) := by decide +kernel
theorem d1_2 : decode jdk_29_method_65_code 2 = .ok (.if_icmp .lt 7, 3) := by decide +kernel
theorem d1_9 : decode jdk_29_method_65_code 9 = .ok (.iload_n 1, 1) := by decide +kernel
theorem d1_10 : decode jdk_29_method_65_code 10 = .ok (.ireturn, 1) := by decide +kernel
theorem d1_5 : decode jdk_29_method_65_code 5 = .ok (.iload_n 0, 1) := by decide +kernel
theorem d1_6 : decode jdk_29_method_65_code 6 = .ok (.goto 4, 3) := by decide +kernel
def f1 (p0 : Int32) (p1 : Int32) : Int32 := if p0 < p1 then p1 else p0
theorem ef_1 (m : MethodId) (p0 : Int32) (p1 : Int32) : entryFrame m #[(.int p0), (.int p1)] 2 = mkF m 0 #[.val (.int p0), .val (.int p1)] [] := by first | (simp [entryFrame, mkF, argsToLocals, Value.category]; done) | rfl
def Q1 (Z : State) (p0 : Int32) (p1 : Int32) (h0 : Heap) (n0 : Nat) (v : Option Value) (h : Heap) (L : List Loc) : Prop := v = some (.int (f1 p0 p1)) ∧ Fr n0 L ∧ h = h0
set_option maxRecDepth 65536 in
set_option maxHeartbeats 40000000 in
theorem rm1 (l : Launch) (Z : State) (a0 : Array Value) (hw : ∀ d ∈ tables_1, d.before a0 Z = true) (ws : List Jvm.Cond) (p0 : Int32) (p1 : Int32) (h0 : Heap) (n0 : Nat) (Z0 : n0 ≤ h0.size) :
    MetFree l (⟨"java/lang/Math", "max", "(II)I"⟩ : MethodName) (head1 (Jvm.Cond.code (⟨"java/lang/Math", "max", "(II)I"⟩ : MethodName) jdk_29_method_65_code 2 (some .int) :: ws) ({ frames := 0, cells := 0, slots := 0, locals := 0 } : Room)) (fun a U => a = #[(.int p0), (.int p1)] ∧ Z.Warmed39 U.vm ∧ U.heap = h0) (fun _ _ _ _ _ => True) (fun _ U o U' => ∃ v L, o = .returned v ∧ Q1 Z p0 p1 h0 n0 v U'.heap L ∧ FrameEnd U o U' L ({ frames := 0, cells := 0, slots := 0, locals := 0 } : Room).cells ({ frames := 0, cells := 0, slots := 0, locals := 0 } : Room).slots) := by
  refine MetFree.of_bodySF (Jvm.Free.JP.mathPlain rfl (by decide +kernel)) hisR ?_
  intro p e s m args below meth c s₁ Bd hml0 hP hK
  obtain ⟨rfl, hZ, hh⟩ := hP
  have hx := Bd.exec
  have hby := Bd.bytes
  have hml : c.maxLocals = 2 := hml0
  have hown : s.vm.findClass "java/lang/Math" = some m.cls := findClass_of_methodNamed Bd.named
  have X0 : Stand p l e ({ frames := 0, cells := 0, slots := 0, locals := 0 } : Room) s m #[(.int p0), (.int p1)] below meth c s₁ [] 0 0 := Stand.of_body Bd
  have e0 : s₁.heap = h0 := by rw [← hh, Bd.state]; rfl
  have N0 := Fr.nil n0
  have pre0 : ∀ t, Steps p.tables e below (s₁.setTop (mkF m 0 #[.val (.int p0), .val (.int p1)] [])) t → Steps p.tables e below (s₁.setTop (entryFrame m #[(.int p0), (.int p1)] 2)) t := fun t k => castTop (ef_1 m p0 p1) k
  have k1 : ∀ t, Steps p.tables e below (s₁.setTop (mkF m 2 #[.val (.int p0), .val (.int p1)] [(.int p1), (.int p0)])) t → Steps p.tables e below (s₁.setTop (entryFrame m #[(.int p0), (.int p1)] 2)) t := fun t kt => pre0 t (by
    show Steps p.tables e below (s₁.setTop (mkF m 0 #[.val (.int p0), .val (.int p1)] [])) _
    refine XS.iloadN X0.here hx rfl (hb hby d1_0) rfl ?_
    show Steps p.tables e below (s₁.setTop (mkF m 1 #[.val (.int p0), .val (.int p1)] [(.int p0)])) _
    refine XS.iloadN X0.here hx rfl (hb hby d1_1) rfl ?_
    exact kt)
  by_cases hc2 : p0 < p1
  · obtain ⟨fs, hr, hrun, hended, hW, hsame⟩ := X0.leave (v := some (.int p1)) (fun h => by rw [Bd.returns] at h; cases h)
    refine ⟨_, _, k1 _ ?_, hrun, hended, _, _, rfl, ?_, ⟨_, rfl⟩, hW, hsame.mono (by decide) (by decide)⟩
    · show Steps p.tables e below (s₁.setTop (mkF m 2 #[.val (.int p0), .val (.int p1)] [(.int p1), (.int p0)])) _
      refine XS.icmpYes X0.here hx rfl (pc0 := 2) (pc' := 9) rfl (hb hby d1_2) rfl (tlt (hc2 : p0 < p1)).1 (by decide) (by decide) ?_
      show Steps p.tables e below (s₁.setTop (mkF m 9 #[.val (.int p0), .val (.int p1)] [])) _
      refine XS.iloadN X0.here hx rfl (hb hby d1_9) rfl ?_
      show Steps p.tables e below (s₁.setTop (mkF m 10 #[.val (.int p0), .val (.int p1)] [(.int p1)])) _
      exact own_retI X0 hx Bd.returns (hb hby d1_10) hr
    · show Q1 Z p0 p1 h0 n0 _ s₁.heap _
      rw [e0]
      exact ⟨by rw [f1, if_pos hc2], N0, rfl⟩
  · obtain ⟨fs, hr, hrun, hended, hW, hsame⟩ := X0.leave (v := some (.int p0)) (fun h => by rw [Bd.returns] at h; cases h)
    refine ⟨_, _, k1 _ ?_, hrun, hended, _, _, rfl, ?_, ⟨_, rfl⟩, hW, hsame.mono (by decide) (by decide)⟩
    · show Steps p.tables e below (s₁.setTop (mkF m 2 #[.val (.int p0), .val (.int p1)] [(.int p1), (.int p0)])) _
      refine XS.icmpNo X0.here hx rfl (hb hby d1_2) rfl (flt (hc2 : ¬ (p0 < p1))).1 ?_
      show Steps p.tables e below (s₁.setTop (mkF m 5 #[.val (.int p0), .val (.int p1)] [])) _
      refine XS.iloadN X0.here hx rfl (hb hby d1_5) rfl ?_
      show Steps p.tables e below (s₁.setTop (mkF m 6 #[.val (.int p0), .val (.int p1)] [(.int p0)])) _
      refine XS.goto X0.here hx rfl (pc0 := 6) (pc' := 10) rfl (hb hby d1_6) (by decide) (by decide) ?_
      show Steps p.tables e below (s₁.setTop (mkF m 10 #[.val (.int p0), .val (.int p1)] [(.int p0)])) _
      exact own_retI X0 hx Bd.returns (hb hby d1_10) hr
    · show Q1 Z p0 p1 h0 n0 _ s₁.heap _
      rw [e0]
      exact ⟨by rw [f1, if_neg hc2], N0, rfl⟩
theorem d2_0 : decode prog_105_method_7_code 0 = .ok (.getstatic 7, 3) := by decide +kernel
theorem d2_3 : decode prog_105_method_7_code 3 = .ok (.astore_n 2, 1) := by decide +kernel
theorem d2_4 : decode prog_105_method_7_code 4 = .ok (.aload_n 0, 1) := by decide +kernel
theorem d2_5 : decode prog_105_method_7_code 5 = .ok (.getstatic 3, 3) := by decide +kernel
theorem d2_8 : decode prog_105_method_7_code 8 = .ok (.if_acmp .eq 10, 3) := by decide +kernel
theorem d2_18 : decode prog_105_method_7_code 18 = .ok (.getstatic 3, 3) := by decide +kernel
theorem d2_21 : decode prog_105_method_7_code 21 = .ok (.astore_n 2, 1) := by decide +kernel
theorem d2_22 : decode prog_105_method_7_code 22 = .ok (.goto 21, 3) := by decide +kernel
theorem d2_43 : decode prog_105_method_7_code 43 = .ok (.aload_n 2, 1) := by decide +kernel
theorem d2_44 : decode prog_105_method_7_code 44 = .ok (.areturn, 1) := by decide +kernel
theorem d2_11 : decode prog_105_method_7_code 11 = .ok (.aload_n 1, 1) := by decide +kernel
theorem d2_12 : decode prog_105_method_7_code 12 = .ok (.getstatic 3, 3) := by decide +kernel
theorem d2_15 : decode prog_105_method_7_code 15 = .ok (.if_acmp .ne 10, 3) := by decide +kernel
theorem d2_25 : decode prog_105_method_7_code 25 = .ok (.aload_n 0, 1) := by decide +kernel
theorem d2_26 : decode prog_105_method_7_code 26 = .ok (.getstatic 10, 3) := by decide +kernel
theorem d2_29 : decode prog_105_method_7_code 29 = .ok (.if_acmp .eq 10, 3) := by decide +kernel
theorem d2_39 : decode prog_105_method_7_code 39 = .ok (.getstatic 10, 3) := by decide +kernel
theorem d2_42 : decode prog_105_method_7_code 42 = .ok (.astore_n 2, 1) := by decide +kernel
theorem d2_32 : decode prog_105_method_7_code 32 = .ok (.aload_n 1, 1) := by decide +kernel
theorem d2_33 : decode prog_105_method_7_code 33 = .ok (.getstatic 10, 3) := by decide +kernel
theorem d2_36 : decode prog_105_method_7_code 36 = .ok (.if_acmp .ne 7, 3) := by decide +kernel
theorem pn_0 : plainName "com/example/turtlehead/turtlehead/Truth" = true := by first | (simp [plainName, overriddenIn]; done) | decide +kernel
def f2 (p0 : Addr) (p1 : Addr) (wFALSE : Addr) (wUNKNOWN : Addr) (wTRUE : Addr) : Addr := if p0 = wTRUE then wTRUE else if p1 = wTRUE then wTRUE else if p0 = wUNKNOWN then wUNKNOWN else if p1 = wUNKNOWN then wUNKNOWN else wFALSE
theorem ef_2 (m : MethodId) (p0 : Addr) (p1 : Addr) : entryFrame m #[(.ref p0), (.ref p1)] 3 = mkF m 0 #[.val (.ref p0), .val (.ref p1), .unset] [] := by first | (simp [entryFrame, mkF, argsToLocals, Value.category]; done) | rfl
def Q2 (Z : State) (p0 : Addr) (p1 : Addr) (wFALSE : Addr) (wUNKNOWN : Addr) (wTRUE : Addr) (h0 : Heap) (n0 : Nat) (v : Option Value) (h : Heap) (L : List Loc) : Prop := v = some (.ref (f2 p0 p1 wFALSE wUNKNOWN wTRUE)) ∧ Fr n0 L ∧ h = h0
set_option maxRecDepth 65536 in
set_option maxHeartbeats 40000000 in
theorem rm2 (l : Launch) (Z : State) (a0 : Array Value) (hw : ∀ d ∈ tables_1, d.before a0 Z = true) (ws : List Jvm.Cond) (p0 : Addr) (p1 : Addr) (wFALSE : Addr) (wUNKNOWN : Addr) (wTRUE : Addr) (h0 : Heap) (n0 : Nat) (Z0 : n0 ≤ h0.size) (W0 : World Z h0 wFALSE wUNKNOWN wTRUE) :
    MetFree l (⟨"com/example/turtlehead/turtlehead/Truth", "or", "(Lcom/example/turtlehead/turtlehead/Truth;)Lcom/example/turtlehead/turtlehead/Truth;"⟩ : MethodName) (head1 (Jvm.Cond.code (⟨"com/example/turtlehead/turtlehead/Truth", "or", "(Lcom/example/turtlehead/turtlehead/Truth;)Lcom/example/turtlehead/turtlehead/Truth;"⟩ : MethodName) prog_105_method_7_code 3 (some (.object "com/example/turtlehead/turtlehead/Truth")) :: ws) ({ frames := 0, cells := 0, slots := 0, locals := 0 } : Room)) (fun a U => a = #[(.ref p0), (.ref p1)] ∧ Z.Warmed39 U.vm ∧ U.heap = h0) (fun _ _ _ _ _ => True) (fun _ U o U' => ∃ v L, o = .returned v ∧ Q2 Z p0 p1 wFALSE wUNKNOWN wTRUE h0 n0 v U'.heap L ∧ FrameEnd U o U' L ({ frames := 0, cells := 0, slots := 0, locals := 0 } : Room).cells ({ frames := 0, cells := 0, slots := 0, locals := 0 } : Room).slots) := by
  refine MetFree.of_bodySF (plainFor_of_name pn_0) hisR ?_
  intro p e s m args below meth c s₁ Bd hml0 hP hK
  obtain ⟨rfl, hZ, hh⟩ := hP
  have hx := Bd.exec
  have hby := Bd.bytes
  have hml : c.maxLocals = 3 := hml0
  have hown : s.vm.findClass "com/example/turtlehead/turtlehead/Truth" = some m.cls := findClass_of_methodNamed Bd.named
  have X0 : Stand p l e ({ frames := 0, cells := 0, slots := 0, locals := 0 } : Room) s m #[(.ref p0), (.ref p1)] below meth c s₁ [] 0 0 := Stand.of_body Bd
  have e0 : s₁.heap = h0 := by rw [← hh, Bd.state]; rfl
  have N0 := Fr.nil n0
  have W1 := W0
  obtain ⟨SFALSE, EFALSE, SUNKNOWN, EUNKNOWN, STRUE, ETRUE, FFALSE_ordinal, FTRUE_ordinal, FUNKNOWN_ordinal, -⟩ := W1
  have pre0 : ∀ t, Steps p.tables e below (s₁.setTop (mkF m 0 #[.val (.ref p0), .val (.ref p1), .unset] [])) t → Steps p.tables e below (s₁.setTop (entryFrame m #[(.ref p0), (.ref p1)] 3)) t := fun t k => castTop (ef_2 m p0 p1) k
  obtain ⟨T3, X3, e3, st3⟩ := getS2 X0 hx hZ hown (host := "") (Or.inl (hw _ (List.mem_of_getElem? (i := 16) rfl))) Via.refl e0 SFALSE (g := (mkF m 0 #[.val (.ref p0), .val (.ref p1), .unset] [])) rfl (hb hby d2_0)
  obtain ⟨T4, X4, e4, st4⟩ := getS2 X3 hx hZ hown (host := "") (Or.inl (hw _ (List.mem_of_getElem? (i := 17) rfl))) Via.refl e3 STRUE (g := (mkF m 5 #[.val (.ref p0), .val (.ref p1), .val (.ref wFALSE)] [(.ref p0)])) rfl (hb hby d2_5)
  have k5 : ∀ t, Steps p.tables e below (T4.setTop (mkF m 8 #[.val (.ref p0), .val (.ref p1), .val (.ref wFALSE)] [(.ref wTRUE), (.ref p0)])) t → Steps p.tables e below (s₁.setTop (entryFrame m #[(.ref p0), (.ref p1)] 3)) t := fun t kt => pre0 t (by
    show Steps p.tables e below (s₁.setTop (mkF m 0 #[.val (.ref p0), .val (.ref p1), .unset] [])) _
    refine st3 _ ?_
    show Steps p.tables e below (T3.setTop (mkF m 3 #[.val (.ref p0), .val (.ref p1), .unset] [(.ref wFALSE)])) _
    refine XS.astoreN X3.here hx rfl (hb hby d2_3) rfl rfl (l' := #[.val (.ref p0), .val (.ref p1), .val (.ref wFALSE)]) rfl ?_
    show Steps p.tables e below (T3.setTop (mkF m 4 #[.val (.ref p0), .val (.ref p1), .val (.ref wFALSE)] [])) _
    refine XS.aloadN X3.here hx rfl (hb hby d2_4) rfl rfl ?_
    show Steps p.tables e below (T3.setTop (mkF m 5 #[.val (.ref p0), .val (.ref p1), .val (.ref wFALSE)] [(.ref p0)])) _
    refine st4 _ ?_
    exact kt)
  by_cases hc6 : p0 = wTRUE
  · obtain ⟨T7, X7, e7, st7⟩ := getS2 X4 hx hZ hown (host := "") (Or.inl (hw _ (List.mem_of_getElem? (i := 17) rfl))) Via.refl e4 STRUE (g := (mkF m 18 #[.val (.ref p0), .val (.ref p1), .val (.ref wFALSE)] [])) rfl (hb hby d2_18)
    obtain ⟨fs, hr, hrun, hended, hW, hsame⟩ := X7.leave (v := some (.ref wTRUE)) (fun h => by rw [Bd.returns] at h; cases h)
    refine ⟨_, _, k5 _ ?_, hrun, hended, _, _, rfl, ?_, ⟨_, rfl⟩, hW, hsame.mono (by decide) (by decide)⟩
    · show Steps p.tables e below (T4.setTop (mkF m 8 #[.val (.ref p0), .val (.ref p1), .val (.ref wFALSE)] [(.ref wTRUE), (.ref p0)])) _
      refine Jvm.RoadKit.acmp (g := (mkF m 8 #[.val (.ref p0), .val (.ref p1), .val (.ref wFALSE)] [(.ref wTRUE), (.ref p0)])) X4 hx rfl rfl rfl (pc0 := 8) (pc' := 18) (same := true) rfl (hb hby d2_8) rfl (decide_eq_true (congrArg Value.ref (hc6 : p0 = wTRUE))) (by decide) (by decide) ?_
      show Steps p.tables e below (T4.setTop (mkF m 18 #[.val (.ref p0), .val (.ref p1), .val (.ref wFALSE)] [])) _
      refine st7 _ ?_
      show Steps p.tables e below (T7.setTop (mkF m 21 #[.val (.ref p0), .val (.ref p1), .val (.ref wFALSE)] [(.ref wTRUE)])) _
      refine XS.astoreN X7.here hx rfl (hb hby d2_21) rfl rfl (l' := #[.val (.ref p0), .val (.ref p1), .val (.ref wTRUE)]) rfl ?_
      show Steps p.tables e below (T7.setTop (mkF m 22 #[.val (.ref p0), .val (.ref p1), .val (.ref wTRUE)] [])) _
      refine XS.goto X7.here hx rfl (pc0 := 22) (pc' := 43) rfl (hb hby d2_22) (by decide) (by decide) ?_
      show Steps p.tables e below (T7.setTop (mkF m 43 #[.val (.ref p0), .val (.ref p1), .val (.ref wTRUE)] [])) _
      refine XS.aloadN X7.here hx rfl (hb hby d2_43) rfl rfl ?_
      show Steps p.tables e below (T7.setTop (mkF m 44 #[.val (.ref p0), .val (.ref p1), .val (.ref wTRUE)] [(.ref wTRUE)])) _
      exact own_retA X7 hx Bd.returns rfl rfl (hb hby d2_44) hr
    · show Q2 Z p0 p1 wFALSE wUNKNOWN wTRUE h0 n0 _ T7.heap _
      rw [e7]
      exact ⟨by rw [f2, if_pos hc6], N0, rfl⟩
  · obtain ⟨T8, X8, e8, st8⟩ := getS2 X4 hx hZ hown (host := "") (Or.inl (hw _ (List.mem_of_getElem? (i := 17) rfl))) Via.refl e4 STRUE (g := (mkF m 12 #[.val (.ref p0), .val (.ref p1), .val (.ref wFALSE)] [(.ref p1)])) rfl (hb hby d2_12)
    have k9 : ∀ t, Steps p.tables e below (T8.setTop (mkF m 15 #[.val (.ref p0), .val (.ref p1), .val (.ref wFALSE)] [(.ref wTRUE), (.ref p1)])) t → Steps p.tables e below (s₁.setTop (entryFrame m #[(.ref p0), (.ref p1)] 3)) t := fun t kt => k5 t (by
      show Steps p.tables e below (T4.setTop (mkF m 8 #[.val (.ref p0), .val (.ref p1), .val (.ref wFALSE)] [(.ref wTRUE), (.ref p0)])) _
      refine Jvm.RoadKit.acmp (g := (mkF m 8 #[.val (.ref p0), .val (.ref p1), .val (.ref wFALSE)] [(.ref wTRUE), (.ref p0)])) X4 hx rfl rfl rfl (pc0 := 8) (pc' := 11) (same := false) rfl (hb hby d2_8) rfl (decide_eq_false fun q => (hc6 : ¬ (p0 = wTRUE)) (Value.ref.inj q)) (by decide) (by decide) ?_
      show Steps p.tables e below (T4.setTop (mkF m 11 #[.val (.ref p0), .val (.ref p1), .val (.ref wFALSE)] [])) _
      refine XS.aloadN X4.here hx rfl (hb hby d2_11) rfl rfl ?_
      show Steps p.tables e below (T4.setTop (mkF m 12 #[.val (.ref p0), .val (.ref p1), .val (.ref wFALSE)] [(.ref p1)])) _
      refine st8 _ ?_
      exact kt)
    by_cases hc10 : p1 = wTRUE
    · obtain ⟨T11, X11, e11, st11⟩ := getS2 X8 hx hZ hown (host := "") (Or.inl (hw _ (List.mem_of_getElem? (i := 17) rfl))) Via.refl e8 STRUE (g := (mkF m 18 #[.val (.ref p0), .val (.ref p1), .val (.ref wFALSE)] [])) rfl (hb hby d2_18)
      obtain ⟨fs, hr, hrun, hended, hW, hsame⟩ := X11.leave (v := some (.ref wTRUE)) (fun h => by rw [Bd.returns] at h; cases h)
      refine ⟨_, _, k9 _ ?_, hrun, hended, _, _, rfl, ?_, ⟨_, rfl⟩, hW, hsame.mono (by decide) (by decide)⟩
      · show Steps p.tables e below (T8.setTop (mkF m 15 #[.val (.ref p0), .val (.ref p1), .val (.ref wFALSE)] [(.ref wTRUE), (.ref p1)])) _
        refine Jvm.RoadKit.acmp (g := (mkF m 15 #[.val (.ref p0), .val (.ref p1), .val (.ref wFALSE)] [(.ref wTRUE), (.ref p1)])) X8 hx rfl rfl rfl (pc0 := 15) (pc' := 18) (same := true) rfl (hb hby d2_15) rfl (decide_eq_true (congrArg Value.ref (hc10 : p1 = wTRUE))) (by decide) (by decide) ?_
        show Steps p.tables e below (T8.setTop (mkF m 18 #[.val (.ref p0), .val (.ref p1), .val (.ref wFALSE)] [])) _
        refine st11 _ ?_
        show Steps p.tables e below (T11.setTop (mkF m 21 #[.val (.ref p0), .val (.ref p1), .val (.ref wFALSE)] [(.ref wTRUE)])) _
        refine XS.astoreN X11.here hx rfl (hb hby d2_21) rfl rfl (l' := #[.val (.ref p0), .val (.ref p1), .val (.ref wTRUE)]) rfl ?_
        show Steps p.tables e below (T11.setTop (mkF m 22 #[.val (.ref p0), .val (.ref p1), .val (.ref wTRUE)] [])) _
        refine XS.goto X11.here hx rfl (pc0 := 22) (pc' := 43) rfl (hb hby d2_22) (by decide) (by decide) ?_
        show Steps p.tables e below (T11.setTop (mkF m 43 #[.val (.ref p0), .val (.ref p1), .val (.ref wTRUE)] [])) _
        refine XS.aloadN X11.here hx rfl (hb hby d2_43) rfl rfl ?_
        show Steps p.tables e below (T11.setTop (mkF m 44 #[.val (.ref p0), .val (.ref p1), .val (.ref wTRUE)] [(.ref wTRUE)])) _
        exact own_retA X11 hx Bd.returns rfl rfl (hb hby d2_44) hr
      · show Q2 Z p0 p1 wFALSE wUNKNOWN wTRUE h0 n0 _ T11.heap _
        rw [e11]
        exact ⟨by rw [f2, if_neg hc6, if_pos hc10], N0, rfl⟩
    · obtain ⟨T12, X12, e12, st12⟩ := getS2 X8 hx hZ hown (host := "") (Or.inl (hw _ (List.mem_of_getElem? (i := 18) rfl))) Via.refl e8 SUNKNOWN (g := (mkF m 26 #[.val (.ref p0), .val (.ref p1), .val (.ref wFALSE)] [(.ref p0)])) rfl (hb hby d2_26)
      have k13 : ∀ t, Steps p.tables e below (T12.setTop (mkF m 29 #[.val (.ref p0), .val (.ref p1), .val (.ref wFALSE)] [(.ref wUNKNOWN), (.ref p0)])) t → Steps p.tables e below (s₁.setTop (entryFrame m #[(.ref p0), (.ref p1)] 3)) t := fun t kt => k9 t (by
        show Steps p.tables e below (T8.setTop (mkF m 15 #[.val (.ref p0), .val (.ref p1), .val (.ref wFALSE)] [(.ref wTRUE), (.ref p1)])) _
        refine Jvm.RoadKit.acmp (g := (mkF m 15 #[.val (.ref p0), .val (.ref p1), .val (.ref wFALSE)] [(.ref wTRUE), (.ref p1)])) X8 hx rfl rfl rfl (pc0 := 15) (pc' := 25) (same := false) rfl (hb hby d2_15) rfl (decide_eq_false fun q => (hc10 : ¬ (p1 = wTRUE)) (Value.ref.inj q)) (by decide) (by decide) ?_
        show Steps p.tables e below (T8.setTop (mkF m 25 #[.val (.ref p0), .val (.ref p1), .val (.ref wFALSE)] [])) _
        refine XS.aloadN X8.here hx rfl (hb hby d2_25) rfl rfl ?_
        show Steps p.tables e below (T8.setTop (mkF m 26 #[.val (.ref p0), .val (.ref p1), .val (.ref wFALSE)] [(.ref p0)])) _
        refine st12 _ ?_
        exact kt)
      by_cases hc14 : p0 = wUNKNOWN
      · obtain ⟨T15, X15, e15, st15⟩ := getS2 X12 hx hZ hown (host := "") (Or.inl (hw _ (List.mem_of_getElem? (i := 18) rfl))) Via.refl e12 SUNKNOWN (g := (mkF m 39 #[.val (.ref p0), .val (.ref p1), .val (.ref wFALSE)] [])) rfl (hb hby d2_39)
        obtain ⟨fs, hr, hrun, hended, hW, hsame⟩ := X15.leave (v := some (.ref wUNKNOWN)) (fun h => by rw [Bd.returns] at h; cases h)
        refine ⟨_, _, k13 _ ?_, hrun, hended, _, _, rfl, ?_, ⟨_, rfl⟩, hW, hsame.mono (by decide) (by decide)⟩
        · show Steps p.tables e below (T12.setTop (mkF m 29 #[.val (.ref p0), .val (.ref p1), .val (.ref wFALSE)] [(.ref wUNKNOWN), (.ref p0)])) _
          refine Jvm.RoadKit.acmp (g := (mkF m 29 #[.val (.ref p0), .val (.ref p1), .val (.ref wFALSE)] [(.ref wUNKNOWN), (.ref p0)])) X12 hx rfl rfl rfl (pc0 := 29) (pc' := 39) (same := true) rfl (hb hby d2_29) rfl (decide_eq_true (congrArg Value.ref (hc14 : p0 = wUNKNOWN))) (by decide) (by decide) ?_
          show Steps p.tables e below (T12.setTop (mkF m 39 #[.val (.ref p0), .val (.ref p1), .val (.ref wFALSE)] [])) _
          refine st15 _ ?_
          show Steps p.tables e below (T15.setTop (mkF m 42 #[.val (.ref p0), .val (.ref p1), .val (.ref wFALSE)] [(.ref wUNKNOWN)])) _
          refine XS.astoreN X15.here hx rfl (hb hby d2_42) rfl rfl (l' := #[.val (.ref p0), .val (.ref p1), .val (.ref wUNKNOWN)]) rfl ?_
          show Steps p.tables e below (T15.setTop (mkF m 43 #[.val (.ref p0), .val (.ref p1), .val (.ref wUNKNOWN)] [])) _
          refine XS.aloadN X15.here hx rfl (hb hby d2_43) rfl rfl ?_
          show Steps p.tables e below (T15.setTop (mkF m 44 #[.val (.ref p0), .val (.ref p1), .val (.ref wUNKNOWN)] [(.ref wUNKNOWN)])) _
          exact own_retA X15 hx Bd.returns rfl rfl (hb hby d2_44) hr
        · show Q2 Z p0 p1 wFALSE wUNKNOWN wTRUE h0 n0 _ T15.heap _
          rw [e15]
          exact ⟨by rw [f2, if_neg hc6, if_neg hc10, if_pos hc14], N0, rfl⟩
      · obtain ⟨T16, X16, e16, st16⟩ := getS2 X12 hx hZ hown (host := "") (Or.inl (hw _ (List.mem_of_getElem? (i := 18) rfl))) Via.refl e12 SUNKNOWN (g := (mkF m 33 #[.val (.ref p0), .val (.ref p1), .val (.ref wFALSE)] [(.ref p1)])) rfl (hb hby d2_33)
        have k17 : ∀ t, Steps p.tables e below (T16.setTop (mkF m 36 #[.val (.ref p0), .val (.ref p1), .val (.ref wFALSE)] [(.ref wUNKNOWN), (.ref p1)])) t → Steps p.tables e below (s₁.setTop (entryFrame m #[(.ref p0), (.ref p1)] 3)) t := fun t kt => k13 t (by
          show Steps p.tables e below (T12.setTop (mkF m 29 #[.val (.ref p0), .val (.ref p1), .val (.ref wFALSE)] [(.ref wUNKNOWN), (.ref p0)])) _
          refine Jvm.RoadKit.acmp (g := (mkF m 29 #[.val (.ref p0), .val (.ref p1), .val (.ref wFALSE)] [(.ref wUNKNOWN), (.ref p0)])) X12 hx rfl rfl rfl (pc0 := 29) (pc' := 32) (same := false) rfl (hb hby d2_29) rfl (decide_eq_false fun q => (hc14 : ¬ (p0 = wUNKNOWN)) (Value.ref.inj q)) (by decide) (by decide) ?_
          show Steps p.tables e below (T12.setTop (mkF m 32 #[.val (.ref p0), .val (.ref p1), .val (.ref wFALSE)] [])) _
          refine XS.aloadN X12.here hx rfl (hb hby d2_32) rfl rfl ?_
          show Steps p.tables e below (T12.setTop (mkF m 33 #[.val (.ref p0), .val (.ref p1), .val (.ref wFALSE)] [(.ref p1)])) _
          refine st16 _ ?_
          exact kt)
        by_cases hc18 : p1 = wUNKNOWN
        · obtain ⟨T19, X19, e19, st19⟩ := getS2 X16 hx hZ hown (host := "") (Or.inl (hw _ (List.mem_of_getElem? (i := 18) rfl))) Via.refl e16 SUNKNOWN (g := (mkF m 39 #[.val (.ref p0), .val (.ref p1), .val (.ref wFALSE)] [])) rfl (hb hby d2_39)
          obtain ⟨fs, hr, hrun, hended, hW, hsame⟩ := X19.leave (v := some (.ref wUNKNOWN)) (fun h => by rw [Bd.returns] at h; cases h)
          refine ⟨_, _, k17 _ ?_, hrun, hended, _, _, rfl, ?_, ⟨_, rfl⟩, hW, hsame.mono (by decide) (by decide)⟩
          · show Steps p.tables e below (T16.setTop (mkF m 36 #[.val (.ref p0), .val (.ref p1), .val (.ref wFALSE)] [(.ref wUNKNOWN), (.ref p1)])) _
            refine Jvm.RoadKit.acmp (g := (mkF m 36 #[.val (.ref p0), .val (.ref p1), .val (.ref wFALSE)] [(.ref wUNKNOWN), (.ref p1)])) X16 hx rfl rfl rfl (pc0 := 36) (pc' := 39) (same := true) rfl (hb hby d2_36) rfl (decide_eq_true (congrArg Value.ref (hc18 : p1 = wUNKNOWN))) (by decide) (by decide) ?_
            show Steps p.tables e below (T16.setTop (mkF m 39 #[.val (.ref p0), .val (.ref p1), .val (.ref wFALSE)] [])) _
            refine st19 _ ?_
            show Steps p.tables e below (T19.setTop (mkF m 42 #[.val (.ref p0), .val (.ref p1), .val (.ref wFALSE)] [(.ref wUNKNOWN)])) _
            refine XS.astoreN X19.here hx rfl (hb hby d2_42) rfl rfl (l' := #[.val (.ref p0), .val (.ref p1), .val (.ref wUNKNOWN)]) rfl ?_
            show Steps p.tables e below (T19.setTop (mkF m 43 #[.val (.ref p0), .val (.ref p1), .val (.ref wUNKNOWN)] [])) _
            refine XS.aloadN X19.here hx rfl (hb hby d2_43) rfl rfl ?_
            show Steps p.tables e below (T19.setTop (mkF m 44 #[.val (.ref p0), .val (.ref p1), .val (.ref wUNKNOWN)] [(.ref wUNKNOWN)])) _
            exact own_retA X19 hx Bd.returns rfl rfl (hb hby d2_44) hr
          · show Q2 Z p0 p1 wFALSE wUNKNOWN wTRUE h0 n0 _ T19.heap _
            rw [e19]
            exact ⟨by rw [f2, if_neg hc6, if_neg hc10, if_neg hc14, if_pos hc18], N0, rfl⟩
        · obtain ⟨fs, hr, hrun, hended, hW, hsame⟩ := X16.leave (v := some (.ref wFALSE)) (fun h => by rw [Bd.returns] at h; cases h)
          refine ⟨_, _, k17 _ ?_, hrun, hended, _, _, rfl, ?_, ⟨_, rfl⟩, hW, hsame.mono (by decide) (by decide)⟩
          · show Steps p.tables e below (T16.setTop (mkF m 36 #[.val (.ref p0), .val (.ref p1), .val (.ref wFALSE)] [(.ref wUNKNOWN), (.ref p1)])) _
            refine Jvm.RoadKit.acmp (g := (mkF m 36 #[.val (.ref p0), .val (.ref p1), .val (.ref wFALSE)] [(.ref wUNKNOWN), (.ref p1)])) X16 hx rfl rfl rfl (pc0 := 36) (pc' := 43) (same := false) rfl (hb hby d2_36) rfl (decide_eq_false fun q => (hc18 : ¬ (p1 = wUNKNOWN)) (Value.ref.inj q)) (by decide) (by decide) ?_
            show Steps p.tables e below (T16.setTop (mkF m 43 #[.val (.ref p0), .val (.ref p1), .val (.ref wFALSE)] [])) _
            refine XS.aloadN X16.here hx rfl (hb hby d2_43) rfl rfl ?_
            show Steps p.tables e below (T16.setTop (mkF m 44 #[.val (.ref p0), .val (.ref p1), .val (.ref wFALSE)] [(.ref wFALSE)])) _
            exact own_retA X16 hx Bd.returns rfl rfl (hb hby d2_44) hr
          · show Q2 Z p0 p1 wFALSE wUNKNOWN wTRUE h0 n0 _ T16.heap _
            rw [e16]
            exact ⟨by rw [f2, if_neg hc6, if_neg hc10, if_neg hc14, if_neg hc18], N0, rfl⟩
theorem pd_0 : parseMethodDescriptor "(Lcom/example/turtlehead/turtlehead/Truth;)Lcom/example/turtlehead/turtlehead/Truth;" = some ⟨[(.object "com/example/turtlehead/turtlehead/Truth")], some (.object "com/example/turtlehead/turtlehead/Truth")⟩ := by decide +kernel
theorem pd_1 : parseMethodDescriptor "(II)I" = some ⟨[.int, .int], some .int⟩ := by decide +kernel
theorem pn_1 : plainName "com/example/turtlehead/turtlehead/TruthOrPinLaw" = true := by first | (simp [plainName, overriddenIn]; done) | decide +kernel
theorem ef_0 (m : MethodId) (p0 : Int32) (p1 : Int32) : entryFrame m #[(.int p0), (.int p1)] maxLocals = mkF m 0 #[.val (.int p0), .val (.int p1), .unset, .unset, .unset, .unset] [] := by first | (simp [entryFrame, mkF, argsToLocals, Value.category, maxLocals]; done) | rfl
def Q0 (Z : State) (p0 : Int32) (p1 : Int32) (wFALSE : Addr) (wUNKNOWN : Addr) (wTRUE : Addr) (h0 : Heap) (n0 : Nat) (v : Option Value) (h : Heap) (L : List Loc) : Prop := v = some (.int 1) ∧ Fr n0 L
set_option maxRecDepth 65536 in
set_option maxHeartbeats 40000000 in
theorem rm0 (l : Launch) (Z : State) (a0 : Array Value) (hw : ∀ d ∈ tables_1, d.before a0 Z = true) (ws : List Jvm.Cond) (p0 : Int32) (p1 : Int32) (wFALSE : Addr) (wUNKNOWN : Addr) (wTRUE : Addr) (h0 : Heap) (n0 : Nat) (Z0 : n0 ≤ h0.size) (W0 : World Z h0 wFALSE wUNKNOWN wTRUE) :
    MetFree l x (head1 (Jvm.Cond.code x code maxLocals ret :: ws) room_1) (fun a U => a = #[(.int p0), (.int p1)] ∧ Z.Warmed39 U.vm ∧ U.heap = h0) (fun _ _ _ _ _ => True) (fun _ U o U' => ∃ v L, o = .returned v ∧ Q0 Z p0 p1 wFALSE wUNKNOWN wTRUE h0 n0 v U'.heap L ∧ FrameEnd U o U' L room_1.cells room_1.slots) := by
  refine MetFree.of_bodySF (plainFor_of_name pn_1) hisR ?_
  intro p e s m args below meth c s₁ Bd hml0 hP hK
  obtain ⟨rfl, hZ, hh⟩ := hP
  have hx := Bd.exec
  have hby := Bd.bytes
  have hml : c.maxLocals = 6 := hml0
  have hown : s.vm.findClass "com/example/turtlehead/turtlehead/TruthOrPinLaw" = some m.cls := findClass_of_methodNamed Bd.named
  have X0 : Stand p l e room_1 s m #[(.int p0), (.int p1)] below meth c s₁ [] 0 0 := Stand.of_body Bd
  have e0 : s₁.heap = h0 := by rw [← hh, Bd.state]; rfl
  have N0 := Fr.nil n0
  have W1 := W0
  obtain ⟨SFALSE, EFALSE, SUNKNOWN, EUNKNOWN, STRUE, ETRUE, FFALSE_ordinal, FTRUE_ordinal, FUNKNOWN_ordinal, -⟩ := W1
  have pre0 : ∀ t, Steps p.tables e below (s₁.setTop (mkF m 0 #[.val (.int p0), .val (.int p1), .unset, .unset, .unset, .unset] [])) t → Steps p.tables e below (s₁.setTop (entryFrame m #[(.int p0), (.int p1)] maxLocals)) t := fun t k => castTop (ef_0 m p0 p1) k
  obtain ⟨T20, h20, k20, X20, e20, E20, A20, O20, st20⟩ := newR X0 hx hZ hown (hw _ (List.mem_of_getElem? (i := 0) rfl)) (hw _ (List.mem_of_getElem? (i := 1) rfl)) e0 (g := (mkF m 1 #[.val (.int p0), .val (.int p1), .unset, .unset, .unset, .unset] [(.int (3 : Int32))])) rfl (hb hby at_1) rfl (by decide) (cap := 3) (by decide) (by decide) (by decide) (by decide)
  obtain ⟨b20, g20⟩ : ∃ z, z = h0.size := ⟨_, rfl⟩
  rw [← g20] at A20 st20
  have V20 : Arv Z h20 b20 k20 (.object "com/example/turtlehead/turtlehead/Truth") (3 : Int32) [.null, .null, .null] .null := (Arv.new A20 (by decide)).pad (pad_rep [] .null 3)
  have g_b20 : n0 ≤ b20 := Nat.le_trans Z0 (Nat.le_of_eq g20.symm)
  have sz_b20 : h0.size ≤ b20 := Nat.le_of_eq g20.symm
  have EX20 : Ext h0 h20 := E20
  obtain ⟨T21, X21, e21, st21⟩ := getS2 X20 hx hZ hown (host := "") (Or.inl (hw _ (List.mem_of_getElem? (i := 2) rfl))) Via.refl e20 (SFALSE.ext EX20) (g := (mkF m 6 #[.val (.int p0), .val (.int p1), .unset, .unset, .unset, .unset] [(.int (0 : Int32)), (.ref b20), (.ref b20)])) rfl (hb hby at_6)
  obtain ⟨cl22, Ar22, q22, S22, N22, H22, G22⟩ := And.left ⟨V20, trivial⟩
  have hin22 : ¬ ((0 : Int32) < 0 ∨ cl22.slots.size ≤ ((0 : Int32)).toNatClampNeg) := inb_of S22 ⟨by decide, by decide⟩
  obtain ⟨T22, h22, X22, e22, W22, st22⟩ := stR X21 hx hZ e21 Ar22 (j := (0 : Int32)) hin22 rfl (Sto.ofV Ar22 q22 O20 (Ins.self (EFALSE.ext EX20))) (g := (mkF m 9 #[.val (.int p0), .val (.int p1), .unset, .unset, .unset, .unset] [(.ref wFALSE), (.int (0 : Int32)), (.ref b20), (.ref b20)])) rfl rfl (hb hby at_9)
  have V22 : Arv Z h22 b20 k20 (.object "com/example/turtlehead/turtlehead/Truth") (3 : Int32) [(.ref wFALSE), .null, .null] .null := Arv.set Ar22 q22 S22 N22 H22 G22 rfl W22 0 rfl (Nat.le_of_ble_eq_true rfl)
  have N22' := Fr.snoc X22 N0 g_b20
  have EX22 : Ext h0 h22 := own_ext_wr EX20 W22 sz_b20
  obtain ⟨T23, X23, e23, st23⟩ := getS2 X22 hx hZ hown (host := "") (Or.inl (hw _ (List.mem_of_getElem? (i := 6) rfl))) Via.refl e22 (SUNKNOWN.ext EX22) (g := (mkF m 12 #[.val (.int p0), .val (.int p1), .unset, .unset, .unset, .unset] [(.int (1 : Int32)), (.ref b20), (.ref b20)])) rfl (hb hby at_12)
  obtain ⟨cl24, Ar24, q24, S24, N24, H24, G24⟩ := And.left ⟨V22, trivial⟩
  have hin24 : ¬ ((1 : Int32) < 0 ∨ cl24.slots.size ≤ ((1 : Int32)).toNatClampNeg) := inb_of S24 ⟨by decide, by decide⟩
  obtain ⟨T24, h24, X24, e24, W24, st24⟩ := stR X23 hx hZ e23 Ar24 (j := (1 : Int32)) hin24 rfl (Sto.ofV Ar24 q24 O20 (Ins.self (EUNKNOWN.ext EX22))) (g := (mkF m 15 #[.val (.int p0), .val (.int p1), .unset, .unset, .unset, .unset] [(.ref wUNKNOWN), (.int (1 : Int32)), (.ref b20), (.ref b20)])) rfl rfl (hb hby at_15)
  have V24 : Arv Z h24 b20 k20 (.object "com/example/turtlehead/turtlehead/Truth") (3 : Int32) [(.ref wFALSE), (.ref wUNKNOWN), .null] .null := Arv.set Ar24 q24 S24 N24 H24 G24 rfl W24 1 rfl (Nat.le_of_ble_eq_true rfl)
  have N24' := Fr.snoc X24 N22' g_b20
  have EX24 : Ext h0 h24 := own_ext_wr EX22 W24 sz_b20
  obtain ⟨T25, X25, e25, st25⟩ := getS2 X24 hx hZ hown (host := "") (Or.inl (hw _ (List.mem_of_getElem? (i := 8) rfl))) Via.refl e24 (STRUE.ext EX24) (g := (mkF m 18 #[.val (.int p0), .val (.int p1), .unset, .unset, .unset, .unset] [(.int (2 : Int32)), (.ref b20), (.ref b20)])) rfl (hb hby at_18)
  obtain ⟨cl26, Ar26, q26, S26, N26, H26, G26⟩ := And.left ⟨V24, trivial⟩
  have hin26 : ¬ ((2 : Int32) < 0 ∨ cl26.slots.size ≤ ((2 : Int32)).toNatClampNeg) := inb_of S26 ⟨by decide, by decide⟩
  obtain ⟨T26, h26, X26, e26, W26, st26⟩ := stR X25 hx hZ e25 Ar26 (j := (2 : Int32)) hin26 rfl (Sto.ofV Ar26 q26 O20 (Ins.self (ETRUE.ext EX24))) (g := (mkF m 21 #[.val (.int p0), .val (.int p1), .unset, .unset, .unset, .unset] [(.ref wTRUE), (.int (2 : Int32)), (.ref b20), (.ref b20)])) rfl rfl (hb hby at_21)
  have V26 : Arv Z h26 b20 k20 (.object "com/example/turtlehead/turtlehead/Truth") (3 : Int32) [(.ref wFALSE), (.ref wUNKNOWN), (.ref wTRUE)] .null := Arv.set Ar26 q26 S26 N26 H26 G26 rfl W26 2 rfl (Nat.le_of_ble_eq_true rfl)
  have N26' := Fr.snoc X26 N24' g_b20
  have EX26 : Ext h0 h26 := own_ext_wr EX24 W26 sz_b20
  obtain ⟨i27, hi27⟩ : ∃ z, z = ((p0 &&& (2147483647 : Int32)) % (3 : Int32)) := ⟨_, rfl⟩
  have k28 : ∀ t, Steps p.tables e below (T26.setTop (mkF m 30 #[.val (.int p0), .val (.int p1), .val (.ref b20), .val (.int i27), .unset, .unset] [])) t → Steps p.tables e below (s₁.setTop (entryFrame m #[(.int p0), (.int p1)] maxLocals)) t := fun t kt => pre0 t (by
    show Steps p.tables e below (s₁.setTop (mkF m 0 #[.val (.int p0), .val (.int p1), .unset, .unset, .unset, .unset] [])) _
    refine XS.iconst X0.here hx rfl (hb hby at_0) ?_
    show Steps p.tables e below (s₁.setTop (mkF m 1 #[.val (.int p0), .val (.int p1), .unset, .unset, .unset, .unset] [(.int (3 : Int32))])) _
    refine st20 _ ?_
    show Steps p.tables e below (T20.setTop (mkF m 4 #[.val (.int p0), .val (.int p1), .unset, .unset, .unset, .unset] [(.ref b20)])) _
    refine XS.dup X20.here hx rfl (hb hby at_4) rfl rfl ?_
    show Steps p.tables e below (T20.setTop (mkF m 5 #[.val (.int p0), .val (.int p1), .unset, .unset, .unset, .unset] [(.ref b20), (.ref b20)])) _
    refine XS.iconst X20.here hx rfl (hb hby at_5) ?_
    show Steps p.tables e below (T20.setTop (mkF m 6 #[.val (.int p0), .val (.int p1), .unset, .unset, .unset, .unset] [(.int (0 : Int32)), (.ref b20), (.ref b20)])) _
    refine st21 _ ?_
    show Steps p.tables e below (T21.setTop (mkF m 9 #[.val (.int p0), .val (.int p1), .unset, .unset, .unset, .unset] [(.ref wFALSE), (.int (0 : Int32)), (.ref b20), (.ref b20)])) _
    refine st22 _ ?_
    show Steps p.tables e below (T22.setTop (mkF m 10 #[.val (.int p0), .val (.int p1), .unset, .unset, .unset, .unset] [(.ref b20)])) _
    refine XS.dup X22.here hx rfl (hb hby at_10) rfl rfl ?_
    show Steps p.tables e below (T22.setTop (mkF m 11 #[.val (.int p0), .val (.int p1), .unset, .unset, .unset, .unset] [(.ref b20), (.ref b20)])) _
    refine XS.iconst X22.here hx rfl (hb hby at_11) ?_
    show Steps p.tables e below (T22.setTop (mkF m 12 #[.val (.int p0), .val (.int p1), .unset, .unset, .unset, .unset] [(.int (1 : Int32)), (.ref b20), (.ref b20)])) _
    refine st23 _ ?_
    show Steps p.tables e below (T23.setTop (mkF m 15 #[.val (.int p0), .val (.int p1), .unset, .unset, .unset, .unset] [(.ref wUNKNOWN), (.int (1 : Int32)), (.ref b20), (.ref b20)])) _
    refine st24 _ ?_
    show Steps p.tables e below (T24.setTop (mkF m 16 #[.val (.int p0), .val (.int p1), .unset, .unset, .unset, .unset] [(.ref b20)])) _
    refine XS.dup X24.here hx rfl (hb hby at_16) rfl rfl ?_
    show Steps p.tables e below (T24.setTop (mkF m 17 #[.val (.int p0), .val (.int p1), .unset, .unset, .unset, .unset] [(.ref b20), (.ref b20)])) _
    refine XS.iconst X24.here hx rfl (hb hby at_17) ?_
    show Steps p.tables e below (T24.setTop (mkF m 18 #[.val (.int p0), .val (.int p1), .unset, .unset, .unset, .unset] [(.int (2 : Int32)), (.ref b20), (.ref b20)])) _
    refine st25 _ ?_
    show Steps p.tables e below (T25.setTop (mkF m 21 #[.val (.int p0), .val (.int p1), .unset, .unset, .unset, .unset] [(.ref wTRUE), (.int (2 : Int32)), (.ref b20), (.ref b20)])) _
    refine st26 _ ?_
    show Steps p.tables e below (T26.setTop (mkF m 22 #[.val (.int p0), .val (.int p1), .unset, .unset, .unset, .unset] [(.ref b20)])) _
    refine XS.astoreN X26.here hx rfl (hb hby at_22) rfl rfl (l' := #[.val (.int p0), .val (.int p1), .val (.ref b20), .unset, .unset, .unset]) rfl ?_
    show Steps p.tables e below (T26.setTop (mkF m 23 #[.val (.int p0), .val (.int p1), .val (.ref b20), .unset, .unset, .unset] [])) _
    refine XS.iloadN X26.here hx rfl (hb hby at_23) rfl ?_
    show Steps p.tables e below (T26.setTop (mkF m 24 #[.val (.int p0), .val (.int p1), .val (.ref b20), .unset, .unset, .unset] [(.int p0)])) _
    refine X26.ldcInt hx hown (mvT hZ (hw _ (List.mem_of_getElem? (i := 10) rfl))) (g := (mkF m 24 #[.val (.int p0), .val (.int p1), .val (.ref b20), .unset, .unset, .unset] [(.int p0)])) rfl (hb hby at_24) _ ?_
    show Steps p.tables e below (T26.setTop (mkF m 26 #[.val (.int p0), .val (.int p1), .val (.ref b20), .unset, .unset, .unset] [(.int (2147483647 : Int32)), (.int p0)])) _
    refine XS.iand X26.here hx rfl (hb hby at_26) rfl ?_
    show Steps p.tables e below (T26.setTop (mkF m 27 #[.val (.int p0), .val (.int p1), .val (.ref b20), .unset, .unset, .unset] [(.int (p0 &&& (2147483647 : Int32)))])) _
    refine XS.iconst X26.here hx rfl (hb hby at_27) ?_
    show Steps p.tables e below (T26.setTop (mkF m 28 #[.val (.int p0), .val (.int p1), .val (.ref b20), .unset, .unset, .unset] [(.int (3 : Int32)), (.int (p0 &&& (2147483647 : Int32)))])) _
    refine iremM X26 hx rfl (hb hby at_28) rfl (by decide) ?_
    rw [← hi27]
    show Steps p.tables e below (T26.setTop (mkF m 29 #[.val (.int p0), .val (.int p1), .val (.ref b20), .unset, .unset, .unset] [(.int i27)])) _
    refine XS.istoreN X26.here hx rfl (hb hby at_29) rfl (l' := #[.val (.int p0), .val (.int p1), .val (.ref b20), .val (.int i27), .unset, .unset]) rfl ?_
    exact kt)
  rcases own_cases3 hi27 with hv29 | hv29 | hv29
  · subst hv29
    obtain ⟨i30, hi30⟩ : ∃ z, z = ((p1 &&& (2147483647 : Int32)) % (3 : Int32)) := ⟨_, rfl⟩
    have k31 : ∀ t, Steps p.tables e below (T26.setTop (mkF m 38 #[.val (.int p0), .val (.int p1), .val (.ref b20), .val (.int (0 : Int32)), .val (.int i30), .unset] [])) t → Steps p.tables e below (s₁.setTop (entryFrame m #[(.int p0), (.int p1)] maxLocals)) t := fun t kt => k28 t (by
      show Steps p.tables e below (T26.setTop (mkF m 30 #[.val (.int p0), .val (.int p1), .val (.ref b20), .val (.int (0 : Int32)), .unset, .unset] [])) _
      refine XS.iloadN X26.here hx rfl (hb hby at_30) rfl ?_
      show Steps p.tables e below (T26.setTop (mkF m 31 #[.val (.int p0), .val (.int p1), .val (.ref b20), .val (.int (0 : Int32)), .unset, .unset] [(.int p1)])) _
      refine X26.ldcInt hx hown (mvT hZ (hw _ (List.mem_of_getElem? (i := 10) rfl))) (g := (mkF m 31 #[.val (.int p0), .val (.int p1), .val (.ref b20), .val (.int (0 : Int32)), .unset, .unset] [(.int p1)])) rfl (hb hby at_31) _ ?_
      show Steps p.tables e below (T26.setTop (mkF m 33 #[.val (.int p0), .val (.int p1), .val (.ref b20), .val (.int (0 : Int32)), .unset, .unset] [(.int (2147483647 : Int32)), (.int p1)])) _
      refine XS.iand X26.here hx rfl (hb hby at_33) rfl ?_
      show Steps p.tables e below (T26.setTop (mkF m 34 #[.val (.int p0), .val (.int p1), .val (.ref b20), .val (.int (0 : Int32)), .unset, .unset] [(.int (p1 &&& (2147483647 : Int32)))])) _
      refine XS.iconst X26.here hx rfl (hb hby at_34) ?_
      show Steps p.tables e below (T26.setTop (mkF m 35 #[.val (.int p0), .val (.int p1), .val (.ref b20), .val (.int (0 : Int32)), .unset, .unset] [(.int (3 : Int32)), (.int (p1 &&& (2147483647 : Int32)))])) _
      refine iremM X26 hx rfl (hb hby at_35) rfl (by decide) ?_
      rw [← hi30]
      show Steps p.tables e below (T26.setTop (mkF m 36 #[.val (.int p0), .val (.int p1), .val (.ref b20), .val (.int (0 : Int32)), .unset, .unset] [(.int i30)])) _
      refine XS.istore X26.here hx rfl (hb hby at_36) rfl (l' := #[.val (.int p0), .val (.int p1), .val (.ref b20), .val (.int (0 : Int32)), .val (.int i30), .unset]) rfl ?_
      exact kt)
    rcases own_cases3 hi30 with hv32 | hv32 | hv32
    · subst hv32
      obtain ⟨cla33, Ara33, qa33, Sa33, Na33, Ha33, Ga33⟩ := And.left ⟨V26, trivial⟩
      have hina33 : ¬ ((0 : Int32) < 0 ∨ cla33.slots.size ≤ ((0 : Int32)).toNatClampNeg) := inb_of Sa33 ⟨by decide, by decide⟩
      obtain ⟨cla34, Ara34, qa34, Sa34, Na34, Ha34, Ga34⟩ := And.left ⟨V26, trivial⟩
      have hina34 : ¬ ((0 : Int32) < 0 ∨ cla34.slots.size ≤ ((0 : Int32)).toNatClampNeg) := inb_of Sa34 ⟨by decide, by decide⟩
      obtain ⟨cq35, kq35, q35a, q35b, q35c⟩ := isOf hZ e26 (EFALSE.ext EX26)
      obtain ⟨_, _, ⟨T35, L35, k35, n35⟩, -, X35, ⟨Lc35, hQ35, l35, y35, z35⟩, st35⟩ := X26.virtualBack hx (y := (⟨"com/example/turtlehead/turtlehead/Truth", "or", "(Lcom/example/turtlehead/turtlehead/Truth;)Lcom/example/turtlehead/turtlehead/Truth;"⟩ : MethodName)) (z := (⟨"com/example/turtlehead/turtlehead/Truth", "or", "(Lcom/example/turtlehead/turtlehead/Truth;)Lcom/example/turtlehead/turtlehead/Truth;"⟩ : MethodName)) hown (mvT hZ (hw _ (List.mem_of_getElem? (i := 11) rfl))) (mvT hZ (hw _ (List.mem_of_getElem? (i := 12) rfl))) (notFace_of_selects (args := #[]) (mvT hZ (hw _ (List.mem_of_getElem? (i := 14) rfl)))) (mvT hZ (hw _ (List.mem_of_getElem? (i := 14) rfl))) (mvT hZ (hw _ (List.mem_of_getElem? (i := 13) rfl))) (by decide) (backOf (W := 0) (rm2 l Z a0 hw [] wFALSE wFALSE wFALSE wUNKNOWN wTRUE h26 n0 (Nat.le_trans Z0 EX26.1) (W0.ext EX26) ) hZ (hw _ (List.mem_of_getElem? (i := 15) rfl)) (hw _ (List.mem_of_getElem? (i := 3) rfl)) (by decide) (by decide)) q35a q35c (g := (mkF m 45 #[.val (.int p0), .val (.int p1), .val (.ref b20), .val (.int (0 : Int32)), .val (.int (0 : Int32)), .unset] [(.ref wFALSE), (.ref wFALSE)])) rfl (by rw [hml]; rfl) (Steps.refl _) (argsL := [(.ref wFALSE)]) (rest := []) (lenOf pd_0 rfl) rfl (by show 2 * 0 + _ ≤ _; exact Nat.le_of_eq rfl) (hb hby at_45) (fun _ _ => ⟨rfl, e26, (by decide : 1 + 0 ≤ _), (by decide : 3 + 0 ≤ _)⟩)
      dsimp only [Pt.U, Pt.locs, Pt.cells, Pt.slots] at X35 l35 y35 z35 st35 hQ35
      subst l35 y35 z35
      unfold Q2 at hQ35
      have k36 : ∀ t, Steps p.tables e below (T26.setTop (mkF m 45 #[.val (.int p0), .val (.int p1), .val (.ref b20), .val (.int (0 : Int32)), .val (.int (0 : Int32)), .unset] [(.ref wFALSE), (.ref wFALSE)])) t → Steps p.tables e below (s₁.setTop (entryFrame m #[(.int p0), (.int p1)] maxLocals)) t := fun t kt => k31 t (by
        show Steps p.tables e below (T26.setTop (mkF m 38 #[.val (.int p0), .val (.int p1), .val (.ref b20), .val (.int (0 : Int32)), .val (.int (0 : Int32)), .unset] [])) _
        refine XS.aloadN X26.here hx rfl (hb hby at_38) rfl rfl ?_
        show Steps p.tables e below (T26.setTop (mkF m 39 #[.val (.int p0), .val (.int p1), .val (.ref b20), .val (.int (0 : Int32)), .val (.int (0 : Int32)), .unset] [(.ref b20)])) _
        refine XS.iloadN X26.here hx rfl (hb hby at_39) rfl ?_
        show Steps p.tables e below (T26.setTop (mkF m 40 #[.val (.int p0), .val (.int p1), .val (.ref b20), .val (.int (0 : Int32)), .val (.int (0 : Int32)), .unset] [(.int (0 : Int32)), (.ref b20)])) _
        refine X26.aaload hx (j := (0 : Int32)) (v := (.ref wFALSE)) (by rw [e26]; exact Ara33.1) (State.isArrayOf_alike hZ.alike Ara33.2.1) rfl Ara33.2.2 hina33 (Ha33.at hina33 rfl) (g := (mkF m 40 #[.val (.int p0), .val (.int p1), .val (.ref b20), .val (.int (0 : Int32)), .val (.int (0 : Int32)), .unset] [(.int (0 : Int32)), (.ref b20)])) rfl rfl (hb hby at_40) _ ?_
        show Steps p.tables e below (T26.setTop (mkF m 41 #[.val (.int p0), .val (.int p1), .val (.ref b20), .val (.int (0 : Int32)), .val (.int (0 : Int32)), .unset] [(.ref wFALSE)])) _
        refine XS.aloadN X26.here hx rfl (hb hby at_41) rfl rfl ?_
        show Steps p.tables e below (T26.setTop (mkF m 42 #[.val (.int p0), .val (.int p1), .val (.ref b20), .val (.int (0 : Int32)), .val (.int (0 : Int32)), .unset] [(.ref b20), (.ref wFALSE)])) _
        refine XS.iload X26.here hx rfl (hb hby at_42) rfl ?_
        show Steps p.tables e below (T26.setTop (mkF m 44 #[.val (.int p0), .val (.int p1), .val (.ref b20), .val (.int (0 : Int32)), .val (.int (0 : Int32)), .unset] [(.int (0 : Int32)), (.ref b20), (.ref wFALSE)])) _
        refine X26.aaload hx (j := (0 : Int32)) (v := (.ref wFALSE)) (by rw [e26]; exact Ara34.1) (State.isArrayOf_alike hZ.alike Ara34.2.1) rfl Ara34.2.2 hina34 (Ha34.at hina34 rfl) (g := (mkF m 44 #[.val (.int p0), .val (.int p1), .val (.ref b20), .val (.int (0 : Int32)), .val (.int (0 : Int32)), .unset] [(.int (0 : Int32)), (.ref b20), (.ref wFALSE)])) rfl rfl (hb hby at_44) _ ?_
        exact kt)
      rw [((by rw [f2, if_neg ((Fld.ne FFALSE_ordinal FTRUE_ordinal (by decide)) : ¬ (wFALSE = wTRUE)), if_neg ((Fld.ne FFALSE_ordinal FTRUE_ordinal (by decide)) : ¬ (wFALSE = wTRUE)), if_neg ((Fld.ne FFALSE_ordinal FUNKNOWN_ordinal (by decide)) : ¬ (wFALSE = wUNKNOWN)), if_neg ((Fld.ne FFALSE_ordinal FUNKNOWN_ordinal (by decide)) : ¬ (wFALSE = wUNKNOWN))]) : (f2 wFALSE wFALSE wFALSE wUNKNOWN wTRUE) = wFALSE)] at hQ35
      obtain ⟨rfl, N35q, e35⟩ := hQ35
      have N35 := Fr.app N26' N35q
      obtain ⟨_, _, ⟨T37, L37, k37, n37⟩, -, X37, ⟨Lc37, hQ37, l37, y37, z37⟩, st37⟩ := Jvm.LawKit.callS X35 hx (y := (⟨"java/lang/Math", "max", "(II)I"⟩ : MethodName)) hown (mvT hZ (hw _ (List.mem_of_getElem? (i := 19) rfl))) (mvT hZ (hw _ (List.mem_of_getElem? (i := 20) rfl))) (mvT hZ (hw _ (List.mem_of_getElem? (i := 21) rfl))) (mvT hZ (hw _ (List.mem_of_getElem? (i := 22) rfl))) (by decide) (backOf (W := 2) (rm1 l Z a0 hw [] (0 : Int32) (0 : Int32) h26 n0 (Nat.le_trans Z0 EX26.1) ) hZ (hw _ (List.mem_of_getElem? (i := 22) rfl)) (hw _ (List.mem_of_getElem? (i := 21) rfl)) (by decide) (by decide)) (g := (mkF m 56 #[.val (.int p0), .val (.int p1), .val (.ref b20), .val (.int (0 : Int32)), .val (.int (0 : Int32)), .val (.ref wFALSE)] [(.int (0 : Int32)), (.int (0 : Int32)), (.ref b20), (.ref wFALSE)])) rfl (by rw [hml]; rfl) (argsL := [(.int (0 : Int32)), (.int (0 : Int32))]) (rest := [(.ref b20), (.ref wFALSE)]) (lenOf pd_1 rfl) rfl (by show 2 * 0 + _ ≤ _; exact Nat.le_of_eq rfl) (hb hby at_56) (fun _ _ => ⟨rfl, e35, (by decide : 1 + 0 ≤ _), (by decide : 3 + 0 ≤ _)⟩)
      dsimp only [Pt.U, Pt.locs, Pt.cells, Pt.slots] at X37 l37 y37 z37 st37 hQ37
      subst l37 y37 z37
      unfold Q1 at hQ37
      have k38 : ∀ t, Steps p.tables e below (T35.setTop (mkF m 56 #[.val (.int p0), .val (.int p1), .val (.ref b20), .val (.int (0 : Int32)), .val (.int (0 : Int32)), .val (.ref wFALSE)] [(.int (0 : Int32)), (.int (0 : Int32)), (.ref b20), (.ref wFALSE)])) t → Steps p.tables e below (s₁.setTop (entryFrame m #[(.int p0), (.int p1)] maxLocals)) t := fun t kt => k36 t (by
        show Steps p.tables e below (T26.setTop (mkF m 45 #[.val (.int p0), .val (.int p1), .val (.ref b20), .val (.int (0 : Int32)), .val (.int (0 : Int32)), .unset] [(.ref wFALSE), (.ref wFALSE)])) _
        refine st35.trans ?_
        show Steps p.tables e below (T35.setTop (mkF m 48 #[.val (.int p0), .val (.int p1), .val (.ref b20), .val (.int (0 : Int32)), .val (.int (0 : Int32)), .unset] [(.ref wFALSE)])) _
        refine XS.astore X35.here hx rfl (hb hby at_48) rfl rfl (l' := #[.val (.int p0), .val (.int p1), .val (.ref b20), .val (.int (0 : Int32)), .val (.int (0 : Int32)), .val (.ref wFALSE)]) rfl ?_
        show Steps p.tables e below (T35.setTop (mkF m 50 #[.val (.int p0), .val (.int p1), .val (.ref b20), .val (.int (0 : Int32)), .val (.int (0 : Int32)), .val (.ref wFALSE)] [])) _
        refine XS.aload X35.here hx rfl (hb hby at_50) rfl rfl ?_
        show Steps p.tables e below (T35.setTop (mkF m 52 #[.val (.int p0), .val (.int p1), .val (.ref b20), .val (.int (0 : Int32)), .val (.int (0 : Int32)), .val (.ref wFALSE)] [(.ref wFALSE)])) _
        refine XS.aloadN X35.here hx rfl (hb hby at_52) rfl rfl ?_
        show Steps p.tables e below (T35.setTop (mkF m 53 #[.val (.int p0), .val (.int p1), .val (.ref b20), .val (.int (0 : Int32)), .val (.int (0 : Int32)), .val (.ref wFALSE)] [(.ref b20), (.ref wFALSE)])) _
        refine XS.iloadN X35.here hx rfl (hb hby at_53) rfl ?_
        show Steps p.tables e below (T35.setTop (mkF m 54 #[.val (.int p0), .val (.int p1), .val (.ref b20), .val (.int (0 : Int32)), .val (.int (0 : Int32)), .val (.ref wFALSE)] [(.int (0 : Int32)), (.ref b20), (.ref wFALSE)])) _
        refine XS.iload X35.here hx rfl (hb hby at_54) rfl ?_
        exact kt)
      rw [((by rw [f1, if_neg ((by first | exact Int32.lt_irrefl _ | decide) : ¬ ((0 : Int32) < (0 : Int32)))]) : (f1 (0 : Int32) (0 : Int32)) = (0 : Int32))] at hQ37
      obtain ⟨rfl, N37q, e37⟩ := hQ37
      have N37 := Fr.app N35 N37q
      obtain ⟨cla39, Ara39, qa39, Sa39, Na39, Ha39, Ga39⟩ := And.left ⟨V26, trivial⟩
      have hina39 : ¬ ((0 : Int32) < 0 ∨ cla39.slots.size ≤ ((0 : Int32)).toNatClampNeg) := inb_of Sa39 ⟨by decide, by decide⟩
      obtain ⟨fs, hr, hrun, hended, hW, hsame⟩ := X37.leave (v := some (.int (1 : Int32))) (fun h => by rw [Bd.returns] at h; cases h)
      refine ⟨_, _, k38 _ ?_, hrun, hended, _, _, rfl, ?_, ⟨_, rfl⟩, hW, hsame.mono (by decide) (by decide)⟩
      · show Steps p.tables e below (T35.setTop (mkF m 56 #[.val (.int p0), .val (.int p1), .val (.ref b20), .val (.int (0 : Int32)), .val (.int (0 : Int32)), .val (.ref wFALSE)] [(.int (0 : Int32)), (.int (0 : Int32)), (.ref b20), (.ref wFALSE)])) _
        refine st37 _ ?_
        show Steps p.tables e below (T37.setTop (mkF m 59 #[.val (.int p0), .val (.int p1), .val (.ref b20), .val (.int (0 : Int32)), .val (.int (0 : Int32)), .val (.ref wFALSE)] [(.int (0 : Int32)), (.ref b20), (.ref wFALSE)])) _
        refine X37.aaload hx (j := (0 : Int32)) (v := (.ref wFALSE)) (by rw [e37]; exact Ara39.1) (State.isArrayOf_alike hZ.alike Ara39.2.1) rfl Ara39.2.2 hina39 (Ha39.at hina39 rfl) (g := (mkF m 59 #[.val (.int p0), .val (.int p1), .val (.ref b20), .val (.int (0 : Int32)), .val (.int (0 : Int32)), .val (.ref wFALSE)] [(.int (0 : Int32)), (.ref b20), (.ref wFALSE)])) rfl rfl (hb hby at_59) _ ?_
        show Steps p.tables e below (T37.setTop (mkF m 60 #[.val (.int p0), .val (.int p1), .val (.ref b20), .val (.int (0 : Int32)), .val (.int (0 : Int32)), .val (.ref wFALSE)] [(.ref wFALSE), (.ref wFALSE)])) _
        refine Jvm.RoadKit.acmp (g := (mkF m 60 #[.val (.int p0), .val (.int p1), .val (.ref b20), .val (.int (0 : Int32)), .val (.int (0 : Int32)), .val (.ref wFALSE)] [(.ref wFALSE), (.ref wFALSE)])) X37 hx rfl rfl rfl (pc0 := 60) (pc' := 63) (same := true) rfl (hb hby at_60) rfl (decide_eq_true (congrArg Value.ref (rfl : wFALSE = wFALSE))) (by decide) (by decide) ?_
        show Steps p.tables e below (T37.setTop (mkF m 63 #[.val (.int p0), .val (.int p1), .val (.ref b20), .val (.int (0 : Int32)), .val (.int (0 : Int32)), .val (.ref wFALSE)] [])) _
        refine XS.iconst X37.here hx rfl (hb hby at_63) ?_
        show Steps p.tables e below (T37.setTop (mkF m 64 #[.val (.int p0), .val (.int p1), .val (.ref b20), .val (.int (0 : Int32)), .val (.int (0 : Int32)), .val (.ref wFALSE)] [(.int (1 : Int32))])) _
        refine XS.goto X37.here hx rfl (pc0 := 64) (pc' := 68) rfl (hb hby at_64) (by decide) (by decide) ?_
        show Steps p.tables e below (T37.setTop (mkF m 68 #[.val (.int p0), .val (.int p1), .val (.ref b20), .val (.int (0 : Int32)), .val (.int (0 : Int32)), .val (.ref wFALSE)] [(.int (1 : Int32))])) _
        exact retN X37 hx (t := .boolean) Bd.returns (by simp) (hb hby at_68) hr
      · show Q0 Z p0 p1 wFALSE wUNKNOWN wTRUE h0 n0 _ T37.heap _
        rw [e37]
        exact ⟨rfl, N37⟩
    · subst hv32
      obtain ⟨cla40, Ara40, qa40, Sa40, Na40, Ha40, Ga40⟩ := And.left ⟨V26, trivial⟩
      have hina40 : ¬ ((0 : Int32) < 0 ∨ cla40.slots.size ≤ ((0 : Int32)).toNatClampNeg) := inb_of Sa40 ⟨by decide, by decide⟩
      obtain ⟨cla41, Ara41, qa41, Sa41, Na41, Ha41, Ga41⟩ := And.left ⟨V26, trivial⟩
      have hina41 : ¬ ((1 : Int32) < 0 ∨ cla41.slots.size ≤ ((1 : Int32)).toNatClampNeg) := inb_of Sa41 ⟨by decide, by decide⟩
      obtain ⟨cq42, kq42, q42a, q42b, q42c⟩ := isOf hZ e26 (EFALSE.ext EX26)
      obtain ⟨_, _, ⟨T42, L42, k42, n42⟩, -, X42, ⟨Lc42, hQ42, l42, y42, z42⟩, st42⟩ := X26.virtualBack hx (y := (⟨"com/example/turtlehead/turtlehead/Truth", "or", "(Lcom/example/turtlehead/turtlehead/Truth;)Lcom/example/turtlehead/turtlehead/Truth;"⟩ : MethodName)) (z := (⟨"com/example/turtlehead/turtlehead/Truth", "or", "(Lcom/example/turtlehead/turtlehead/Truth;)Lcom/example/turtlehead/turtlehead/Truth;"⟩ : MethodName)) hown (mvT hZ (hw _ (List.mem_of_getElem? (i := 11) rfl))) (mvT hZ (hw _ (List.mem_of_getElem? (i := 12) rfl))) (notFace_of_selects (args := #[]) (mvT hZ (hw _ (List.mem_of_getElem? (i := 14) rfl)))) (mvT hZ (hw _ (List.mem_of_getElem? (i := 14) rfl))) (mvT hZ (hw _ (List.mem_of_getElem? (i := 13) rfl))) (by decide) (backOf (W := 0) (rm2 l Z a0 hw [] wFALSE wUNKNOWN wFALSE wUNKNOWN wTRUE h26 n0 (Nat.le_trans Z0 EX26.1) (W0.ext EX26) ) hZ (hw _ (List.mem_of_getElem? (i := 15) rfl)) (hw _ (List.mem_of_getElem? (i := 3) rfl)) (by decide) (by decide)) q42a q42c (g := (mkF m 45 #[.val (.int p0), .val (.int p1), .val (.ref b20), .val (.int (0 : Int32)), .val (.int (1 : Int32)), .unset] [(.ref wUNKNOWN), (.ref wFALSE)])) rfl (by rw [hml]; rfl) (Steps.refl _) (argsL := [(.ref wUNKNOWN)]) (rest := []) (lenOf pd_0 rfl) rfl (by show 2 * 0 + _ ≤ _; exact Nat.le_of_eq rfl) (hb hby at_45) (fun _ _ => ⟨rfl, e26, (by decide : 1 + 0 ≤ _), (by decide : 3 + 0 ≤ _)⟩)
      dsimp only [Pt.U, Pt.locs, Pt.cells, Pt.slots] at X42 l42 y42 z42 st42 hQ42
      subst l42 y42 z42
      unfold Q2 at hQ42
      have k43 : ∀ t, Steps p.tables e below (T26.setTop (mkF m 45 #[.val (.int p0), .val (.int p1), .val (.ref b20), .val (.int (0 : Int32)), .val (.int (1 : Int32)), .unset] [(.ref wUNKNOWN), (.ref wFALSE)])) t → Steps p.tables e below (s₁.setTop (entryFrame m #[(.int p0), (.int p1)] maxLocals)) t := fun t kt => k31 t (by
        show Steps p.tables e below (T26.setTop (mkF m 38 #[.val (.int p0), .val (.int p1), .val (.ref b20), .val (.int (0 : Int32)), .val (.int (1 : Int32)), .unset] [])) _
        refine XS.aloadN X26.here hx rfl (hb hby at_38) rfl rfl ?_
        show Steps p.tables e below (T26.setTop (mkF m 39 #[.val (.int p0), .val (.int p1), .val (.ref b20), .val (.int (0 : Int32)), .val (.int (1 : Int32)), .unset] [(.ref b20)])) _
        refine XS.iloadN X26.here hx rfl (hb hby at_39) rfl ?_
        show Steps p.tables e below (T26.setTop (mkF m 40 #[.val (.int p0), .val (.int p1), .val (.ref b20), .val (.int (0 : Int32)), .val (.int (1 : Int32)), .unset] [(.int (0 : Int32)), (.ref b20)])) _
        refine X26.aaload hx (j := (0 : Int32)) (v := (.ref wFALSE)) (by rw [e26]; exact Ara40.1) (State.isArrayOf_alike hZ.alike Ara40.2.1) rfl Ara40.2.2 hina40 (Ha40.at hina40 rfl) (g := (mkF m 40 #[.val (.int p0), .val (.int p1), .val (.ref b20), .val (.int (0 : Int32)), .val (.int (1 : Int32)), .unset] [(.int (0 : Int32)), (.ref b20)])) rfl rfl (hb hby at_40) _ ?_
        show Steps p.tables e below (T26.setTop (mkF m 41 #[.val (.int p0), .val (.int p1), .val (.ref b20), .val (.int (0 : Int32)), .val (.int (1 : Int32)), .unset] [(.ref wFALSE)])) _
        refine XS.aloadN X26.here hx rfl (hb hby at_41) rfl rfl ?_
        show Steps p.tables e below (T26.setTop (mkF m 42 #[.val (.int p0), .val (.int p1), .val (.ref b20), .val (.int (0 : Int32)), .val (.int (1 : Int32)), .unset] [(.ref b20), (.ref wFALSE)])) _
        refine XS.iload X26.here hx rfl (hb hby at_42) rfl ?_
        show Steps p.tables e below (T26.setTop (mkF m 44 #[.val (.int p0), .val (.int p1), .val (.ref b20), .val (.int (0 : Int32)), .val (.int (1 : Int32)), .unset] [(.int (1 : Int32)), (.ref b20), (.ref wFALSE)])) _
        refine X26.aaload hx (j := (1 : Int32)) (v := (.ref wUNKNOWN)) (by rw [e26]; exact Ara41.1) (State.isArrayOf_alike hZ.alike Ara41.2.1) rfl Ara41.2.2 hina41 (Ha41.at hina41 rfl) (g := (mkF m 44 #[.val (.int p0), .val (.int p1), .val (.ref b20), .val (.int (0 : Int32)), .val (.int (1 : Int32)), .unset] [(.int (1 : Int32)), (.ref b20), (.ref wFALSE)])) rfl rfl (hb hby at_44) _ ?_
        exact kt)
      rw [((by rw [f2, if_neg ((Fld.ne FFALSE_ordinal FTRUE_ordinal (by decide)) : ¬ (wFALSE = wTRUE)), if_neg ((Fld.ne FUNKNOWN_ordinal FTRUE_ordinal (by decide)) : ¬ (wUNKNOWN = wTRUE)), if_neg ((Fld.ne FFALSE_ordinal FUNKNOWN_ordinal (by decide)) : ¬ (wFALSE = wUNKNOWN)), if_pos (rfl : wUNKNOWN = wUNKNOWN)]) : (f2 wFALSE wUNKNOWN wFALSE wUNKNOWN wTRUE) = wUNKNOWN)] at hQ42
      obtain ⟨rfl, N42q, e42⟩ := hQ42
      have N42 := Fr.app N26' N42q
      obtain ⟨_, _, ⟨T44, L44, k44, n44⟩, -, X44, ⟨Lc44, hQ44, l44, y44, z44⟩, st44⟩ := Jvm.LawKit.callS X42 hx (y := (⟨"java/lang/Math", "max", "(II)I"⟩ : MethodName)) hown (mvT hZ (hw _ (List.mem_of_getElem? (i := 19) rfl))) (mvT hZ (hw _ (List.mem_of_getElem? (i := 20) rfl))) (mvT hZ (hw _ (List.mem_of_getElem? (i := 21) rfl))) (mvT hZ (hw _ (List.mem_of_getElem? (i := 22) rfl))) (by decide) (backOf (W := 2) (rm1 l Z a0 hw [] (0 : Int32) (1 : Int32) h26 n0 (Nat.le_trans Z0 EX26.1) ) hZ (hw _ (List.mem_of_getElem? (i := 22) rfl)) (hw _ (List.mem_of_getElem? (i := 21) rfl)) (by decide) (by decide)) (g := (mkF m 56 #[.val (.int p0), .val (.int p1), .val (.ref b20), .val (.int (0 : Int32)), .val (.int (1 : Int32)), .val (.ref wUNKNOWN)] [(.int (1 : Int32)), (.int (0 : Int32)), (.ref b20), (.ref wUNKNOWN)])) rfl (by rw [hml]; rfl) (argsL := [(.int (0 : Int32)), (.int (1 : Int32))]) (rest := [(.ref b20), (.ref wUNKNOWN)]) (lenOf pd_1 rfl) rfl (by show 2 * 0 + _ ≤ _; exact Nat.le_of_eq rfl) (hb hby at_56) (fun _ _ => ⟨rfl, e42, (by decide : 1 + 0 ≤ _), (by decide : 3 + 0 ≤ _)⟩)
      dsimp only [Pt.U, Pt.locs, Pt.cells, Pt.slots] at X44 l44 y44 z44 st44 hQ44
      subst l44 y44 z44
      unfold Q1 at hQ44
      have k45 : ∀ t, Steps p.tables e below (T42.setTop (mkF m 56 #[.val (.int p0), .val (.int p1), .val (.ref b20), .val (.int (0 : Int32)), .val (.int (1 : Int32)), .val (.ref wUNKNOWN)] [(.int (1 : Int32)), (.int (0 : Int32)), (.ref b20), (.ref wUNKNOWN)])) t → Steps p.tables e below (s₁.setTop (entryFrame m #[(.int p0), (.int p1)] maxLocals)) t := fun t kt => k43 t (by
        show Steps p.tables e below (T26.setTop (mkF m 45 #[.val (.int p0), .val (.int p1), .val (.ref b20), .val (.int (0 : Int32)), .val (.int (1 : Int32)), .unset] [(.ref wUNKNOWN), (.ref wFALSE)])) _
        refine st42.trans ?_
        show Steps p.tables e below (T42.setTop (mkF m 48 #[.val (.int p0), .val (.int p1), .val (.ref b20), .val (.int (0 : Int32)), .val (.int (1 : Int32)), .unset] [(.ref wUNKNOWN)])) _
        refine XS.astore X42.here hx rfl (hb hby at_48) rfl rfl (l' := #[.val (.int p0), .val (.int p1), .val (.ref b20), .val (.int (0 : Int32)), .val (.int (1 : Int32)), .val (.ref wUNKNOWN)]) rfl ?_
        show Steps p.tables e below (T42.setTop (mkF m 50 #[.val (.int p0), .val (.int p1), .val (.ref b20), .val (.int (0 : Int32)), .val (.int (1 : Int32)), .val (.ref wUNKNOWN)] [])) _
        refine XS.aload X42.here hx rfl (hb hby at_50) rfl rfl ?_
        show Steps p.tables e below (T42.setTop (mkF m 52 #[.val (.int p0), .val (.int p1), .val (.ref b20), .val (.int (0 : Int32)), .val (.int (1 : Int32)), .val (.ref wUNKNOWN)] [(.ref wUNKNOWN)])) _
        refine XS.aloadN X42.here hx rfl (hb hby at_52) rfl rfl ?_
        show Steps p.tables e below (T42.setTop (mkF m 53 #[.val (.int p0), .val (.int p1), .val (.ref b20), .val (.int (0 : Int32)), .val (.int (1 : Int32)), .val (.ref wUNKNOWN)] [(.ref b20), (.ref wUNKNOWN)])) _
        refine XS.iloadN X42.here hx rfl (hb hby at_53) rfl ?_
        show Steps p.tables e below (T42.setTop (mkF m 54 #[.val (.int p0), .val (.int p1), .val (.ref b20), .val (.int (0 : Int32)), .val (.int (1 : Int32)), .val (.ref wUNKNOWN)] [(.int (0 : Int32)), (.ref b20), (.ref wUNKNOWN)])) _
        refine XS.iload X42.here hx rfl (hb hby at_54) rfl ?_
        exact kt)
      rw [((by rw [f1, if_pos ((by decide) : (0 : Int32) < (1 : Int32))]) : (f1 (0 : Int32) (1 : Int32)) = (1 : Int32))] at hQ44
      obtain ⟨rfl, N44q, e44⟩ := hQ44
      have N44 := Fr.app N42 N44q
      obtain ⟨cla46, Ara46, qa46, Sa46, Na46, Ha46, Ga46⟩ := And.left ⟨V26, trivial⟩
      have hina46 : ¬ ((1 : Int32) < 0 ∨ cla46.slots.size ≤ ((1 : Int32)).toNatClampNeg) := inb_of Sa46 ⟨by decide, by decide⟩
      obtain ⟨fs, hr, hrun, hended, hW, hsame⟩ := X44.leave (v := some (.int (1 : Int32))) (fun h => by rw [Bd.returns] at h; cases h)
      refine ⟨_, _, k45 _ ?_, hrun, hended, _, _, rfl, ?_, ⟨_, rfl⟩, hW, hsame.mono (by decide) (by decide)⟩
      · show Steps p.tables e below (T42.setTop (mkF m 56 #[.val (.int p0), .val (.int p1), .val (.ref b20), .val (.int (0 : Int32)), .val (.int (1 : Int32)), .val (.ref wUNKNOWN)] [(.int (1 : Int32)), (.int (0 : Int32)), (.ref b20), (.ref wUNKNOWN)])) _
        refine st44 _ ?_
        show Steps p.tables e below (T44.setTop (mkF m 59 #[.val (.int p0), .val (.int p1), .val (.ref b20), .val (.int (0 : Int32)), .val (.int (1 : Int32)), .val (.ref wUNKNOWN)] [(.int (1 : Int32)), (.ref b20), (.ref wUNKNOWN)])) _
        refine X44.aaload hx (j := (1 : Int32)) (v := (.ref wUNKNOWN)) (by rw [e44]; exact Ara46.1) (State.isArrayOf_alike hZ.alike Ara46.2.1) rfl Ara46.2.2 hina46 (Ha46.at hina46 rfl) (g := (mkF m 59 #[.val (.int p0), .val (.int p1), .val (.ref b20), .val (.int (0 : Int32)), .val (.int (1 : Int32)), .val (.ref wUNKNOWN)] [(.int (1 : Int32)), (.ref b20), (.ref wUNKNOWN)])) rfl rfl (hb hby at_59) _ ?_
        show Steps p.tables e below (T44.setTop (mkF m 60 #[.val (.int p0), .val (.int p1), .val (.ref b20), .val (.int (0 : Int32)), .val (.int (1 : Int32)), .val (.ref wUNKNOWN)] [(.ref wUNKNOWN), (.ref wUNKNOWN)])) _
        refine Jvm.RoadKit.acmp (g := (mkF m 60 #[.val (.int p0), .val (.int p1), .val (.ref b20), .val (.int (0 : Int32)), .val (.int (1 : Int32)), .val (.ref wUNKNOWN)] [(.ref wUNKNOWN), (.ref wUNKNOWN)])) X44 hx rfl rfl rfl (pc0 := 60) (pc' := 63) (same := true) rfl (hb hby at_60) rfl (decide_eq_true (congrArg Value.ref (rfl : wUNKNOWN = wUNKNOWN))) (by decide) (by decide) ?_
        show Steps p.tables e below (T44.setTop (mkF m 63 #[.val (.int p0), .val (.int p1), .val (.ref b20), .val (.int (0 : Int32)), .val (.int (1 : Int32)), .val (.ref wUNKNOWN)] [])) _
        refine XS.iconst X44.here hx rfl (hb hby at_63) ?_
        show Steps p.tables e below (T44.setTop (mkF m 64 #[.val (.int p0), .val (.int p1), .val (.ref b20), .val (.int (0 : Int32)), .val (.int (1 : Int32)), .val (.ref wUNKNOWN)] [(.int (1 : Int32))])) _
        refine XS.goto X44.here hx rfl (pc0 := 64) (pc' := 68) rfl (hb hby at_64) (by decide) (by decide) ?_
        show Steps p.tables e below (T44.setTop (mkF m 68 #[.val (.int p0), .val (.int p1), .val (.ref b20), .val (.int (0 : Int32)), .val (.int (1 : Int32)), .val (.ref wUNKNOWN)] [(.int (1 : Int32))])) _
        exact retN X44 hx (t := .boolean) Bd.returns (by simp) (hb hby at_68) hr
      · show Q0 Z p0 p1 wFALSE wUNKNOWN wTRUE h0 n0 _ T44.heap _
        rw [e44]
        exact ⟨rfl, N44⟩
    · subst hv32
      obtain ⟨cla47, Ara47, qa47, Sa47, Na47, Ha47, Ga47⟩ := And.left ⟨V26, trivial⟩
      have hina47 : ¬ ((0 : Int32) < 0 ∨ cla47.slots.size ≤ ((0 : Int32)).toNatClampNeg) := inb_of Sa47 ⟨by decide, by decide⟩
      obtain ⟨cla48, Ara48, qa48, Sa48, Na48, Ha48, Ga48⟩ := And.left ⟨V26, trivial⟩
      have hina48 : ¬ ((2 : Int32) < 0 ∨ cla48.slots.size ≤ ((2 : Int32)).toNatClampNeg) := inb_of Sa48 ⟨by decide, by decide⟩
      obtain ⟨cq49, kq49, q49a, q49b, q49c⟩ := isOf hZ e26 (EFALSE.ext EX26)
      obtain ⟨_, _, ⟨T49, L49, k49, n49⟩, -, X49, ⟨Lc49, hQ49, l49, y49, z49⟩, st49⟩ := X26.virtualBack hx (y := (⟨"com/example/turtlehead/turtlehead/Truth", "or", "(Lcom/example/turtlehead/turtlehead/Truth;)Lcom/example/turtlehead/turtlehead/Truth;"⟩ : MethodName)) (z := (⟨"com/example/turtlehead/turtlehead/Truth", "or", "(Lcom/example/turtlehead/turtlehead/Truth;)Lcom/example/turtlehead/turtlehead/Truth;"⟩ : MethodName)) hown (mvT hZ (hw _ (List.mem_of_getElem? (i := 11) rfl))) (mvT hZ (hw _ (List.mem_of_getElem? (i := 12) rfl))) (notFace_of_selects (args := #[]) (mvT hZ (hw _ (List.mem_of_getElem? (i := 14) rfl)))) (mvT hZ (hw _ (List.mem_of_getElem? (i := 14) rfl))) (mvT hZ (hw _ (List.mem_of_getElem? (i := 13) rfl))) (by decide) (backOf (W := 0) (rm2 l Z a0 hw [] wFALSE wTRUE wFALSE wUNKNOWN wTRUE h26 n0 (Nat.le_trans Z0 EX26.1) (W0.ext EX26) ) hZ (hw _ (List.mem_of_getElem? (i := 15) rfl)) (hw _ (List.mem_of_getElem? (i := 3) rfl)) (by decide) (by decide)) q49a q49c (g := (mkF m 45 #[.val (.int p0), .val (.int p1), .val (.ref b20), .val (.int (0 : Int32)), .val (.int (2 : Int32)), .unset] [(.ref wTRUE), (.ref wFALSE)])) rfl (by rw [hml]; rfl) (Steps.refl _) (argsL := [(.ref wTRUE)]) (rest := []) (lenOf pd_0 rfl) rfl (by show 2 * 0 + _ ≤ _; exact Nat.le_of_eq rfl) (hb hby at_45) (fun _ _ => ⟨rfl, e26, (by decide : 1 + 0 ≤ _), (by decide : 3 + 0 ≤ _)⟩)
      dsimp only [Pt.U, Pt.locs, Pt.cells, Pt.slots] at X49 l49 y49 z49 st49 hQ49
      subst l49 y49 z49
      unfold Q2 at hQ49
      have k50 : ∀ t, Steps p.tables e below (T26.setTop (mkF m 45 #[.val (.int p0), .val (.int p1), .val (.ref b20), .val (.int (0 : Int32)), .val (.int (2 : Int32)), .unset] [(.ref wTRUE), (.ref wFALSE)])) t → Steps p.tables e below (s₁.setTop (entryFrame m #[(.int p0), (.int p1)] maxLocals)) t := fun t kt => k31 t (by
        show Steps p.tables e below (T26.setTop (mkF m 38 #[.val (.int p0), .val (.int p1), .val (.ref b20), .val (.int (0 : Int32)), .val (.int (2 : Int32)), .unset] [])) _
        refine XS.aloadN X26.here hx rfl (hb hby at_38) rfl rfl ?_
        show Steps p.tables e below (T26.setTop (mkF m 39 #[.val (.int p0), .val (.int p1), .val (.ref b20), .val (.int (0 : Int32)), .val (.int (2 : Int32)), .unset] [(.ref b20)])) _
        refine XS.iloadN X26.here hx rfl (hb hby at_39) rfl ?_
        show Steps p.tables e below (T26.setTop (mkF m 40 #[.val (.int p0), .val (.int p1), .val (.ref b20), .val (.int (0 : Int32)), .val (.int (2 : Int32)), .unset] [(.int (0 : Int32)), (.ref b20)])) _
        refine X26.aaload hx (j := (0 : Int32)) (v := (.ref wFALSE)) (by rw [e26]; exact Ara47.1) (State.isArrayOf_alike hZ.alike Ara47.2.1) rfl Ara47.2.2 hina47 (Ha47.at hina47 rfl) (g := (mkF m 40 #[.val (.int p0), .val (.int p1), .val (.ref b20), .val (.int (0 : Int32)), .val (.int (2 : Int32)), .unset] [(.int (0 : Int32)), (.ref b20)])) rfl rfl (hb hby at_40) _ ?_
        show Steps p.tables e below (T26.setTop (mkF m 41 #[.val (.int p0), .val (.int p1), .val (.ref b20), .val (.int (0 : Int32)), .val (.int (2 : Int32)), .unset] [(.ref wFALSE)])) _
        refine XS.aloadN X26.here hx rfl (hb hby at_41) rfl rfl ?_
        show Steps p.tables e below (T26.setTop (mkF m 42 #[.val (.int p0), .val (.int p1), .val (.ref b20), .val (.int (0 : Int32)), .val (.int (2 : Int32)), .unset] [(.ref b20), (.ref wFALSE)])) _
        refine XS.iload X26.here hx rfl (hb hby at_42) rfl ?_
        show Steps p.tables e below (T26.setTop (mkF m 44 #[.val (.int p0), .val (.int p1), .val (.ref b20), .val (.int (0 : Int32)), .val (.int (2 : Int32)), .unset] [(.int (2 : Int32)), (.ref b20), (.ref wFALSE)])) _
        refine X26.aaload hx (j := (2 : Int32)) (v := (.ref wTRUE)) (by rw [e26]; exact Ara48.1) (State.isArrayOf_alike hZ.alike Ara48.2.1) rfl Ara48.2.2 hina48 (Ha48.at hina48 rfl) (g := (mkF m 44 #[.val (.int p0), .val (.int p1), .val (.ref b20), .val (.int (0 : Int32)), .val (.int (2 : Int32)), .unset] [(.int (2 : Int32)), (.ref b20), (.ref wFALSE)])) rfl rfl (hb hby at_44) _ ?_
        exact kt)
      rw [((by rw [f2, if_neg ((Fld.ne FFALSE_ordinal FTRUE_ordinal (by decide)) : ¬ (wFALSE = wTRUE)), if_pos (rfl : wTRUE = wTRUE)]) : (f2 wFALSE wTRUE wFALSE wUNKNOWN wTRUE) = wTRUE)] at hQ49
      obtain ⟨rfl, N49q, e49⟩ := hQ49
      have N49 := Fr.app N26' N49q
      obtain ⟨_, _, ⟨T51, L51, k51, n51⟩, -, X51, ⟨Lc51, hQ51, l51, y51, z51⟩, st51⟩ := Jvm.LawKit.callS X49 hx (y := (⟨"java/lang/Math", "max", "(II)I"⟩ : MethodName)) hown (mvT hZ (hw _ (List.mem_of_getElem? (i := 19) rfl))) (mvT hZ (hw _ (List.mem_of_getElem? (i := 20) rfl))) (mvT hZ (hw _ (List.mem_of_getElem? (i := 21) rfl))) (mvT hZ (hw _ (List.mem_of_getElem? (i := 22) rfl))) (by decide) (backOf (W := 2) (rm1 l Z a0 hw [] (0 : Int32) (2 : Int32) h26 n0 (Nat.le_trans Z0 EX26.1) ) hZ (hw _ (List.mem_of_getElem? (i := 22) rfl)) (hw _ (List.mem_of_getElem? (i := 21) rfl)) (by decide) (by decide)) (g := (mkF m 56 #[.val (.int p0), .val (.int p1), .val (.ref b20), .val (.int (0 : Int32)), .val (.int (2 : Int32)), .val (.ref wTRUE)] [(.int (2 : Int32)), (.int (0 : Int32)), (.ref b20), (.ref wTRUE)])) rfl (by rw [hml]; rfl) (argsL := [(.int (0 : Int32)), (.int (2 : Int32))]) (rest := [(.ref b20), (.ref wTRUE)]) (lenOf pd_1 rfl) rfl (by show 2 * 0 + _ ≤ _; exact Nat.le_of_eq rfl) (hb hby at_56) (fun _ _ => ⟨rfl, e49, (by decide : 1 + 0 ≤ _), (by decide : 3 + 0 ≤ _)⟩)
      dsimp only [Pt.U, Pt.locs, Pt.cells, Pt.slots] at X51 l51 y51 z51 st51 hQ51
      subst l51 y51 z51
      unfold Q1 at hQ51
      have k52 : ∀ t, Steps p.tables e below (T49.setTop (mkF m 56 #[.val (.int p0), .val (.int p1), .val (.ref b20), .val (.int (0 : Int32)), .val (.int (2 : Int32)), .val (.ref wTRUE)] [(.int (2 : Int32)), (.int (0 : Int32)), (.ref b20), (.ref wTRUE)])) t → Steps p.tables e below (s₁.setTop (entryFrame m #[(.int p0), (.int p1)] maxLocals)) t := fun t kt => k50 t (by
        show Steps p.tables e below (T26.setTop (mkF m 45 #[.val (.int p0), .val (.int p1), .val (.ref b20), .val (.int (0 : Int32)), .val (.int (2 : Int32)), .unset] [(.ref wTRUE), (.ref wFALSE)])) _
        refine st49.trans ?_
        show Steps p.tables e below (T49.setTop (mkF m 48 #[.val (.int p0), .val (.int p1), .val (.ref b20), .val (.int (0 : Int32)), .val (.int (2 : Int32)), .unset] [(.ref wTRUE)])) _
        refine XS.astore X49.here hx rfl (hb hby at_48) rfl rfl (l' := #[.val (.int p0), .val (.int p1), .val (.ref b20), .val (.int (0 : Int32)), .val (.int (2 : Int32)), .val (.ref wTRUE)]) rfl ?_
        show Steps p.tables e below (T49.setTop (mkF m 50 #[.val (.int p0), .val (.int p1), .val (.ref b20), .val (.int (0 : Int32)), .val (.int (2 : Int32)), .val (.ref wTRUE)] [])) _
        refine XS.aload X49.here hx rfl (hb hby at_50) rfl rfl ?_
        show Steps p.tables e below (T49.setTop (mkF m 52 #[.val (.int p0), .val (.int p1), .val (.ref b20), .val (.int (0 : Int32)), .val (.int (2 : Int32)), .val (.ref wTRUE)] [(.ref wTRUE)])) _
        refine XS.aloadN X49.here hx rfl (hb hby at_52) rfl rfl ?_
        show Steps p.tables e below (T49.setTop (mkF m 53 #[.val (.int p0), .val (.int p1), .val (.ref b20), .val (.int (0 : Int32)), .val (.int (2 : Int32)), .val (.ref wTRUE)] [(.ref b20), (.ref wTRUE)])) _
        refine XS.iloadN X49.here hx rfl (hb hby at_53) rfl ?_
        show Steps p.tables e below (T49.setTop (mkF m 54 #[.val (.int p0), .val (.int p1), .val (.ref b20), .val (.int (0 : Int32)), .val (.int (2 : Int32)), .val (.ref wTRUE)] [(.int (0 : Int32)), (.ref b20), (.ref wTRUE)])) _
        refine XS.iload X49.here hx rfl (hb hby at_54) rfl ?_
        exact kt)
      rw [((by rw [f1, if_pos ((by decide) : (0 : Int32) < (2 : Int32))]) : (f1 (0 : Int32) (2 : Int32)) = (2 : Int32))] at hQ51
      obtain ⟨rfl, N51q, e51⟩ := hQ51
      have N51 := Fr.app N49 N51q
      obtain ⟨cla53, Ara53, qa53, Sa53, Na53, Ha53, Ga53⟩ := And.left ⟨V26, trivial⟩
      have hina53 : ¬ ((2 : Int32) < 0 ∨ cla53.slots.size ≤ ((2 : Int32)).toNatClampNeg) := inb_of Sa53 ⟨by decide, by decide⟩
      obtain ⟨fs, hr, hrun, hended, hW, hsame⟩ := X51.leave (v := some (.int (1 : Int32))) (fun h => by rw [Bd.returns] at h; cases h)
      refine ⟨_, _, k52 _ ?_, hrun, hended, _, _, rfl, ?_, ⟨_, rfl⟩, hW, hsame.mono (by decide) (by decide)⟩
      · show Steps p.tables e below (T49.setTop (mkF m 56 #[.val (.int p0), .val (.int p1), .val (.ref b20), .val (.int (0 : Int32)), .val (.int (2 : Int32)), .val (.ref wTRUE)] [(.int (2 : Int32)), (.int (0 : Int32)), (.ref b20), (.ref wTRUE)])) _
        refine st51 _ ?_
        show Steps p.tables e below (T51.setTop (mkF m 59 #[.val (.int p0), .val (.int p1), .val (.ref b20), .val (.int (0 : Int32)), .val (.int (2 : Int32)), .val (.ref wTRUE)] [(.int (2 : Int32)), (.ref b20), (.ref wTRUE)])) _
        refine X51.aaload hx (j := (2 : Int32)) (v := (.ref wTRUE)) (by rw [e51]; exact Ara53.1) (State.isArrayOf_alike hZ.alike Ara53.2.1) rfl Ara53.2.2 hina53 (Ha53.at hina53 rfl) (g := (mkF m 59 #[.val (.int p0), .val (.int p1), .val (.ref b20), .val (.int (0 : Int32)), .val (.int (2 : Int32)), .val (.ref wTRUE)] [(.int (2 : Int32)), (.ref b20), (.ref wTRUE)])) rfl rfl (hb hby at_59) _ ?_
        show Steps p.tables e below (T51.setTop (mkF m 60 #[.val (.int p0), .val (.int p1), .val (.ref b20), .val (.int (0 : Int32)), .val (.int (2 : Int32)), .val (.ref wTRUE)] [(.ref wTRUE), (.ref wTRUE)])) _
        refine Jvm.RoadKit.acmp (g := (mkF m 60 #[.val (.int p0), .val (.int p1), .val (.ref b20), .val (.int (0 : Int32)), .val (.int (2 : Int32)), .val (.ref wTRUE)] [(.ref wTRUE), (.ref wTRUE)])) X51 hx rfl rfl rfl (pc0 := 60) (pc' := 63) (same := true) rfl (hb hby at_60) rfl (decide_eq_true (congrArg Value.ref (rfl : wTRUE = wTRUE))) (by decide) (by decide) ?_
        show Steps p.tables e below (T51.setTop (mkF m 63 #[.val (.int p0), .val (.int p1), .val (.ref b20), .val (.int (0 : Int32)), .val (.int (2 : Int32)), .val (.ref wTRUE)] [])) _
        refine XS.iconst X51.here hx rfl (hb hby at_63) ?_
        show Steps p.tables e below (T51.setTop (mkF m 64 #[.val (.int p0), .val (.int p1), .val (.ref b20), .val (.int (0 : Int32)), .val (.int (2 : Int32)), .val (.ref wTRUE)] [(.int (1 : Int32))])) _
        refine XS.goto X51.here hx rfl (pc0 := 64) (pc' := 68) rfl (hb hby at_64) (by decide) (by decide) ?_
        show Steps p.tables e below (T51.setTop (mkF m 68 #[.val (.int p0), .val (.int p1), .val (.ref b20), .val (.int (0 : Int32)), .val (.int (2 : Int32)), .val (.ref wTRUE)] [(.int (1 : Int32))])) _
        exact retN X51 hx (t := .boolean) Bd.returns (by simp) (hb hby at_68) hr
      · show Q0 Z p0 p1 wFALSE wUNKNOWN wTRUE h0 n0 _ T51.heap _
        rw [e51]
        exact ⟨rfl, N51⟩
  · subst hv29
    obtain ⟨i54, hi54⟩ : ∃ z, z = ((p1 &&& (2147483647 : Int32)) % (3 : Int32)) := ⟨_, rfl⟩
    have k55 : ∀ t, Steps p.tables e below (T26.setTop (mkF m 38 #[.val (.int p0), .val (.int p1), .val (.ref b20), .val (.int (1 : Int32)), .val (.int i54), .unset] [])) t → Steps p.tables e below (s₁.setTop (entryFrame m #[(.int p0), (.int p1)] maxLocals)) t := fun t kt => k28 t (by
      show Steps p.tables e below (T26.setTop (mkF m 30 #[.val (.int p0), .val (.int p1), .val (.ref b20), .val (.int (1 : Int32)), .unset, .unset] [])) _
      refine XS.iloadN X26.here hx rfl (hb hby at_30) rfl ?_
      show Steps p.tables e below (T26.setTop (mkF m 31 #[.val (.int p0), .val (.int p1), .val (.ref b20), .val (.int (1 : Int32)), .unset, .unset] [(.int p1)])) _
      refine X26.ldcInt hx hown (mvT hZ (hw _ (List.mem_of_getElem? (i := 10) rfl))) (g := (mkF m 31 #[.val (.int p0), .val (.int p1), .val (.ref b20), .val (.int (1 : Int32)), .unset, .unset] [(.int p1)])) rfl (hb hby at_31) _ ?_
      show Steps p.tables e below (T26.setTop (mkF m 33 #[.val (.int p0), .val (.int p1), .val (.ref b20), .val (.int (1 : Int32)), .unset, .unset] [(.int (2147483647 : Int32)), (.int p1)])) _
      refine XS.iand X26.here hx rfl (hb hby at_33) rfl ?_
      show Steps p.tables e below (T26.setTop (mkF m 34 #[.val (.int p0), .val (.int p1), .val (.ref b20), .val (.int (1 : Int32)), .unset, .unset] [(.int (p1 &&& (2147483647 : Int32)))])) _
      refine XS.iconst X26.here hx rfl (hb hby at_34) ?_
      show Steps p.tables e below (T26.setTop (mkF m 35 #[.val (.int p0), .val (.int p1), .val (.ref b20), .val (.int (1 : Int32)), .unset, .unset] [(.int (3 : Int32)), (.int (p1 &&& (2147483647 : Int32)))])) _
      refine iremM X26 hx rfl (hb hby at_35) rfl (by decide) ?_
      rw [← hi54]
      show Steps p.tables e below (T26.setTop (mkF m 36 #[.val (.int p0), .val (.int p1), .val (.ref b20), .val (.int (1 : Int32)), .unset, .unset] [(.int i54)])) _
      refine XS.istore X26.here hx rfl (hb hby at_36) rfl (l' := #[.val (.int p0), .val (.int p1), .val (.ref b20), .val (.int (1 : Int32)), .val (.int i54), .unset]) rfl ?_
      exact kt)
    rcases own_cases3 hi54 with hv56 | hv56 | hv56
    · subst hv56
      obtain ⟨cla57, Ara57, qa57, Sa57, Na57, Ha57, Ga57⟩ := And.left ⟨V26, trivial⟩
      have hina57 : ¬ ((1 : Int32) < 0 ∨ cla57.slots.size ≤ ((1 : Int32)).toNatClampNeg) := inb_of Sa57 ⟨by decide, by decide⟩
      obtain ⟨cla58, Ara58, qa58, Sa58, Na58, Ha58, Ga58⟩ := And.left ⟨V26, trivial⟩
      have hina58 : ¬ ((0 : Int32) < 0 ∨ cla58.slots.size ≤ ((0 : Int32)).toNatClampNeg) := inb_of Sa58 ⟨by decide, by decide⟩
      obtain ⟨cq59, kq59, q59a, q59b, q59c⟩ := isOf hZ e26 (EUNKNOWN.ext EX26)
      obtain ⟨_, _, ⟨T59, L59, k59, n59⟩, -, X59, ⟨Lc59, hQ59, l59, y59, z59⟩, st59⟩ := X26.virtualBack hx (y := (⟨"com/example/turtlehead/turtlehead/Truth", "or", "(Lcom/example/turtlehead/turtlehead/Truth;)Lcom/example/turtlehead/turtlehead/Truth;"⟩ : MethodName)) (z := (⟨"com/example/turtlehead/turtlehead/Truth", "or", "(Lcom/example/turtlehead/turtlehead/Truth;)Lcom/example/turtlehead/turtlehead/Truth;"⟩ : MethodName)) hown (mvT hZ (hw _ (List.mem_of_getElem? (i := 11) rfl))) (mvT hZ (hw _ (List.mem_of_getElem? (i := 12) rfl))) (notFace_of_selects (args := #[]) (mvT hZ (hw _ (List.mem_of_getElem? (i := 14) rfl)))) (mvT hZ (hw _ (List.mem_of_getElem? (i := 14) rfl))) (mvT hZ (hw _ (List.mem_of_getElem? (i := 13) rfl))) (by decide) (backOf (W := 0) (rm2 l Z a0 hw [] wUNKNOWN wFALSE wFALSE wUNKNOWN wTRUE h26 n0 (Nat.le_trans Z0 EX26.1) (W0.ext EX26) ) hZ (hw _ (List.mem_of_getElem? (i := 15) rfl)) (hw _ (List.mem_of_getElem? (i := 3) rfl)) (by decide) (by decide)) q59a q59c (g := (mkF m 45 #[.val (.int p0), .val (.int p1), .val (.ref b20), .val (.int (1 : Int32)), .val (.int (0 : Int32)), .unset] [(.ref wFALSE), (.ref wUNKNOWN)])) rfl (by rw [hml]; rfl) (Steps.refl _) (argsL := [(.ref wFALSE)]) (rest := []) (lenOf pd_0 rfl) rfl (by show 2 * 0 + _ ≤ _; exact Nat.le_of_eq rfl) (hb hby at_45) (fun _ _ => ⟨rfl, e26, (by decide : 1 + 0 ≤ _), (by decide : 3 + 0 ≤ _)⟩)
      dsimp only [Pt.U, Pt.locs, Pt.cells, Pt.slots] at X59 l59 y59 z59 st59 hQ59
      subst l59 y59 z59
      unfold Q2 at hQ59
      have k60 : ∀ t, Steps p.tables e below (T26.setTop (mkF m 45 #[.val (.int p0), .val (.int p1), .val (.ref b20), .val (.int (1 : Int32)), .val (.int (0 : Int32)), .unset] [(.ref wFALSE), (.ref wUNKNOWN)])) t → Steps p.tables e below (s₁.setTop (entryFrame m #[(.int p0), (.int p1)] maxLocals)) t := fun t kt => k55 t (by
        show Steps p.tables e below (T26.setTop (mkF m 38 #[.val (.int p0), .val (.int p1), .val (.ref b20), .val (.int (1 : Int32)), .val (.int (0 : Int32)), .unset] [])) _
        refine XS.aloadN X26.here hx rfl (hb hby at_38) rfl rfl ?_
        show Steps p.tables e below (T26.setTop (mkF m 39 #[.val (.int p0), .val (.int p1), .val (.ref b20), .val (.int (1 : Int32)), .val (.int (0 : Int32)), .unset] [(.ref b20)])) _
        refine XS.iloadN X26.here hx rfl (hb hby at_39) rfl ?_
        show Steps p.tables e below (T26.setTop (mkF m 40 #[.val (.int p0), .val (.int p1), .val (.ref b20), .val (.int (1 : Int32)), .val (.int (0 : Int32)), .unset] [(.int (1 : Int32)), (.ref b20)])) _
        refine X26.aaload hx (j := (1 : Int32)) (v := (.ref wUNKNOWN)) (by rw [e26]; exact Ara57.1) (State.isArrayOf_alike hZ.alike Ara57.2.1) rfl Ara57.2.2 hina57 (Ha57.at hina57 rfl) (g := (mkF m 40 #[.val (.int p0), .val (.int p1), .val (.ref b20), .val (.int (1 : Int32)), .val (.int (0 : Int32)), .unset] [(.int (1 : Int32)), (.ref b20)])) rfl rfl (hb hby at_40) _ ?_
        show Steps p.tables e below (T26.setTop (mkF m 41 #[.val (.int p0), .val (.int p1), .val (.ref b20), .val (.int (1 : Int32)), .val (.int (0 : Int32)), .unset] [(.ref wUNKNOWN)])) _
        refine XS.aloadN X26.here hx rfl (hb hby at_41) rfl rfl ?_
        show Steps p.tables e below (T26.setTop (mkF m 42 #[.val (.int p0), .val (.int p1), .val (.ref b20), .val (.int (1 : Int32)), .val (.int (0 : Int32)), .unset] [(.ref b20), (.ref wUNKNOWN)])) _
        refine XS.iload X26.here hx rfl (hb hby at_42) rfl ?_
        show Steps p.tables e below (T26.setTop (mkF m 44 #[.val (.int p0), .val (.int p1), .val (.ref b20), .val (.int (1 : Int32)), .val (.int (0 : Int32)), .unset] [(.int (0 : Int32)), (.ref b20), (.ref wUNKNOWN)])) _
        refine X26.aaload hx (j := (0 : Int32)) (v := (.ref wFALSE)) (by rw [e26]; exact Ara58.1) (State.isArrayOf_alike hZ.alike Ara58.2.1) rfl Ara58.2.2 hina58 (Ha58.at hina58 rfl) (g := (mkF m 44 #[.val (.int p0), .val (.int p1), .val (.ref b20), .val (.int (1 : Int32)), .val (.int (0 : Int32)), .unset] [(.int (0 : Int32)), (.ref b20), (.ref wUNKNOWN)])) rfl rfl (hb hby at_44) _ ?_
        exact kt)
      rw [((by rw [f2, if_neg ((Fld.ne FUNKNOWN_ordinal FTRUE_ordinal (by decide)) : ¬ (wUNKNOWN = wTRUE)), if_neg ((Fld.ne FFALSE_ordinal FTRUE_ordinal (by decide)) : ¬ (wFALSE = wTRUE)), if_pos (rfl : wUNKNOWN = wUNKNOWN)]) : (f2 wUNKNOWN wFALSE wFALSE wUNKNOWN wTRUE) = wUNKNOWN)] at hQ59
      obtain ⟨rfl, N59q, e59⟩ := hQ59
      have N59 := Fr.app N26' N59q
      obtain ⟨_, _, ⟨T61, L61, k61, n61⟩, -, X61, ⟨Lc61, hQ61, l61, y61, z61⟩, st61⟩ := Jvm.LawKit.callS X59 hx (y := (⟨"java/lang/Math", "max", "(II)I"⟩ : MethodName)) hown (mvT hZ (hw _ (List.mem_of_getElem? (i := 19) rfl))) (mvT hZ (hw _ (List.mem_of_getElem? (i := 20) rfl))) (mvT hZ (hw _ (List.mem_of_getElem? (i := 21) rfl))) (mvT hZ (hw _ (List.mem_of_getElem? (i := 22) rfl))) (by decide) (backOf (W := 2) (rm1 l Z a0 hw [] (1 : Int32) (0 : Int32) h26 n0 (Nat.le_trans Z0 EX26.1) ) hZ (hw _ (List.mem_of_getElem? (i := 22) rfl)) (hw _ (List.mem_of_getElem? (i := 21) rfl)) (by decide) (by decide)) (g := (mkF m 56 #[.val (.int p0), .val (.int p1), .val (.ref b20), .val (.int (1 : Int32)), .val (.int (0 : Int32)), .val (.ref wUNKNOWN)] [(.int (0 : Int32)), (.int (1 : Int32)), (.ref b20), (.ref wUNKNOWN)])) rfl (by rw [hml]; rfl) (argsL := [(.int (1 : Int32)), (.int (0 : Int32))]) (rest := [(.ref b20), (.ref wUNKNOWN)]) (lenOf pd_1 rfl) rfl (by show 2 * 0 + _ ≤ _; exact Nat.le_of_eq rfl) (hb hby at_56) (fun _ _ => ⟨rfl, e59, (by decide : 1 + 0 ≤ _), (by decide : 3 + 0 ≤ _)⟩)
      dsimp only [Pt.U, Pt.locs, Pt.cells, Pt.slots] at X61 l61 y61 z61 st61 hQ61
      subst l61 y61 z61
      unfold Q1 at hQ61
      have k62 : ∀ t, Steps p.tables e below (T59.setTop (mkF m 56 #[.val (.int p0), .val (.int p1), .val (.ref b20), .val (.int (1 : Int32)), .val (.int (0 : Int32)), .val (.ref wUNKNOWN)] [(.int (0 : Int32)), (.int (1 : Int32)), (.ref b20), (.ref wUNKNOWN)])) t → Steps p.tables e below (s₁.setTop (entryFrame m #[(.int p0), (.int p1)] maxLocals)) t := fun t kt => k60 t (by
        show Steps p.tables e below (T26.setTop (mkF m 45 #[.val (.int p0), .val (.int p1), .val (.ref b20), .val (.int (1 : Int32)), .val (.int (0 : Int32)), .unset] [(.ref wFALSE), (.ref wUNKNOWN)])) _
        refine st59.trans ?_
        show Steps p.tables e below (T59.setTop (mkF m 48 #[.val (.int p0), .val (.int p1), .val (.ref b20), .val (.int (1 : Int32)), .val (.int (0 : Int32)), .unset] [(.ref wUNKNOWN)])) _
        refine XS.astore X59.here hx rfl (hb hby at_48) rfl rfl (l' := #[.val (.int p0), .val (.int p1), .val (.ref b20), .val (.int (1 : Int32)), .val (.int (0 : Int32)), .val (.ref wUNKNOWN)]) rfl ?_
        show Steps p.tables e below (T59.setTop (mkF m 50 #[.val (.int p0), .val (.int p1), .val (.ref b20), .val (.int (1 : Int32)), .val (.int (0 : Int32)), .val (.ref wUNKNOWN)] [])) _
        refine XS.aload X59.here hx rfl (hb hby at_50) rfl rfl ?_
        show Steps p.tables e below (T59.setTop (mkF m 52 #[.val (.int p0), .val (.int p1), .val (.ref b20), .val (.int (1 : Int32)), .val (.int (0 : Int32)), .val (.ref wUNKNOWN)] [(.ref wUNKNOWN)])) _
        refine XS.aloadN X59.here hx rfl (hb hby at_52) rfl rfl ?_
        show Steps p.tables e below (T59.setTop (mkF m 53 #[.val (.int p0), .val (.int p1), .val (.ref b20), .val (.int (1 : Int32)), .val (.int (0 : Int32)), .val (.ref wUNKNOWN)] [(.ref b20), (.ref wUNKNOWN)])) _
        refine XS.iloadN X59.here hx rfl (hb hby at_53) rfl ?_
        show Steps p.tables e below (T59.setTop (mkF m 54 #[.val (.int p0), .val (.int p1), .val (.ref b20), .val (.int (1 : Int32)), .val (.int (0 : Int32)), .val (.ref wUNKNOWN)] [(.int (1 : Int32)), (.ref b20), (.ref wUNKNOWN)])) _
        refine XS.iload X59.here hx rfl (hb hby at_54) rfl ?_
        exact kt)
      rw [((by rw [f1, if_neg ((by decide) : ¬ ((1 : Int32) < (0 : Int32)))]) : (f1 (1 : Int32) (0 : Int32)) = (1 : Int32))] at hQ61
      obtain ⟨rfl, N61q, e61⟩ := hQ61
      have N61 := Fr.app N59 N61q
      obtain ⟨cla63, Ara63, qa63, Sa63, Na63, Ha63, Ga63⟩ := And.left ⟨V26, trivial⟩
      have hina63 : ¬ ((1 : Int32) < 0 ∨ cla63.slots.size ≤ ((1 : Int32)).toNatClampNeg) := inb_of Sa63 ⟨by decide, by decide⟩
      obtain ⟨fs, hr, hrun, hended, hW, hsame⟩ := X61.leave (v := some (.int (1 : Int32))) (fun h => by rw [Bd.returns] at h; cases h)
      refine ⟨_, _, k62 _ ?_, hrun, hended, _, _, rfl, ?_, ⟨_, rfl⟩, hW, hsame.mono (by decide) (by decide)⟩
      · show Steps p.tables e below (T59.setTop (mkF m 56 #[.val (.int p0), .val (.int p1), .val (.ref b20), .val (.int (1 : Int32)), .val (.int (0 : Int32)), .val (.ref wUNKNOWN)] [(.int (0 : Int32)), (.int (1 : Int32)), (.ref b20), (.ref wUNKNOWN)])) _
        refine st61 _ ?_
        show Steps p.tables e below (T61.setTop (mkF m 59 #[.val (.int p0), .val (.int p1), .val (.ref b20), .val (.int (1 : Int32)), .val (.int (0 : Int32)), .val (.ref wUNKNOWN)] [(.int (1 : Int32)), (.ref b20), (.ref wUNKNOWN)])) _
        refine X61.aaload hx (j := (1 : Int32)) (v := (.ref wUNKNOWN)) (by rw [e61]; exact Ara63.1) (State.isArrayOf_alike hZ.alike Ara63.2.1) rfl Ara63.2.2 hina63 (Ha63.at hina63 rfl) (g := (mkF m 59 #[.val (.int p0), .val (.int p1), .val (.ref b20), .val (.int (1 : Int32)), .val (.int (0 : Int32)), .val (.ref wUNKNOWN)] [(.int (1 : Int32)), (.ref b20), (.ref wUNKNOWN)])) rfl rfl (hb hby at_59) _ ?_
        show Steps p.tables e below (T61.setTop (mkF m 60 #[.val (.int p0), .val (.int p1), .val (.ref b20), .val (.int (1 : Int32)), .val (.int (0 : Int32)), .val (.ref wUNKNOWN)] [(.ref wUNKNOWN), (.ref wUNKNOWN)])) _
        refine Jvm.RoadKit.acmp (g := (mkF m 60 #[.val (.int p0), .val (.int p1), .val (.ref b20), .val (.int (1 : Int32)), .val (.int (0 : Int32)), .val (.ref wUNKNOWN)] [(.ref wUNKNOWN), (.ref wUNKNOWN)])) X61 hx rfl rfl rfl (pc0 := 60) (pc' := 63) (same := true) rfl (hb hby at_60) rfl (decide_eq_true (congrArg Value.ref (rfl : wUNKNOWN = wUNKNOWN))) (by decide) (by decide) ?_
        show Steps p.tables e below (T61.setTop (mkF m 63 #[.val (.int p0), .val (.int p1), .val (.ref b20), .val (.int (1 : Int32)), .val (.int (0 : Int32)), .val (.ref wUNKNOWN)] [])) _
        refine XS.iconst X61.here hx rfl (hb hby at_63) ?_
        show Steps p.tables e below (T61.setTop (mkF m 64 #[.val (.int p0), .val (.int p1), .val (.ref b20), .val (.int (1 : Int32)), .val (.int (0 : Int32)), .val (.ref wUNKNOWN)] [(.int (1 : Int32))])) _
        refine XS.goto X61.here hx rfl (pc0 := 64) (pc' := 68) rfl (hb hby at_64) (by decide) (by decide) ?_
        show Steps p.tables e below (T61.setTop (mkF m 68 #[.val (.int p0), .val (.int p1), .val (.ref b20), .val (.int (1 : Int32)), .val (.int (0 : Int32)), .val (.ref wUNKNOWN)] [(.int (1 : Int32))])) _
        exact retN X61 hx (t := .boolean) Bd.returns (by simp) (hb hby at_68) hr
      · show Q0 Z p0 p1 wFALSE wUNKNOWN wTRUE h0 n0 _ T61.heap _
        rw [e61]
        exact ⟨rfl, N61⟩
    · subst hv56
      obtain ⟨cla64, Ara64, qa64, Sa64, Na64, Ha64, Ga64⟩ := And.left ⟨V26, trivial⟩
      have hina64 : ¬ ((1 : Int32) < 0 ∨ cla64.slots.size ≤ ((1 : Int32)).toNatClampNeg) := inb_of Sa64 ⟨by decide, by decide⟩
      obtain ⟨cla65, Ara65, qa65, Sa65, Na65, Ha65, Ga65⟩ := And.left ⟨V26, trivial⟩
      have hina65 : ¬ ((1 : Int32) < 0 ∨ cla65.slots.size ≤ ((1 : Int32)).toNatClampNeg) := inb_of Sa65 ⟨by decide, by decide⟩
      obtain ⟨cq66, kq66, q66a, q66b, q66c⟩ := isOf hZ e26 (EUNKNOWN.ext EX26)
      obtain ⟨_, _, ⟨T66, L66, k66, n66⟩, -, X66, ⟨Lc66, hQ66, l66, y66, z66⟩, st66⟩ := X26.virtualBack hx (y := (⟨"com/example/turtlehead/turtlehead/Truth", "or", "(Lcom/example/turtlehead/turtlehead/Truth;)Lcom/example/turtlehead/turtlehead/Truth;"⟩ : MethodName)) (z := (⟨"com/example/turtlehead/turtlehead/Truth", "or", "(Lcom/example/turtlehead/turtlehead/Truth;)Lcom/example/turtlehead/turtlehead/Truth;"⟩ : MethodName)) hown (mvT hZ (hw _ (List.mem_of_getElem? (i := 11) rfl))) (mvT hZ (hw _ (List.mem_of_getElem? (i := 12) rfl))) (notFace_of_selects (args := #[]) (mvT hZ (hw _ (List.mem_of_getElem? (i := 14) rfl)))) (mvT hZ (hw _ (List.mem_of_getElem? (i := 14) rfl))) (mvT hZ (hw _ (List.mem_of_getElem? (i := 13) rfl))) (by decide) (backOf (W := 0) (rm2 l Z a0 hw [] wUNKNOWN wUNKNOWN wFALSE wUNKNOWN wTRUE h26 n0 (Nat.le_trans Z0 EX26.1) (W0.ext EX26) ) hZ (hw _ (List.mem_of_getElem? (i := 15) rfl)) (hw _ (List.mem_of_getElem? (i := 3) rfl)) (by decide) (by decide)) q66a q66c (g := (mkF m 45 #[.val (.int p0), .val (.int p1), .val (.ref b20), .val (.int (1 : Int32)), .val (.int (1 : Int32)), .unset] [(.ref wUNKNOWN), (.ref wUNKNOWN)])) rfl (by rw [hml]; rfl) (Steps.refl _) (argsL := [(.ref wUNKNOWN)]) (rest := []) (lenOf pd_0 rfl) rfl (by show 2 * 0 + _ ≤ _; exact Nat.le_of_eq rfl) (hb hby at_45) (fun _ _ => ⟨rfl, e26, (by decide : 1 + 0 ≤ _), (by decide : 3 + 0 ≤ _)⟩)
      dsimp only [Pt.U, Pt.locs, Pt.cells, Pt.slots] at X66 l66 y66 z66 st66 hQ66
      subst l66 y66 z66
      unfold Q2 at hQ66
      have k67 : ∀ t, Steps p.tables e below (T26.setTop (mkF m 45 #[.val (.int p0), .val (.int p1), .val (.ref b20), .val (.int (1 : Int32)), .val (.int (1 : Int32)), .unset] [(.ref wUNKNOWN), (.ref wUNKNOWN)])) t → Steps p.tables e below (s₁.setTop (entryFrame m #[(.int p0), (.int p1)] maxLocals)) t := fun t kt => k55 t (by
        show Steps p.tables e below (T26.setTop (mkF m 38 #[.val (.int p0), .val (.int p1), .val (.ref b20), .val (.int (1 : Int32)), .val (.int (1 : Int32)), .unset] [])) _
        refine XS.aloadN X26.here hx rfl (hb hby at_38) rfl rfl ?_
        show Steps p.tables e below (T26.setTop (mkF m 39 #[.val (.int p0), .val (.int p1), .val (.ref b20), .val (.int (1 : Int32)), .val (.int (1 : Int32)), .unset] [(.ref b20)])) _
        refine XS.iloadN X26.here hx rfl (hb hby at_39) rfl ?_
        show Steps p.tables e below (T26.setTop (mkF m 40 #[.val (.int p0), .val (.int p1), .val (.ref b20), .val (.int (1 : Int32)), .val (.int (1 : Int32)), .unset] [(.int (1 : Int32)), (.ref b20)])) _
        refine X26.aaload hx (j := (1 : Int32)) (v := (.ref wUNKNOWN)) (by rw [e26]; exact Ara64.1) (State.isArrayOf_alike hZ.alike Ara64.2.1) rfl Ara64.2.2 hina64 (Ha64.at hina64 rfl) (g := (mkF m 40 #[.val (.int p0), .val (.int p1), .val (.ref b20), .val (.int (1 : Int32)), .val (.int (1 : Int32)), .unset] [(.int (1 : Int32)), (.ref b20)])) rfl rfl (hb hby at_40) _ ?_
        show Steps p.tables e below (T26.setTop (mkF m 41 #[.val (.int p0), .val (.int p1), .val (.ref b20), .val (.int (1 : Int32)), .val (.int (1 : Int32)), .unset] [(.ref wUNKNOWN)])) _
        refine XS.aloadN X26.here hx rfl (hb hby at_41) rfl rfl ?_
        show Steps p.tables e below (T26.setTop (mkF m 42 #[.val (.int p0), .val (.int p1), .val (.ref b20), .val (.int (1 : Int32)), .val (.int (1 : Int32)), .unset] [(.ref b20), (.ref wUNKNOWN)])) _
        refine XS.iload X26.here hx rfl (hb hby at_42) rfl ?_
        show Steps p.tables e below (T26.setTop (mkF m 44 #[.val (.int p0), .val (.int p1), .val (.ref b20), .val (.int (1 : Int32)), .val (.int (1 : Int32)), .unset] [(.int (1 : Int32)), (.ref b20), (.ref wUNKNOWN)])) _
        refine X26.aaload hx (j := (1 : Int32)) (v := (.ref wUNKNOWN)) (by rw [e26]; exact Ara65.1) (State.isArrayOf_alike hZ.alike Ara65.2.1) rfl Ara65.2.2 hina65 (Ha65.at hina65 rfl) (g := (mkF m 44 #[.val (.int p0), .val (.int p1), .val (.ref b20), .val (.int (1 : Int32)), .val (.int (1 : Int32)), .unset] [(.int (1 : Int32)), (.ref b20), (.ref wUNKNOWN)])) rfl rfl (hb hby at_44) _ ?_
        exact kt)
      rw [((by rw [f2, if_neg ((Fld.ne FUNKNOWN_ordinal FTRUE_ordinal (by decide)) : ¬ (wUNKNOWN = wTRUE)), if_neg ((Fld.ne FUNKNOWN_ordinal FTRUE_ordinal (by decide)) : ¬ (wUNKNOWN = wTRUE)), if_pos (rfl : wUNKNOWN = wUNKNOWN)]) : (f2 wUNKNOWN wUNKNOWN wFALSE wUNKNOWN wTRUE) = wUNKNOWN)] at hQ66
      obtain ⟨rfl, N66q, e66⟩ := hQ66
      have N66 := Fr.app N26' N66q
      obtain ⟨_, _, ⟨T68, L68, k68, n68⟩, -, X68, ⟨Lc68, hQ68, l68, y68, z68⟩, st68⟩ := Jvm.LawKit.callS X66 hx (y := (⟨"java/lang/Math", "max", "(II)I"⟩ : MethodName)) hown (mvT hZ (hw _ (List.mem_of_getElem? (i := 19) rfl))) (mvT hZ (hw _ (List.mem_of_getElem? (i := 20) rfl))) (mvT hZ (hw _ (List.mem_of_getElem? (i := 21) rfl))) (mvT hZ (hw _ (List.mem_of_getElem? (i := 22) rfl))) (by decide) (backOf (W := 2) (rm1 l Z a0 hw [] (1 : Int32) (1 : Int32) h26 n0 (Nat.le_trans Z0 EX26.1) ) hZ (hw _ (List.mem_of_getElem? (i := 22) rfl)) (hw _ (List.mem_of_getElem? (i := 21) rfl)) (by decide) (by decide)) (g := (mkF m 56 #[.val (.int p0), .val (.int p1), .val (.ref b20), .val (.int (1 : Int32)), .val (.int (1 : Int32)), .val (.ref wUNKNOWN)] [(.int (1 : Int32)), (.int (1 : Int32)), (.ref b20), (.ref wUNKNOWN)])) rfl (by rw [hml]; rfl) (argsL := [(.int (1 : Int32)), (.int (1 : Int32))]) (rest := [(.ref b20), (.ref wUNKNOWN)]) (lenOf pd_1 rfl) rfl (by show 2 * 0 + _ ≤ _; exact Nat.le_of_eq rfl) (hb hby at_56) (fun _ _ => ⟨rfl, e66, (by decide : 1 + 0 ≤ _), (by decide : 3 + 0 ≤ _)⟩)
      dsimp only [Pt.U, Pt.locs, Pt.cells, Pt.slots] at X68 l68 y68 z68 st68 hQ68
      subst l68 y68 z68
      unfold Q1 at hQ68
      have k69 : ∀ t, Steps p.tables e below (T66.setTop (mkF m 56 #[.val (.int p0), .val (.int p1), .val (.ref b20), .val (.int (1 : Int32)), .val (.int (1 : Int32)), .val (.ref wUNKNOWN)] [(.int (1 : Int32)), (.int (1 : Int32)), (.ref b20), (.ref wUNKNOWN)])) t → Steps p.tables e below (s₁.setTop (entryFrame m #[(.int p0), (.int p1)] maxLocals)) t := fun t kt => k67 t (by
        show Steps p.tables e below (T26.setTop (mkF m 45 #[.val (.int p0), .val (.int p1), .val (.ref b20), .val (.int (1 : Int32)), .val (.int (1 : Int32)), .unset] [(.ref wUNKNOWN), (.ref wUNKNOWN)])) _
        refine st66.trans ?_
        show Steps p.tables e below (T66.setTop (mkF m 48 #[.val (.int p0), .val (.int p1), .val (.ref b20), .val (.int (1 : Int32)), .val (.int (1 : Int32)), .unset] [(.ref wUNKNOWN)])) _
        refine XS.astore X66.here hx rfl (hb hby at_48) rfl rfl (l' := #[.val (.int p0), .val (.int p1), .val (.ref b20), .val (.int (1 : Int32)), .val (.int (1 : Int32)), .val (.ref wUNKNOWN)]) rfl ?_
        show Steps p.tables e below (T66.setTop (mkF m 50 #[.val (.int p0), .val (.int p1), .val (.ref b20), .val (.int (1 : Int32)), .val (.int (1 : Int32)), .val (.ref wUNKNOWN)] [])) _
        refine XS.aload X66.here hx rfl (hb hby at_50) rfl rfl ?_
        show Steps p.tables e below (T66.setTop (mkF m 52 #[.val (.int p0), .val (.int p1), .val (.ref b20), .val (.int (1 : Int32)), .val (.int (1 : Int32)), .val (.ref wUNKNOWN)] [(.ref wUNKNOWN)])) _
        refine XS.aloadN X66.here hx rfl (hb hby at_52) rfl rfl ?_
        show Steps p.tables e below (T66.setTop (mkF m 53 #[.val (.int p0), .val (.int p1), .val (.ref b20), .val (.int (1 : Int32)), .val (.int (1 : Int32)), .val (.ref wUNKNOWN)] [(.ref b20), (.ref wUNKNOWN)])) _
        refine XS.iloadN X66.here hx rfl (hb hby at_53) rfl ?_
        show Steps p.tables e below (T66.setTop (mkF m 54 #[.val (.int p0), .val (.int p1), .val (.ref b20), .val (.int (1 : Int32)), .val (.int (1 : Int32)), .val (.ref wUNKNOWN)] [(.int (1 : Int32)), (.ref b20), (.ref wUNKNOWN)])) _
        refine XS.iload X66.here hx rfl (hb hby at_54) rfl ?_
        exact kt)
      rw [((by rw [f1, if_neg ((by first | exact Int32.lt_irrefl _ | decide) : ¬ ((1 : Int32) < (1 : Int32)))]) : (f1 (1 : Int32) (1 : Int32)) = (1 : Int32))] at hQ68
      obtain ⟨rfl, N68q, e68⟩ := hQ68
      have N68 := Fr.app N66 N68q
      obtain ⟨cla70, Ara70, qa70, Sa70, Na70, Ha70, Ga70⟩ := And.left ⟨V26, trivial⟩
      have hina70 : ¬ ((1 : Int32) < 0 ∨ cla70.slots.size ≤ ((1 : Int32)).toNatClampNeg) := inb_of Sa70 ⟨by decide, by decide⟩
      obtain ⟨fs, hr, hrun, hended, hW, hsame⟩ := X68.leave (v := some (.int (1 : Int32))) (fun h => by rw [Bd.returns] at h; cases h)
      refine ⟨_, _, k69 _ ?_, hrun, hended, _, _, rfl, ?_, ⟨_, rfl⟩, hW, hsame.mono (by decide) (by decide)⟩
      · show Steps p.tables e below (T66.setTop (mkF m 56 #[.val (.int p0), .val (.int p1), .val (.ref b20), .val (.int (1 : Int32)), .val (.int (1 : Int32)), .val (.ref wUNKNOWN)] [(.int (1 : Int32)), (.int (1 : Int32)), (.ref b20), (.ref wUNKNOWN)])) _
        refine st68 _ ?_
        show Steps p.tables e below (T68.setTop (mkF m 59 #[.val (.int p0), .val (.int p1), .val (.ref b20), .val (.int (1 : Int32)), .val (.int (1 : Int32)), .val (.ref wUNKNOWN)] [(.int (1 : Int32)), (.ref b20), (.ref wUNKNOWN)])) _
        refine X68.aaload hx (j := (1 : Int32)) (v := (.ref wUNKNOWN)) (by rw [e68]; exact Ara70.1) (State.isArrayOf_alike hZ.alike Ara70.2.1) rfl Ara70.2.2 hina70 (Ha70.at hina70 rfl) (g := (mkF m 59 #[.val (.int p0), .val (.int p1), .val (.ref b20), .val (.int (1 : Int32)), .val (.int (1 : Int32)), .val (.ref wUNKNOWN)] [(.int (1 : Int32)), (.ref b20), (.ref wUNKNOWN)])) rfl rfl (hb hby at_59) _ ?_
        show Steps p.tables e below (T68.setTop (mkF m 60 #[.val (.int p0), .val (.int p1), .val (.ref b20), .val (.int (1 : Int32)), .val (.int (1 : Int32)), .val (.ref wUNKNOWN)] [(.ref wUNKNOWN), (.ref wUNKNOWN)])) _
        refine Jvm.RoadKit.acmp (g := (mkF m 60 #[.val (.int p0), .val (.int p1), .val (.ref b20), .val (.int (1 : Int32)), .val (.int (1 : Int32)), .val (.ref wUNKNOWN)] [(.ref wUNKNOWN), (.ref wUNKNOWN)])) X68 hx rfl rfl rfl (pc0 := 60) (pc' := 63) (same := true) rfl (hb hby at_60) rfl (decide_eq_true (congrArg Value.ref (rfl : wUNKNOWN = wUNKNOWN))) (by decide) (by decide) ?_
        show Steps p.tables e below (T68.setTop (mkF m 63 #[.val (.int p0), .val (.int p1), .val (.ref b20), .val (.int (1 : Int32)), .val (.int (1 : Int32)), .val (.ref wUNKNOWN)] [])) _
        refine XS.iconst X68.here hx rfl (hb hby at_63) ?_
        show Steps p.tables e below (T68.setTop (mkF m 64 #[.val (.int p0), .val (.int p1), .val (.ref b20), .val (.int (1 : Int32)), .val (.int (1 : Int32)), .val (.ref wUNKNOWN)] [(.int (1 : Int32))])) _
        refine XS.goto X68.here hx rfl (pc0 := 64) (pc' := 68) rfl (hb hby at_64) (by decide) (by decide) ?_
        show Steps p.tables e below (T68.setTop (mkF m 68 #[.val (.int p0), .val (.int p1), .val (.ref b20), .val (.int (1 : Int32)), .val (.int (1 : Int32)), .val (.ref wUNKNOWN)] [(.int (1 : Int32))])) _
        exact retN X68 hx (t := .boolean) Bd.returns (by simp) (hb hby at_68) hr
      · show Q0 Z p0 p1 wFALSE wUNKNOWN wTRUE h0 n0 _ T68.heap _
        rw [e68]
        exact ⟨rfl, N68⟩
    · subst hv56
      obtain ⟨cla71, Ara71, qa71, Sa71, Na71, Ha71, Ga71⟩ := And.left ⟨V26, trivial⟩
      have hina71 : ¬ ((1 : Int32) < 0 ∨ cla71.slots.size ≤ ((1 : Int32)).toNatClampNeg) := inb_of Sa71 ⟨by decide, by decide⟩
      obtain ⟨cla72, Ara72, qa72, Sa72, Na72, Ha72, Ga72⟩ := And.left ⟨V26, trivial⟩
      have hina72 : ¬ ((2 : Int32) < 0 ∨ cla72.slots.size ≤ ((2 : Int32)).toNatClampNeg) := inb_of Sa72 ⟨by decide, by decide⟩
      obtain ⟨cq73, kq73, q73a, q73b, q73c⟩ := isOf hZ e26 (EUNKNOWN.ext EX26)
      obtain ⟨_, _, ⟨T73, L73, k73, n73⟩, -, X73, ⟨Lc73, hQ73, l73, y73, z73⟩, st73⟩ := X26.virtualBack hx (y := (⟨"com/example/turtlehead/turtlehead/Truth", "or", "(Lcom/example/turtlehead/turtlehead/Truth;)Lcom/example/turtlehead/turtlehead/Truth;"⟩ : MethodName)) (z := (⟨"com/example/turtlehead/turtlehead/Truth", "or", "(Lcom/example/turtlehead/turtlehead/Truth;)Lcom/example/turtlehead/turtlehead/Truth;"⟩ : MethodName)) hown (mvT hZ (hw _ (List.mem_of_getElem? (i := 11) rfl))) (mvT hZ (hw _ (List.mem_of_getElem? (i := 12) rfl))) (notFace_of_selects (args := #[]) (mvT hZ (hw _ (List.mem_of_getElem? (i := 14) rfl)))) (mvT hZ (hw _ (List.mem_of_getElem? (i := 14) rfl))) (mvT hZ (hw _ (List.mem_of_getElem? (i := 13) rfl))) (by decide) (backOf (W := 0) (rm2 l Z a0 hw [] wUNKNOWN wTRUE wFALSE wUNKNOWN wTRUE h26 n0 (Nat.le_trans Z0 EX26.1) (W0.ext EX26) ) hZ (hw _ (List.mem_of_getElem? (i := 15) rfl)) (hw _ (List.mem_of_getElem? (i := 3) rfl)) (by decide) (by decide)) q73a q73c (g := (mkF m 45 #[.val (.int p0), .val (.int p1), .val (.ref b20), .val (.int (1 : Int32)), .val (.int (2 : Int32)), .unset] [(.ref wTRUE), (.ref wUNKNOWN)])) rfl (by rw [hml]; rfl) (Steps.refl _) (argsL := [(.ref wTRUE)]) (rest := []) (lenOf pd_0 rfl) rfl (by show 2 * 0 + _ ≤ _; exact Nat.le_of_eq rfl) (hb hby at_45) (fun _ _ => ⟨rfl, e26, (by decide : 1 + 0 ≤ _), (by decide : 3 + 0 ≤ _)⟩)
      dsimp only [Pt.U, Pt.locs, Pt.cells, Pt.slots] at X73 l73 y73 z73 st73 hQ73
      subst l73 y73 z73
      unfold Q2 at hQ73
      have k74 : ∀ t, Steps p.tables e below (T26.setTop (mkF m 45 #[.val (.int p0), .val (.int p1), .val (.ref b20), .val (.int (1 : Int32)), .val (.int (2 : Int32)), .unset] [(.ref wTRUE), (.ref wUNKNOWN)])) t → Steps p.tables e below (s₁.setTop (entryFrame m #[(.int p0), (.int p1)] maxLocals)) t := fun t kt => k55 t (by
        show Steps p.tables e below (T26.setTop (mkF m 38 #[.val (.int p0), .val (.int p1), .val (.ref b20), .val (.int (1 : Int32)), .val (.int (2 : Int32)), .unset] [])) _
        refine XS.aloadN X26.here hx rfl (hb hby at_38) rfl rfl ?_
        show Steps p.tables e below (T26.setTop (mkF m 39 #[.val (.int p0), .val (.int p1), .val (.ref b20), .val (.int (1 : Int32)), .val (.int (2 : Int32)), .unset] [(.ref b20)])) _
        refine XS.iloadN X26.here hx rfl (hb hby at_39) rfl ?_
        show Steps p.tables e below (T26.setTop (mkF m 40 #[.val (.int p0), .val (.int p1), .val (.ref b20), .val (.int (1 : Int32)), .val (.int (2 : Int32)), .unset] [(.int (1 : Int32)), (.ref b20)])) _
        refine X26.aaload hx (j := (1 : Int32)) (v := (.ref wUNKNOWN)) (by rw [e26]; exact Ara71.1) (State.isArrayOf_alike hZ.alike Ara71.2.1) rfl Ara71.2.2 hina71 (Ha71.at hina71 rfl) (g := (mkF m 40 #[.val (.int p0), .val (.int p1), .val (.ref b20), .val (.int (1 : Int32)), .val (.int (2 : Int32)), .unset] [(.int (1 : Int32)), (.ref b20)])) rfl rfl (hb hby at_40) _ ?_
        show Steps p.tables e below (T26.setTop (mkF m 41 #[.val (.int p0), .val (.int p1), .val (.ref b20), .val (.int (1 : Int32)), .val (.int (2 : Int32)), .unset] [(.ref wUNKNOWN)])) _
        refine XS.aloadN X26.here hx rfl (hb hby at_41) rfl rfl ?_
        show Steps p.tables e below (T26.setTop (mkF m 42 #[.val (.int p0), .val (.int p1), .val (.ref b20), .val (.int (1 : Int32)), .val (.int (2 : Int32)), .unset] [(.ref b20), (.ref wUNKNOWN)])) _
        refine XS.iload X26.here hx rfl (hb hby at_42) rfl ?_
        show Steps p.tables e below (T26.setTop (mkF m 44 #[.val (.int p0), .val (.int p1), .val (.ref b20), .val (.int (1 : Int32)), .val (.int (2 : Int32)), .unset] [(.int (2 : Int32)), (.ref b20), (.ref wUNKNOWN)])) _
        refine X26.aaload hx (j := (2 : Int32)) (v := (.ref wTRUE)) (by rw [e26]; exact Ara72.1) (State.isArrayOf_alike hZ.alike Ara72.2.1) rfl Ara72.2.2 hina72 (Ha72.at hina72 rfl) (g := (mkF m 44 #[.val (.int p0), .val (.int p1), .val (.ref b20), .val (.int (1 : Int32)), .val (.int (2 : Int32)), .unset] [(.int (2 : Int32)), (.ref b20), (.ref wUNKNOWN)])) rfl rfl (hb hby at_44) _ ?_
        exact kt)
      rw [((by rw [f2, if_neg ((Fld.ne FUNKNOWN_ordinal FTRUE_ordinal (by decide)) : ¬ (wUNKNOWN = wTRUE)), if_pos (rfl : wTRUE = wTRUE)]) : (f2 wUNKNOWN wTRUE wFALSE wUNKNOWN wTRUE) = wTRUE)] at hQ73
      obtain ⟨rfl, N73q, e73⟩ := hQ73
      have N73 := Fr.app N26' N73q
      obtain ⟨_, _, ⟨T75, L75, k75, n75⟩, -, X75, ⟨Lc75, hQ75, l75, y75, z75⟩, st75⟩ := Jvm.LawKit.callS X73 hx (y := (⟨"java/lang/Math", "max", "(II)I"⟩ : MethodName)) hown (mvT hZ (hw _ (List.mem_of_getElem? (i := 19) rfl))) (mvT hZ (hw _ (List.mem_of_getElem? (i := 20) rfl))) (mvT hZ (hw _ (List.mem_of_getElem? (i := 21) rfl))) (mvT hZ (hw _ (List.mem_of_getElem? (i := 22) rfl))) (by decide) (backOf (W := 2) (rm1 l Z a0 hw [] (1 : Int32) (2 : Int32) h26 n0 (Nat.le_trans Z0 EX26.1) ) hZ (hw _ (List.mem_of_getElem? (i := 22) rfl)) (hw _ (List.mem_of_getElem? (i := 21) rfl)) (by decide) (by decide)) (g := (mkF m 56 #[.val (.int p0), .val (.int p1), .val (.ref b20), .val (.int (1 : Int32)), .val (.int (2 : Int32)), .val (.ref wTRUE)] [(.int (2 : Int32)), (.int (1 : Int32)), (.ref b20), (.ref wTRUE)])) rfl (by rw [hml]; rfl) (argsL := [(.int (1 : Int32)), (.int (2 : Int32))]) (rest := [(.ref b20), (.ref wTRUE)]) (lenOf pd_1 rfl) rfl (by show 2 * 0 + _ ≤ _; exact Nat.le_of_eq rfl) (hb hby at_56) (fun _ _ => ⟨rfl, e73, (by decide : 1 + 0 ≤ _), (by decide : 3 + 0 ≤ _)⟩)
      dsimp only [Pt.U, Pt.locs, Pt.cells, Pt.slots] at X75 l75 y75 z75 st75 hQ75
      subst l75 y75 z75
      unfold Q1 at hQ75
      have k76 : ∀ t, Steps p.tables e below (T73.setTop (mkF m 56 #[.val (.int p0), .val (.int p1), .val (.ref b20), .val (.int (1 : Int32)), .val (.int (2 : Int32)), .val (.ref wTRUE)] [(.int (2 : Int32)), (.int (1 : Int32)), (.ref b20), (.ref wTRUE)])) t → Steps p.tables e below (s₁.setTop (entryFrame m #[(.int p0), (.int p1)] maxLocals)) t := fun t kt => k74 t (by
        show Steps p.tables e below (T26.setTop (mkF m 45 #[.val (.int p0), .val (.int p1), .val (.ref b20), .val (.int (1 : Int32)), .val (.int (2 : Int32)), .unset] [(.ref wTRUE), (.ref wUNKNOWN)])) _
        refine st73.trans ?_
        show Steps p.tables e below (T73.setTop (mkF m 48 #[.val (.int p0), .val (.int p1), .val (.ref b20), .val (.int (1 : Int32)), .val (.int (2 : Int32)), .unset] [(.ref wTRUE)])) _
        refine XS.astore X73.here hx rfl (hb hby at_48) rfl rfl (l' := #[.val (.int p0), .val (.int p1), .val (.ref b20), .val (.int (1 : Int32)), .val (.int (2 : Int32)), .val (.ref wTRUE)]) rfl ?_
        show Steps p.tables e below (T73.setTop (mkF m 50 #[.val (.int p0), .val (.int p1), .val (.ref b20), .val (.int (1 : Int32)), .val (.int (2 : Int32)), .val (.ref wTRUE)] [])) _
        refine XS.aload X73.here hx rfl (hb hby at_50) rfl rfl ?_
        show Steps p.tables e below (T73.setTop (mkF m 52 #[.val (.int p0), .val (.int p1), .val (.ref b20), .val (.int (1 : Int32)), .val (.int (2 : Int32)), .val (.ref wTRUE)] [(.ref wTRUE)])) _
        refine XS.aloadN X73.here hx rfl (hb hby at_52) rfl rfl ?_
        show Steps p.tables e below (T73.setTop (mkF m 53 #[.val (.int p0), .val (.int p1), .val (.ref b20), .val (.int (1 : Int32)), .val (.int (2 : Int32)), .val (.ref wTRUE)] [(.ref b20), (.ref wTRUE)])) _
        refine XS.iloadN X73.here hx rfl (hb hby at_53) rfl ?_
        show Steps p.tables e below (T73.setTop (mkF m 54 #[.val (.int p0), .val (.int p1), .val (.ref b20), .val (.int (1 : Int32)), .val (.int (2 : Int32)), .val (.ref wTRUE)] [(.int (1 : Int32)), (.ref b20), (.ref wTRUE)])) _
        refine XS.iload X73.here hx rfl (hb hby at_54) rfl ?_
        exact kt)
      rw [((by rw [f1, if_pos ((by decide) : (1 : Int32) < (2 : Int32))]) : (f1 (1 : Int32) (2 : Int32)) = (2 : Int32))] at hQ75
      obtain ⟨rfl, N75q, e75⟩ := hQ75
      have N75 := Fr.app N73 N75q
      obtain ⟨cla77, Ara77, qa77, Sa77, Na77, Ha77, Ga77⟩ := And.left ⟨V26, trivial⟩
      have hina77 : ¬ ((2 : Int32) < 0 ∨ cla77.slots.size ≤ ((2 : Int32)).toNatClampNeg) := inb_of Sa77 ⟨by decide, by decide⟩
      obtain ⟨fs, hr, hrun, hended, hW, hsame⟩ := X75.leave (v := some (.int (1 : Int32))) (fun h => by rw [Bd.returns] at h; cases h)
      refine ⟨_, _, k76 _ ?_, hrun, hended, _, _, rfl, ?_, ⟨_, rfl⟩, hW, hsame.mono (by decide) (by decide)⟩
      · show Steps p.tables e below (T73.setTop (mkF m 56 #[.val (.int p0), .val (.int p1), .val (.ref b20), .val (.int (1 : Int32)), .val (.int (2 : Int32)), .val (.ref wTRUE)] [(.int (2 : Int32)), (.int (1 : Int32)), (.ref b20), (.ref wTRUE)])) _
        refine st75 _ ?_
        show Steps p.tables e below (T75.setTop (mkF m 59 #[.val (.int p0), .val (.int p1), .val (.ref b20), .val (.int (1 : Int32)), .val (.int (2 : Int32)), .val (.ref wTRUE)] [(.int (2 : Int32)), (.ref b20), (.ref wTRUE)])) _
        refine X75.aaload hx (j := (2 : Int32)) (v := (.ref wTRUE)) (by rw [e75]; exact Ara77.1) (State.isArrayOf_alike hZ.alike Ara77.2.1) rfl Ara77.2.2 hina77 (Ha77.at hina77 rfl) (g := (mkF m 59 #[.val (.int p0), .val (.int p1), .val (.ref b20), .val (.int (1 : Int32)), .val (.int (2 : Int32)), .val (.ref wTRUE)] [(.int (2 : Int32)), (.ref b20), (.ref wTRUE)])) rfl rfl (hb hby at_59) _ ?_
        show Steps p.tables e below (T75.setTop (mkF m 60 #[.val (.int p0), .val (.int p1), .val (.ref b20), .val (.int (1 : Int32)), .val (.int (2 : Int32)), .val (.ref wTRUE)] [(.ref wTRUE), (.ref wTRUE)])) _
        refine Jvm.RoadKit.acmp (g := (mkF m 60 #[.val (.int p0), .val (.int p1), .val (.ref b20), .val (.int (1 : Int32)), .val (.int (2 : Int32)), .val (.ref wTRUE)] [(.ref wTRUE), (.ref wTRUE)])) X75 hx rfl rfl rfl (pc0 := 60) (pc' := 63) (same := true) rfl (hb hby at_60) rfl (decide_eq_true (congrArg Value.ref (rfl : wTRUE = wTRUE))) (by decide) (by decide) ?_
        show Steps p.tables e below (T75.setTop (mkF m 63 #[.val (.int p0), .val (.int p1), .val (.ref b20), .val (.int (1 : Int32)), .val (.int (2 : Int32)), .val (.ref wTRUE)] [])) _
        refine XS.iconst X75.here hx rfl (hb hby at_63) ?_
        show Steps p.tables e below (T75.setTop (mkF m 64 #[.val (.int p0), .val (.int p1), .val (.ref b20), .val (.int (1 : Int32)), .val (.int (2 : Int32)), .val (.ref wTRUE)] [(.int (1 : Int32))])) _
        refine XS.goto X75.here hx rfl (pc0 := 64) (pc' := 68) rfl (hb hby at_64) (by decide) (by decide) ?_
        show Steps p.tables e below (T75.setTop (mkF m 68 #[.val (.int p0), .val (.int p1), .val (.ref b20), .val (.int (1 : Int32)), .val (.int (2 : Int32)), .val (.ref wTRUE)] [(.int (1 : Int32))])) _
        exact retN X75 hx (t := .boolean) Bd.returns (by simp) (hb hby at_68) hr
      · show Q0 Z p0 p1 wFALSE wUNKNOWN wTRUE h0 n0 _ T75.heap _
        rw [e75]
        exact ⟨rfl, N75⟩
  · subst hv29
    obtain ⟨i78, hi78⟩ : ∃ z, z = ((p1 &&& (2147483647 : Int32)) % (3 : Int32)) := ⟨_, rfl⟩
    have k79 : ∀ t, Steps p.tables e below (T26.setTop (mkF m 38 #[.val (.int p0), .val (.int p1), .val (.ref b20), .val (.int (2 : Int32)), .val (.int i78), .unset] [])) t → Steps p.tables e below (s₁.setTop (entryFrame m #[(.int p0), (.int p1)] maxLocals)) t := fun t kt => k28 t (by
      show Steps p.tables e below (T26.setTop (mkF m 30 #[.val (.int p0), .val (.int p1), .val (.ref b20), .val (.int (2 : Int32)), .unset, .unset] [])) _
      refine XS.iloadN X26.here hx rfl (hb hby at_30) rfl ?_
      show Steps p.tables e below (T26.setTop (mkF m 31 #[.val (.int p0), .val (.int p1), .val (.ref b20), .val (.int (2 : Int32)), .unset, .unset] [(.int p1)])) _
      refine X26.ldcInt hx hown (mvT hZ (hw _ (List.mem_of_getElem? (i := 10) rfl))) (g := (mkF m 31 #[.val (.int p0), .val (.int p1), .val (.ref b20), .val (.int (2 : Int32)), .unset, .unset] [(.int p1)])) rfl (hb hby at_31) _ ?_
      show Steps p.tables e below (T26.setTop (mkF m 33 #[.val (.int p0), .val (.int p1), .val (.ref b20), .val (.int (2 : Int32)), .unset, .unset] [(.int (2147483647 : Int32)), (.int p1)])) _
      refine XS.iand X26.here hx rfl (hb hby at_33) rfl ?_
      show Steps p.tables e below (T26.setTop (mkF m 34 #[.val (.int p0), .val (.int p1), .val (.ref b20), .val (.int (2 : Int32)), .unset, .unset] [(.int (p1 &&& (2147483647 : Int32)))])) _
      refine XS.iconst X26.here hx rfl (hb hby at_34) ?_
      show Steps p.tables e below (T26.setTop (mkF m 35 #[.val (.int p0), .val (.int p1), .val (.ref b20), .val (.int (2 : Int32)), .unset, .unset] [(.int (3 : Int32)), (.int (p1 &&& (2147483647 : Int32)))])) _
      refine iremM X26 hx rfl (hb hby at_35) rfl (by decide) ?_
      rw [← hi78]
      show Steps p.tables e below (T26.setTop (mkF m 36 #[.val (.int p0), .val (.int p1), .val (.ref b20), .val (.int (2 : Int32)), .unset, .unset] [(.int i78)])) _
      refine XS.istore X26.here hx rfl (hb hby at_36) rfl (l' := #[.val (.int p0), .val (.int p1), .val (.ref b20), .val (.int (2 : Int32)), .val (.int i78), .unset]) rfl ?_
      exact kt)
    rcases own_cases3 hi78 with hv80 | hv80 | hv80
    · subst hv80
      obtain ⟨cla81, Ara81, qa81, Sa81, Na81, Ha81, Ga81⟩ := And.left ⟨V26, trivial⟩
      have hina81 : ¬ ((2 : Int32) < 0 ∨ cla81.slots.size ≤ ((2 : Int32)).toNatClampNeg) := inb_of Sa81 ⟨by decide, by decide⟩
      obtain ⟨cla82, Ara82, qa82, Sa82, Na82, Ha82, Ga82⟩ := And.left ⟨V26, trivial⟩
      have hina82 : ¬ ((0 : Int32) < 0 ∨ cla82.slots.size ≤ ((0 : Int32)).toNatClampNeg) := inb_of Sa82 ⟨by decide, by decide⟩
      obtain ⟨cq83, kq83, q83a, q83b, q83c⟩ := isOf hZ e26 (ETRUE.ext EX26)
      obtain ⟨_, _, ⟨T83, L83, k83, n83⟩, -, X83, ⟨Lc83, hQ83, l83, y83, z83⟩, st83⟩ := X26.virtualBack hx (y := (⟨"com/example/turtlehead/turtlehead/Truth", "or", "(Lcom/example/turtlehead/turtlehead/Truth;)Lcom/example/turtlehead/turtlehead/Truth;"⟩ : MethodName)) (z := (⟨"com/example/turtlehead/turtlehead/Truth", "or", "(Lcom/example/turtlehead/turtlehead/Truth;)Lcom/example/turtlehead/turtlehead/Truth;"⟩ : MethodName)) hown (mvT hZ (hw _ (List.mem_of_getElem? (i := 11) rfl))) (mvT hZ (hw _ (List.mem_of_getElem? (i := 12) rfl))) (notFace_of_selects (args := #[]) (mvT hZ (hw _ (List.mem_of_getElem? (i := 14) rfl)))) (mvT hZ (hw _ (List.mem_of_getElem? (i := 14) rfl))) (mvT hZ (hw _ (List.mem_of_getElem? (i := 13) rfl))) (by decide) (backOf (W := 0) (rm2 l Z a0 hw [] wTRUE wFALSE wFALSE wUNKNOWN wTRUE h26 n0 (Nat.le_trans Z0 EX26.1) (W0.ext EX26) ) hZ (hw _ (List.mem_of_getElem? (i := 15) rfl)) (hw _ (List.mem_of_getElem? (i := 3) rfl)) (by decide) (by decide)) q83a q83c (g := (mkF m 45 #[.val (.int p0), .val (.int p1), .val (.ref b20), .val (.int (2 : Int32)), .val (.int (0 : Int32)), .unset] [(.ref wFALSE), (.ref wTRUE)])) rfl (by rw [hml]; rfl) (Steps.refl _) (argsL := [(.ref wFALSE)]) (rest := []) (lenOf pd_0 rfl) rfl (by show 2 * 0 + _ ≤ _; exact Nat.le_of_eq rfl) (hb hby at_45) (fun _ _ => ⟨rfl, e26, (by decide : 1 + 0 ≤ _), (by decide : 3 + 0 ≤ _)⟩)
      dsimp only [Pt.U, Pt.locs, Pt.cells, Pt.slots] at X83 l83 y83 z83 st83 hQ83
      subst l83 y83 z83
      unfold Q2 at hQ83
      have k84 : ∀ t, Steps p.tables e below (T26.setTop (mkF m 45 #[.val (.int p0), .val (.int p1), .val (.ref b20), .val (.int (2 : Int32)), .val (.int (0 : Int32)), .unset] [(.ref wFALSE), (.ref wTRUE)])) t → Steps p.tables e below (s₁.setTop (entryFrame m #[(.int p0), (.int p1)] maxLocals)) t := fun t kt => k79 t (by
        show Steps p.tables e below (T26.setTop (mkF m 38 #[.val (.int p0), .val (.int p1), .val (.ref b20), .val (.int (2 : Int32)), .val (.int (0 : Int32)), .unset] [])) _
        refine XS.aloadN X26.here hx rfl (hb hby at_38) rfl rfl ?_
        show Steps p.tables e below (T26.setTop (mkF m 39 #[.val (.int p0), .val (.int p1), .val (.ref b20), .val (.int (2 : Int32)), .val (.int (0 : Int32)), .unset] [(.ref b20)])) _
        refine XS.iloadN X26.here hx rfl (hb hby at_39) rfl ?_
        show Steps p.tables e below (T26.setTop (mkF m 40 #[.val (.int p0), .val (.int p1), .val (.ref b20), .val (.int (2 : Int32)), .val (.int (0 : Int32)), .unset] [(.int (2 : Int32)), (.ref b20)])) _
        refine X26.aaload hx (j := (2 : Int32)) (v := (.ref wTRUE)) (by rw [e26]; exact Ara81.1) (State.isArrayOf_alike hZ.alike Ara81.2.1) rfl Ara81.2.2 hina81 (Ha81.at hina81 rfl) (g := (mkF m 40 #[.val (.int p0), .val (.int p1), .val (.ref b20), .val (.int (2 : Int32)), .val (.int (0 : Int32)), .unset] [(.int (2 : Int32)), (.ref b20)])) rfl rfl (hb hby at_40) _ ?_
        show Steps p.tables e below (T26.setTop (mkF m 41 #[.val (.int p0), .val (.int p1), .val (.ref b20), .val (.int (2 : Int32)), .val (.int (0 : Int32)), .unset] [(.ref wTRUE)])) _
        refine XS.aloadN X26.here hx rfl (hb hby at_41) rfl rfl ?_
        show Steps p.tables e below (T26.setTop (mkF m 42 #[.val (.int p0), .val (.int p1), .val (.ref b20), .val (.int (2 : Int32)), .val (.int (0 : Int32)), .unset] [(.ref b20), (.ref wTRUE)])) _
        refine XS.iload X26.here hx rfl (hb hby at_42) rfl ?_
        show Steps p.tables e below (T26.setTop (mkF m 44 #[.val (.int p0), .val (.int p1), .val (.ref b20), .val (.int (2 : Int32)), .val (.int (0 : Int32)), .unset] [(.int (0 : Int32)), (.ref b20), (.ref wTRUE)])) _
        refine X26.aaload hx (j := (0 : Int32)) (v := (.ref wFALSE)) (by rw [e26]; exact Ara82.1) (State.isArrayOf_alike hZ.alike Ara82.2.1) rfl Ara82.2.2 hina82 (Ha82.at hina82 rfl) (g := (mkF m 44 #[.val (.int p0), .val (.int p1), .val (.ref b20), .val (.int (2 : Int32)), .val (.int (0 : Int32)), .unset] [(.int (0 : Int32)), (.ref b20), (.ref wTRUE)])) rfl rfl (hb hby at_44) _ ?_
        exact kt)
      rw [((by rw [f2, if_pos (rfl : wTRUE = wTRUE)]) : (f2 wTRUE wFALSE wFALSE wUNKNOWN wTRUE) = wTRUE)] at hQ83
      obtain ⟨rfl, N83q, e83⟩ := hQ83
      have N83 := Fr.app N26' N83q
      obtain ⟨_, _, ⟨T85, L85, k85, n85⟩, -, X85, ⟨Lc85, hQ85, l85, y85, z85⟩, st85⟩ := Jvm.LawKit.callS X83 hx (y := (⟨"java/lang/Math", "max", "(II)I"⟩ : MethodName)) hown (mvT hZ (hw _ (List.mem_of_getElem? (i := 19) rfl))) (mvT hZ (hw _ (List.mem_of_getElem? (i := 20) rfl))) (mvT hZ (hw _ (List.mem_of_getElem? (i := 21) rfl))) (mvT hZ (hw _ (List.mem_of_getElem? (i := 22) rfl))) (by decide) (backOf (W := 2) (rm1 l Z a0 hw [] (2 : Int32) (0 : Int32) h26 n0 (Nat.le_trans Z0 EX26.1) ) hZ (hw _ (List.mem_of_getElem? (i := 22) rfl)) (hw _ (List.mem_of_getElem? (i := 21) rfl)) (by decide) (by decide)) (g := (mkF m 56 #[.val (.int p0), .val (.int p1), .val (.ref b20), .val (.int (2 : Int32)), .val (.int (0 : Int32)), .val (.ref wTRUE)] [(.int (0 : Int32)), (.int (2 : Int32)), (.ref b20), (.ref wTRUE)])) rfl (by rw [hml]; rfl) (argsL := [(.int (2 : Int32)), (.int (0 : Int32))]) (rest := [(.ref b20), (.ref wTRUE)]) (lenOf pd_1 rfl) rfl (by show 2 * 0 + _ ≤ _; exact Nat.le_of_eq rfl) (hb hby at_56) (fun _ _ => ⟨rfl, e83, (by decide : 1 + 0 ≤ _), (by decide : 3 + 0 ≤ _)⟩)
      dsimp only [Pt.U, Pt.locs, Pt.cells, Pt.slots] at X85 l85 y85 z85 st85 hQ85
      subst l85 y85 z85
      unfold Q1 at hQ85
      have k86 : ∀ t, Steps p.tables e below (T83.setTop (mkF m 56 #[.val (.int p0), .val (.int p1), .val (.ref b20), .val (.int (2 : Int32)), .val (.int (0 : Int32)), .val (.ref wTRUE)] [(.int (0 : Int32)), (.int (2 : Int32)), (.ref b20), (.ref wTRUE)])) t → Steps p.tables e below (s₁.setTop (entryFrame m #[(.int p0), (.int p1)] maxLocals)) t := fun t kt => k84 t (by
        show Steps p.tables e below (T26.setTop (mkF m 45 #[.val (.int p0), .val (.int p1), .val (.ref b20), .val (.int (2 : Int32)), .val (.int (0 : Int32)), .unset] [(.ref wFALSE), (.ref wTRUE)])) _
        refine st83.trans ?_
        show Steps p.tables e below (T83.setTop (mkF m 48 #[.val (.int p0), .val (.int p1), .val (.ref b20), .val (.int (2 : Int32)), .val (.int (0 : Int32)), .unset] [(.ref wTRUE)])) _
        refine XS.astore X83.here hx rfl (hb hby at_48) rfl rfl (l' := #[.val (.int p0), .val (.int p1), .val (.ref b20), .val (.int (2 : Int32)), .val (.int (0 : Int32)), .val (.ref wTRUE)]) rfl ?_
        show Steps p.tables e below (T83.setTop (mkF m 50 #[.val (.int p0), .val (.int p1), .val (.ref b20), .val (.int (2 : Int32)), .val (.int (0 : Int32)), .val (.ref wTRUE)] [])) _
        refine XS.aload X83.here hx rfl (hb hby at_50) rfl rfl ?_
        show Steps p.tables e below (T83.setTop (mkF m 52 #[.val (.int p0), .val (.int p1), .val (.ref b20), .val (.int (2 : Int32)), .val (.int (0 : Int32)), .val (.ref wTRUE)] [(.ref wTRUE)])) _
        refine XS.aloadN X83.here hx rfl (hb hby at_52) rfl rfl ?_
        show Steps p.tables e below (T83.setTop (mkF m 53 #[.val (.int p0), .val (.int p1), .val (.ref b20), .val (.int (2 : Int32)), .val (.int (0 : Int32)), .val (.ref wTRUE)] [(.ref b20), (.ref wTRUE)])) _
        refine XS.iloadN X83.here hx rfl (hb hby at_53) rfl ?_
        show Steps p.tables e below (T83.setTop (mkF m 54 #[.val (.int p0), .val (.int p1), .val (.ref b20), .val (.int (2 : Int32)), .val (.int (0 : Int32)), .val (.ref wTRUE)] [(.int (2 : Int32)), (.ref b20), (.ref wTRUE)])) _
        refine XS.iload X83.here hx rfl (hb hby at_54) rfl ?_
        exact kt)
      rw [((by rw [f1, if_neg ((by decide) : ¬ ((2 : Int32) < (0 : Int32)))]) : (f1 (2 : Int32) (0 : Int32)) = (2 : Int32))] at hQ85
      obtain ⟨rfl, N85q, e85⟩ := hQ85
      have N85 := Fr.app N83 N85q
      obtain ⟨cla87, Ara87, qa87, Sa87, Na87, Ha87, Ga87⟩ := And.left ⟨V26, trivial⟩
      have hina87 : ¬ ((2 : Int32) < 0 ∨ cla87.slots.size ≤ ((2 : Int32)).toNatClampNeg) := inb_of Sa87 ⟨by decide, by decide⟩
      obtain ⟨fs, hr, hrun, hended, hW, hsame⟩ := X85.leave (v := some (.int (1 : Int32))) (fun h => by rw [Bd.returns] at h; cases h)
      refine ⟨_, _, k86 _ ?_, hrun, hended, _, _, rfl, ?_, ⟨_, rfl⟩, hW, hsame.mono (by decide) (by decide)⟩
      · show Steps p.tables e below (T83.setTop (mkF m 56 #[.val (.int p0), .val (.int p1), .val (.ref b20), .val (.int (2 : Int32)), .val (.int (0 : Int32)), .val (.ref wTRUE)] [(.int (0 : Int32)), (.int (2 : Int32)), (.ref b20), (.ref wTRUE)])) _
        refine st85 _ ?_
        show Steps p.tables e below (T85.setTop (mkF m 59 #[.val (.int p0), .val (.int p1), .val (.ref b20), .val (.int (2 : Int32)), .val (.int (0 : Int32)), .val (.ref wTRUE)] [(.int (2 : Int32)), (.ref b20), (.ref wTRUE)])) _
        refine X85.aaload hx (j := (2 : Int32)) (v := (.ref wTRUE)) (by rw [e85]; exact Ara87.1) (State.isArrayOf_alike hZ.alike Ara87.2.1) rfl Ara87.2.2 hina87 (Ha87.at hina87 rfl) (g := (mkF m 59 #[.val (.int p0), .val (.int p1), .val (.ref b20), .val (.int (2 : Int32)), .val (.int (0 : Int32)), .val (.ref wTRUE)] [(.int (2 : Int32)), (.ref b20), (.ref wTRUE)])) rfl rfl (hb hby at_59) _ ?_
        show Steps p.tables e below (T85.setTop (mkF m 60 #[.val (.int p0), .val (.int p1), .val (.ref b20), .val (.int (2 : Int32)), .val (.int (0 : Int32)), .val (.ref wTRUE)] [(.ref wTRUE), (.ref wTRUE)])) _
        refine Jvm.RoadKit.acmp (g := (mkF m 60 #[.val (.int p0), .val (.int p1), .val (.ref b20), .val (.int (2 : Int32)), .val (.int (0 : Int32)), .val (.ref wTRUE)] [(.ref wTRUE), (.ref wTRUE)])) X85 hx rfl rfl rfl (pc0 := 60) (pc' := 63) (same := true) rfl (hb hby at_60) rfl (decide_eq_true (congrArg Value.ref (rfl : wTRUE = wTRUE))) (by decide) (by decide) ?_
        show Steps p.tables e below (T85.setTop (mkF m 63 #[.val (.int p0), .val (.int p1), .val (.ref b20), .val (.int (2 : Int32)), .val (.int (0 : Int32)), .val (.ref wTRUE)] [])) _
        refine XS.iconst X85.here hx rfl (hb hby at_63) ?_
        show Steps p.tables e below (T85.setTop (mkF m 64 #[.val (.int p0), .val (.int p1), .val (.ref b20), .val (.int (2 : Int32)), .val (.int (0 : Int32)), .val (.ref wTRUE)] [(.int (1 : Int32))])) _
        refine XS.goto X85.here hx rfl (pc0 := 64) (pc' := 68) rfl (hb hby at_64) (by decide) (by decide) ?_
        show Steps p.tables e below (T85.setTop (mkF m 68 #[.val (.int p0), .val (.int p1), .val (.ref b20), .val (.int (2 : Int32)), .val (.int (0 : Int32)), .val (.ref wTRUE)] [(.int (1 : Int32))])) _
        exact retN X85 hx (t := .boolean) Bd.returns (by simp) (hb hby at_68) hr
      · show Q0 Z p0 p1 wFALSE wUNKNOWN wTRUE h0 n0 _ T85.heap _
        rw [e85]
        exact ⟨rfl, N85⟩
    · subst hv80
      obtain ⟨cla88, Ara88, qa88, Sa88, Na88, Ha88, Ga88⟩ := And.left ⟨V26, trivial⟩
      have hina88 : ¬ ((2 : Int32) < 0 ∨ cla88.slots.size ≤ ((2 : Int32)).toNatClampNeg) := inb_of Sa88 ⟨by decide, by decide⟩
      obtain ⟨cla89, Ara89, qa89, Sa89, Na89, Ha89, Ga89⟩ := And.left ⟨V26, trivial⟩
      have hina89 : ¬ ((1 : Int32) < 0 ∨ cla89.slots.size ≤ ((1 : Int32)).toNatClampNeg) := inb_of Sa89 ⟨by decide, by decide⟩
      obtain ⟨cq90, kq90, q90a, q90b, q90c⟩ := isOf hZ e26 (ETRUE.ext EX26)
      obtain ⟨_, _, ⟨T90, L90, k90, n90⟩, -, X90, ⟨Lc90, hQ90, l90, y90, z90⟩, st90⟩ := X26.virtualBack hx (y := (⟨"com/example/turtlehead/turtlehead/Truth", "or", "(Lcom/example/turtlehead/turtlehead/Truth;)Lcom/example/turtlehead/turtlehead/Truth;"⟩ : MethodName)) (z := (⟨"com/example/turtlehead/turtlehead/Truth", "or", "(Lcom/example/turtlehead/turtlehead/Truth;)Lcom/example/turtlehead/turtlehead/Truth;"⟩ : MethodName)) hown (mvT hZ (hw _ (List.mem_of_getElem? (i := 11) rfl))) (mvT hZ (hw _ (List.mem_of_getElem? (i := 12) rfl))) (notFace_of_selects (args := #[]) (mvT hZ (hw _ (List.mem_of_getElem? (i := 14) rfl)))) (mvT hZ (hw _ (List.mem_of_getElem? (i := 14) rfl))) (mvT hZ (hw _ (List.mem_of_getElem? (i := 13) rfl))) (by decide) (backOf (W := 0) (rm2 l Z a0 hw [] wTRUE wUNKNOWN wFALSE wUNKNOWN wTRUE h26 n0 (Nat.le_trans Z0 EX26.1) (W0.ext EX26) ) hZ (hw _ (List.mem_of_getElem? (i := 15) rfl)) (hw _ (List.mem_of_getElem? (i := 3) rfl)) (by decide) (by decide)) q90a q90c (g := (mkF m 45 #[.val (.int p0), .val (.int p1), .val (.ref b20), .val (.int (2 : Int32)), .val (.int (1 : Int32)), .unset] [(.ref wUNKNOWN), (.ref wTRUE)])) rfl (by rw [hml]; rfl) (Steps.refl _) (argsL := [(.ref wUNKNOWN)]) (rest := []) (lenOf pd_0 rfl) rfl (by show 2 * 0 + _ ≤ _; exact Nat.le_of_eq rfl) (hb hby at_45) (fun _ _ => ⟨rfl, e26, (by decide : 1 + 0 ≤ _), (by decide : 3 + 0 ≤ _)⟩)
      dsimp only [Pt.U, Pt.locs, Pt.cells, Pt.slots] at X90 l90 y90 z90 st90 hQ90
      subst l90 y90 z90
      unfold Q2 at hQ90
      have k91 : ∀ t, Steps p.tables e below (T26.setTop (mkF m 45 #[.val (.int p0), .val (.int p1), .val (.ref b20), .val (.int (2 : Int32)), .val (.int (1 : Int32)), .unset] [(.ref wUNKNOWN), (.ref wTRUE)])) t → Steps p.tables e below (s₁.setTop (entryFrame m #[(.int p0), (.int p1)] maxLocals)) t := fun t kt => k79 t (by
        show Steps p.tables e below (T26.setTop (mkF m 38 #[.val (.int p0), .val (.int p1), .val (.ref b20), .val (.int (2 : Int32)), .val (.int (1 : Int32)), .unset] [])) _
        refine XS.aloadN X26.here hx rfl (hb hby at_38) rfl rfl ?_
        show Steps p.tables e below (T26.setTop (mkF m 39 #[.val (.int p0), .val (.int p1), .val (.ref b20), .val (.int (2 : Int32)), .val (.int (1 : Int32)), .unset] [(.ref b20)])) _
        refine XS.iloadN X26.here hx rfl (hb hby at_39) rfl ?_
        show Steps p.tables e below (T26.setTop (mkF m 40 #[.val (.int p0), .val (.int p1), .val (.ref b20), .val (.int (2 : Int32)), .val (.int (1 : Int32)), .unset] [(.int (2 : Int32)), (.ref b20)])) _
        refine X26.aaload hx (j := (2 : Int32)) (v := (.ref wTRUE)) (by rw [e26]; exact Ara88.1) (State.isArrayOf_alike hZ.alike Ara88.2.1) rfl Ara88.2.2 hina88 (Ha88.at hina88 rfl) (g := (mkF m 40 #[.val (.int p0), .val (.int p1), .val (.ref b20), .val (.int (2 : Int32)), .val (.int (1 : Int32)), .unset] [(.int (2 : Int32)), (.ref b20)])) rfl rfl (hb hby at_40) _ ?_
        show Steps p.tables e below (T26.setTop (mkF m 41 #[.val (.int p0), .val (.int p1), .val (.ref b20), .val (.int (2 : Int32)), .val (.int (1 : Int32)), .unset] [(.ref wTRUE)])) _
        refine XS.aloadN X26.here hx rfl (hb hby at_41) rfl rfl ?_
        show Steps p.tables e below (T26.setTop (mkF m 42 #[.val (.int p0), .val (.int p1), .val (.ref b20), .val (.int (2 : Int32)), .val (.int (1 : Int32)), .unset] [(.ref b20), (.ref wTRUE)])) _
        refine XS.iload X26.here hx rfl (hb hby at_42) rfl ?_
        show Steps p.tables e below (T26.setTop (mkF m 44 #[.val (.int p0), .val (.int p1), .val (.ref b20), .val (.int (2 : Int32)), .val (.int (1 : Int32)), .unset] [(.int (1 : Int32)), (.ref b20), (.ref wTRUE)])) _
        refine X26.aaload hx (j := (1 : Int32)) (v := (.ref wUNKNOWN)) (by rw [e26]; exact Ara89.1) (State.isArrayOf_alike hZ.alike Ara89.2.1) rfl Ara89.2.2 hina89 (Ha89.at hina89 rfl) (g := (mkF m 44 #[.val (.int p0), .val (.int p1), .val (.ref b20), .val (.int (2 : Int32)), .val (.int (1 : Int32)), .unset] [(.int (1 : Int32)), (.ref b20), (.ref wTRUE)])) rfl rfl (hb hby at_44) _ ?_
        exact kt)
      rw [((by rw [f2, if_pos (rfl : wTRUE = wTRUE)]) : (f2 wTRUE wUNKNOWN wFALSE wUNKNOWN wTRUE) = wTRUE)] at hQ90
      obtain ⟨rfl, N90q, e90⟩ := hQ90
      have N90 := Fr.app N26' N90q
      obtain ⟨_, _, ⟨T92, L92, k92, n92⟩, -, X92, ⟨Lc92, hQ92, l92, y92, z92⟩, st92⟩ := Jvm.LawKit.callS X90 hx (y := (⟨"java/lang/Math", "max", "(II)I"⟩ : MethodName)) hown (mvT hZ (hw _ (List.mem_of_getElem? (i := 19) rfl))) (mvT hZ (hw _ (List.mem_of_getElem? (i := 20) rfl))) (mvT hZ (hw _ (List.mem_of_getElem? (i := 21) rfl))) (mvT hZ (hw _ (List.mem_of_getElem? (i := 22) rfl))) (by decide) (backOf (W := 2) (rm1 l Z a0 hw [] (2 : Int32) (1 : Int32) h26 n0 (Nat.le_trans Z0 EX26.1) ) hZ (hw _ (List.mem_of_getElem? (i := 22) rfl)) (hw _ (List.mem_of_getElem? (i := 21) rfl)) (by decide) (by decide)) (g := (mkF m 56 #[.val (.int p0), .val (.int p1), .val (.ref b20), .val (.int (2 : Int32)), .val (.int (1 : Int32)), .val (.ref wTRUE)] [(.int (1 : Int32)), (.int (2 : Int32)), (.ref b20), (.ref wTRUE)])) rfl (by rw [hml]; rfl) (argsL := [(.int (2 : Int32)), (.int (1 : Int32))]) (rest := [(.ref b20), (.ref wTRUE)]) (lenOf pd_1 rfl) rfl (by show 2 * 0 + _ ≤ _; exact Nat.le_of_eq rfl) (hb hby at_56) (fun _ _ => ⟨rfl, e90, (by decide : 1 + 0 ≤ _), (by decide : 3 + 0 ≤ _)⟩)
      dsimp only [Pt.U, Pt.locs, Pt.cells, Pt.slots] at X92 l92 y92 z92 st92 hQ92
      subst l92 y92 z92
      unfold Q1 at hQ92
      have k93 : ∀ t, Steps p.tables e below (T90.setTop (mkF m 56 #[.val (.int p0), .val (.int p1), .val (.ref b20), .val (.int (2 : Int32)), .val (.int (1 : Int32)), .val (.ref wTRUE)] [(.int (1 : Int32)), (.int (2 : Int32)), (.ref b20), (.ref wTRUE)])) t → Steps p.tables e below (s₁.setTop (entryFrame m #[(.int p0), (.int p1)] maxLocals)) t := fun t kt => k91 t (by
        show Steps p.tables e below (T26.setTop (mkF m 45 #[.val (.int p0), .val (.int p1), .val (.ref b20), .val (.int (2 : Int32)), .val (.int (1 : Int32)), .unset] [(.ref wUNKNOWN), (.ref wTRUE)])) _
        refine st90.trans ?_
        show Steps p.tables e below (T90.setTop (mkF m 48 #[.val (.int p0), .val (.int p1), .val (.ref b20), .val (.int (2 : Int32)), .val (.int (1 : Int32)), .unset] [(.ref wTRUE)])) _
        refine XS.astore X90.here hx rfl (hb hby at_48) rfl rfl (l' := #[.val (.int p0), .val (.int p1), .val (.ref b20), .val (.int (2 : Int32)), .val (.int (1 : Int32)), .val (.ref wTRUE)]) rfl ?_
        show Steps p.tables e below (T90.setTop (mkF m 50 #[.val (.int p0), .val (.int p1), .val (.ref b20), .val (.int (2 : Int32)), .val (.int (1 : Int32)), .val (.ref wTRUE)] [])) _
        refine XS.aload X90.here hx rfl (hb hby at_50) rfl rfl ?_
        show Steps p.tables e below (T90.setTop (mkF m 52 #[.val (.int p0), .val (.int p1), .val (.ref b20), .val (.int (2 : Int32)), .val (.int (1 : Int32)), .val (.ref wTRUE)] [(.ref wTRUE)])) _
        refine XS.aloadN X90.here hx rfl (hb hby at_52) rfl rfl ?_
        show Steps p.tables e below (T90.setTop (mkF m 53 #[.val (.int p0), .val (.int p1), .val (.ref b20), .val (.int (2 : Int32)), .val (.int (1 : Int32)), .val (.ref wTRUE)] [(.ref b20), (.ref wTRUE)])) _
        refine XS.iloadN X90.here hx rfl (hb hby at_53) rfl ?_
        show Steps p.tables e below (T90.setTop (mkF m 54 #[.val (.int p0), .val (.int p1), .val (.ref b20), .val (.int (2 : Int32)), .val (.int (1 : Int32)), .val (.ref wTRUE)] [(.int (2 : Int32)), (.ref b20), (.ref wTRUE)])) _
        refine XS.iload X90.here hx rfl (hb hby at_54) rfl ?_
        exact kt)
      rw [((by rw [f1, if_neg ((by decide) : ¬ ((2 : Int32) < (1 : Int32)))]) : (f1 (2 : Int32) (1 : Int32)) = (2 : Int32))] at hQ92
      obtain ⟨rfl, N92q, e92⟩ := hQ92
      have N92 := Fr.app N90 N92q
      obtain ⟨cla94, Ara94, qa94, Sa94, Na94, Ha94, Ga94⟩ := And.left ⟨V26, trivial⟩
      have hina94 : ¬ ((2 : Int32) < 0 ∨ cla94.slots.size ≤ ((2 : Int32)).toNatClampNeg) := inb_of Sa94 ⟨by decide, by decide⟩
      obtain ⟨fs, hr, hrun, hended, hW, hsame⟩ := X92.leave (v := some (.int (1 : Int32))) (fun h => by rw [Bd.returns] at h; cases h)
      refine ⟨_, _, k93 _ ?_, hrun, hended, _, _, rfl, ?_, ⟨_, rfl⟩, hW, hsame.mono (by decide) (by decide)⟩
      · show Steps p.tables e below (T90.setTop (mkF m 56 #[.val (.int p0), .val (.int p1), .val (.ref b20), .val (.int (2 : Int32)), .val (.int (1 : Int32)), .val (.ref wTRUE)] [(.int (1 : Int32)), (.int (2 : Int32)), (.ref b20), (.ref wTRUE)])) _
        refine st92 _ ?_
        show Steps p.tables e below (T92.setTop (mkF m 59 #[.val (.int p0), .val (.int p1), .val (.ref b20), .val (.int (2 : Int32)), .val (.int (1 : Int32)), .val (.ref wTRUE)] [(.int (2 : Int32)), (.ref b20), (.ref wTRUE)])) _
        refine X92.aaload hx (j := (2 : Int32)) (v := (.ref wTRUE)) (by rw [e92]; exact Ara94.1) (State.isArrayOf_alike hZ.alike Ara94.2.1) rfl Ara94.2.2 hina94 (Ha94.at hina94 rfl) (g := (mkF m 59 #[.val (.int p0), .val (.int p1), .val (.ref b20), .val (.int (2 : Int32)), .val (.int (1 : Int32)), .val (.ref wTRUE)] [(.int (2 : Int32)), (.ref b20), (.ref wTRUE)])) rfl rfl (hb hby at_59) _ ?_
        show Steps p.tables e below (T92.setTop (mkF m 60 #[.val (.int p0), .val (.int p1), .val (.ref b20), .val (.int (2 : Int32)), .val (.int (1 : Int32)), .val (.ref wTRUE)] [(.ref wTRUE), (.ref wTRUE)])) _
        refine Jvm.RoadKit.acmp (g := (mkF m 60 #[.val (.int p0), .val (.int p1), .val (.ref b20), .val (.int (2 : Int32)), .val (.int (1 : Int32)), .val (.ref wTRUE)] [(.ref wTRUE), (.ref wTRUE)])) X92 hx rfl rfl rfl (pc0 := 60) (pc' := 63) (same := true) rfl (hb hby at_60) rfl (decide_eq_true (congrArg Value.ref (rfl : wTRUE = wTRUE))) (by decide) (by decide) ?_
        show Steps p.tables e below (T92.setTop (mkF m 63 #[.val (.int p0), .val (.int p1), .val (.ref b20), .val (.int (2 : Int32)), .val (.int (1 : Int32)), .val (.ref wTRUE)] [])) _
        refine XS.iconst X92.here hx rfl (hb hby at_63) ?_
        show Steps p.tables e below (T92.setTop (mkF m 64 #[.val (.int p0), .val (.int p1), .val (.ref b20), .val (.int (2 : Int32)), .val (.int (1 : Int32)), .val (.ref wTRUE)] [(.int (1 : Int32))])) _
        refine XS.goto X92.here hx rfl (pc0 := 64) (pc' := 68) rfl (hb hby at_64) (by decide) (by decide) ?_
        show Steps p.tables e below (T92.setTop (mkF m 68 #[.val (.int p0), .val (.int p1), .val (.ref b20), .val (.int (2 : Int32)), .val (.int (1 : Int32)), .val (.ref wTRUE)] [(.int (1 : Int32))])) _
        exact retN X92 hx (t := .boolean) Bd.returns (by simp) (hb hby at_68) hr
      · show Q0 Z p0 p1 wFALSE wUNKNOWN wTRUE h0 n0 _ T92.heap _
        rw [e92]
        exact ⟨rfl, N92⟩
    · subst hv80
      obtain ⟨cla95, Ara95, qa95, Sa95, Na95, Ha95, Ga95⟩ := And.left ⟨V26, trivial⟩
      have hina95 : ¬ ((2 : Int32) < 0 ∨ cla95.slots.size ≤ ((2 : Int32)).toNatClampNeg) := inb_of Sa95 ⟨by decide, by decide⟩
      obtain ⟨cla96, Ara96, qa96, Sa96, Na96, Ha96, Ga96⟩ := And.left ⟨V26, trivial⟩
      have hina96 : ¬ ((2 : Int32) < 0 ∨ cla96.slots.size ≤ ((2 : Int32)).toNatClampNeg) := inb_of Sa96 ⟨by decide, by decide⟩
      obtain ⟨cq97, kq97, q97a, q97b, q97c⟩ := isOf hZ e26 (ETRUE.ext EX26)
      obtain ⟨_, _, ⟨T97, L97, k97, n97⟩, -, X97, ⟨Lc97, hQ97, l97, y97, z97⟩, st97⟩ := X26.virtualBack hx (y := (⟨"com/example/turtlehead/turtlehead/Truth", "or", "(Lcom/example/turtlehead/turtlehead/Truth;)Lcom/example/turtlehead/turtlehead/Truth;"⟩ : MethodName)) (z := (⟨"com/example/turtlehead/turtlehead/Truth", "or", "(Lcom/example/turtlehead/turtlehead/Truth;)Lcom/example/turtlehead/turtlehead/Truth;"⟩ : MethodName)) hown (mvT hZ (hw _ (List.mem_of_getElem? (i := 11) rfl))) (mvT hZ (hw _ (List.mem_of_getElem? (i := 12) rfl))) (notFace_of_selects (args := #[]) (mvT hZ (hw _ (List.mem_of_getElem? (i := 14) rfl)))) (mvT hZ (hw _ (List.mem_of_getElem? (i := 14) rfl))) (mvT hZ (hw _ (List.mem_of_getElem? (i := 13) rfl))) (by decide) (backOf (W := 0) (rm2 l Z a0 hw [] wTRUE wTRUE wFALSE wUNKNOWN wTRUE h26 n0 (Nat.le_trans Z0 EX26.1) (W0.ext EX26) ) hZ (hw _ (List.mem_of_getElem? (i := 15) rfl)) (hw _ (List.mem_of_getElem? (i := 3) rfl)) (by decide) (by decide)) q97a q97c (g := (mkF m 45 #[.val (.int p0), .val (.int p1), .val (.ref b20), .val (.int (2 : Int32)), .val (.int (2 : Int32)), .unset] [(.ref wTRUE), (.ref wTRUE)])) rfl (by rw [hml]; rfl) (Steps.refl _) (argsL := [(.ref wTRUE)]) (rest := []) (lenOf pd_0 rfl) rfl (by show 2 * 0 + _ ≤ _; exact Nat.le_of_eq rfl) (hb hby at_45) (fun _ _ => ⟨rfl, e26, (by decide : 1 + 0 ≤ _), (by decide : 3 + 0 ≤ _)⟩)
      dsimp only [Pt.U, Pt.locs, Pt.cells, Pt.slots] at X97 l97 y97 z97 st97 hQ97
      subst l97 y97 z97
      unfold Q2 at hQ97
      have k98 : ∀ t, Steps p.tables e below (T26.setTop (mkF m 45 #[.val (.int p0), .val (.int p1), .val (.ref b20), .val (.int (2 : Int32)), .val (.int (2 : Int32)), .unset] [(.ref wTRUE), (.ref wTRUE)])) t → Steps p.tables e below (s₁.setTop (entryFrame m #[(.int p0), (.int p1)] maxLocals)) t := fun t kt => k79 t (by
        show Steps p.tables e below (T26.setTop (mkF m 38 #[.val (.int p0), .val (.int p1), .val (.ref b20), .val (.int (2 : Int32)), .val (.int (2 : Int32)), .unset] [])) _
        refine XS.aloadN X26.here hx rfl (hb hby at_38) rfl rfl ?_
        show Steps p.tables e below (T26.setTop (mkF m 39 #[.val (.int p0), .val (.int p1), .val (.ref b20), .val (.int (2 : Int32)), .val (.int (2 : Int32)), .unset] [(.ref b20)])) _
        refine XS.iloadN X26.here hx rfl (hb hby at_39) rfl ?_
        show Steps p.tables e below (T26.setTop (mkF m 40 #[.val (.int p0), .val (.int p1), .val (.ref b20), .val (.int (2 : Int32)), .val (.int (2 : Int32)), .unset] [(.int (2 : Int32)), (.ref b20)])) _
        refine X26.aaload hx (j := (2 : Int32)) (v := (.ref wTRUE)) (by rw [e26]; exact Ara95.1) (State.isArrayOf_alike hZ.alike Ara95.2.1) rfl Ara95.2.2 hina95 (Ha95.at hina95 rfl) (g := (mkF m 40 #[.val (.int p0), .val (.int p1), .val (.ref b20), .val (.int (2 : Int32)), .val (.int (2 : Int32)), .unset] [(.int (2 : Int32)), (.ref b20)])) rfl rfl (hb hby at_40) _ ?_
        show Steps p.tables e below (T26.setTop (mkF m 41 #[.val (.int p0), .val (.int p1), .val (.ref b20), .val (.int (2 : Int32)), .val (.int (2 : Int32)), .unset] [(.ref wTRUE)])) _
        refine XS.aloadN X26.here hx rfl (hb hby at_41) rfl rfl ?_
        show Steps p.tables e below (T26.setTop (mkF m 42 #[.val (.int p0), .val (.int p1), .val (.ref b20), .val (.int (2 : Int32)), .val (.int (2 : Int32)), .unset] [(.ref b20), (.ref wTRUE)])) _
        refine XS.iload X26.here hx rfl (hb hby at_42) rfl ?_
        show Steps p.tables e below (T26.setTop (mkF m 44 #[.val (.int p0), .val (.int p1), .val (.ref b20), .val (.int (2 : Int32)), .val (.int (2 : Int32)), .unset] [(.int (2 : Int32)), (.ref b20), (.ref wTRUE)])) _
        refine X26.aaload hx (j := (2 : Int32)) (v := (.ref wTRUE)) (by rw [e26]; exact Ara96.1) (State.isArrayOf_alike hZ.alike Ara96.2.1) rfl Ara96.2.2 hina96 (Ha96.at hina96 rfl) (g := (mkF m 44 #[.val (.int p0), .val (.int p1), .val (.ref b20), .val (.int (2 : Int32)), .val (.int (2 : Int32)), .unset] [(.int (2 : Int32)), (.ref b20), (.ref wTRUE)])) rfl rfl (hb hby at_44) _ ?_
        exact kt)
      rw [((by rw [f2, if_pos (rfl : wTRUE = wTRUE)]) : (f2 wTRUE wTRUE wFALSE wUNKNOWN wTRUE) = wTRUE)] at hQ97
      obtain ⟨rfl, N97q, e97⟩ := hQ97
      have N97 := Fr.app N26' N97q
      obtain ⟨_, _, ⟨T99, L99, k99, n99⟩, -, X99, ⟨Lc99, hQ99, l99, y99, z99⟩, st99⟩ := Jvm.LawKit.callS X97 hx (y := (⟨"java/lang/Math", "max", "(II)I"⟩ : MethodName)) hown (mvT hZ (hw _ (List.mem_of_getElem? (i := 19) rfl))) (mvT hZ (hw _ (List.mem_of_getElem? (i := 20) rfl))) (mvT hZ (hw _ (List.mem_of_getElem? (i := 21) rfl))) (mvT hZ (hw _ (List.mem_of_getElem? (i := 22) rfl))) (by decide) (backOf (W := 2) (rm1 l Z a0 hw [] (2 : Int32) (2 : Int32) h26 n0 (Nat.le_trans Z0 EX26.1) ) hZ (hw _ (List.mem_of_getElem? (i := 22) rfl)) (hw _ (List.mem_of_getElem? (i := 21) rfl)) (by decide) (by decide)) (g := (mkF m 56 #[.val (.int p0), .val (.int p1), .val (.ref b20), .val (.int (2 : Int32)), .val (.int (2 : Int32)), .val (.ref wTRUE)] [(.int (2 : Int32)), (.int (2 : Int32)), (.ref b20), (.ref wTRUE)])) rfl (by rw [hml]; rfl) (argsL := [(.int (2 : Int32)), (.int (2 : Int32))]) (rest := [(.ref b20), (.ref wTRUE)]) (lenOf pd_1 rfl) rfl (by show 2 * 0 + _ ≤ _; exact Nat.le_of_eq rfl) (hb hby at_56) (fun _ _ => ⟨rfl, e97, (by decide : 1 + 0 ≤ _), (by decide : 3 + 0 ≤ _)⟩)
      dsimp only [Pt.U, Pt.locs, Pt.cells, Pt.slots] at X99 l99 y99 z99 st99 hQ99
      subst l99 y99 z99
      unfold Q1 at hQ99
      have k100 : ∀ t, Steps p.tables e below (T97.setTop (mkF m 56 #[.val (.int p0), .val (.int p1), .val (.ref b20), .val (.int (2 : Int32)), .val (.int (2 : Int32)), .val (.ref wTRUE)] [(.int (2 : Int32)), (.int (2 : Int32)), (.ref b20), (.ref wTRUE)])) t → Steps p.tables e below (s₁.setTop (entryFrame m #[(.int p0), (.int p1)] maxLocals)) t := fun t kt => k98 t (by
        show Steps p.tables e below (T26.setTop (mkF m 45 #[.val (.int p0), .val (.int p1), .val (.ref b20), .val (.int (2 : Int32)), .val (.int (2 : Int32)), .unset] [(.ref wTRUE), (.ref wTRUE)])) _
        refine st97.trans ?_
        show Steps p.tables e below (T97.setTop (mkF m 48 #[.val (.int p0), .val (.int p1), .val (.ref b20), .val (.int (2 : Int32)), .val (.int (2 : Int32)), .unset] [(.ref wTRUE)])) _
        refine XS.astore X97.here hx rfl (hb hby at_48) rfl rfl (l' := #[.val (.int p0), .val (.int p1), .val (.ref b20), .val (.int (2 : Int32)), .val (.int (2 : Int32)), .val (.ref wTRUE)]) rfl ?_
        show Steps p.tables e below (T97.setTop (mkF m 50 #[.val (.int p0), .val (.int p1), .val (.ref b20), .val (.int (2 : Int32)), .val (.int (2 : Int32)), .val (.ref wTRUE)] [])) _
        refine XS.aload X97.here hx rfl (hb hby at_50) rfl rfl ?_
        show Steps p.tables e below (T97.setTop (mkF m 52 #[.val (.int p0), .val (.int p1), .val (.ref b20), .val (.int (2 : Int32)), .val (.int (2 : Int32)), .val (.ref wTRUE)] [(.ref wTRUE)])) _
        refine XS.aloadN X97.here hx rfl (hb hby at_52) rfl rfl ?_
        show Steps p.tables e below (T97.setTop (mkF m 53 #[.val (.int p0), .val (.int p1), .val (.ref b20), .val (.int (2 : Int32)), .val (.int (2 : Int32)), .val (.ref wTRUE)] [(.ref b20), (.ref wTRUE)])) _
        refine XS.iloadN X97.here hx rfl (hb hby at_53) rfl ?_
        show Steps p.tables e below (T97.setTop (mkF m 54 #[.val (.int p0), .val (.int p1), .val (.ref b20), .val (.int (2 : Int32)), .val (.int (2 : Int32)), .val (.ref wTRUE)] [(.int (2 : Int32)), (.ref b20), (.ref wTRUE)])) _
        refine XS.iload X97.here hx rfl (hb hby at_54) rfl ?_
        exact kt)
      rw [((by rw [f1, if_neg ((by first | exact Int32.lt_irrefl _ | decide) : ¬ ((2 : Int32) < (2 : Int32)))]) : (f1 (2 : Int32) (2 : Int32)) = (2 : Int32))] at hQ99
      obtain ⟨rfl, N99q, e99⟩ := hQ99
      have N99 := Fr.app N97 N99q
      obtain ⟨cla101, Ara101, qa101, Sa101, Na101, Ha101, Ga101⟩ := And.left ⟨V26, trivial⟩
      have hina101 : ¬ ((2 : Int32) < 0 ∨ cla101.slots.size ≤ ((2 : Int32)).toNatClampNeg) := inb_of Sa101 ⟨by decide, by decide⟩
      obtain ⟨fs, hr, hrun, hended, hW, hsame⟩ := X99.leave (v := some (.int (1 : Int32))) (fun h => by rw [Bd.returns] at h; cases h)
      refine ⟨_, _, k100 _ ?_, hrun, hended, _, _, rfl, ?_, ⟨_, rfl⟩, hW, hsame.mono (by decide) (by decide)⟩
      · show Steps p.tables e below (T97.setTop (mkF m 56 #[.val (.int p0), .val (.int p1), .val (.ref b20), .val (.int (2 : Int32)), .val (.int (2 : Int32)), .val (.ref wTRUE)] [(.int (2 : Int32)), (.int (2 : Int32)), (.ref b20), (.ref wTRUE)])) _
        refine st99 _ ?_
        show Steps p.tables e below (T99.setTop (mkF m 59 #[.val (.int p0), .val (.int p1), .val (.ref b20), .val (.int (2 : Int32)), .val (.int (2 : Int32)), .val (.ref wTRUE)] [(.int (2 : Int32)), (.ref b20), (.ref wTRUE)])) _
        refine X99.aaload hx (j := (2 : Int32)) (v := (.ref wTRUE)) (by rw [e99]; exact Ara101.1) (State.isArrayOf_alike hZ.alike Ara101.2.1) rfl Ara101.2.2 hina101 (Ha101.at hina101 rfl) (g := (mkF m 59 #[.val (.int p0), .val (.int p1), .val (.ref b20), .val (.int (2 : Int32)), .val (.int (2 : Int32)), .val (.ref wTRUE)] [(.int (2 : Int32)), (.ref b20), (.ref wTRUE)])) rfl rfl (hb hby at_59) _ ?_
        show Steps p.tables e below (T99.setTop (mkF m 60 #[.val (.int p0), .val (.int p1), .val (.ref b20), .val (.int (2 : Int32)), .val (.int (2 : Int32)), .val (.ref wTRUE)] [(.ref wTRUE), (.ref wTRUE)])) _
        refine Jvm.RoadKit.acmp (g := (mkF m 60 #[.val (.int p0), .val (.int p1), .val (.ref b20), .val (.int (2 : Int32)), .val (.int (2 : Int32)), .val (.ref wTRUE)] [(.ref wTRUE), (.ref wTRUE)])) X99 hx rfl rfl rfl (pc0 := 60) (pc' := 63) (same := true) rfl (hb hby at_60) rfl (decide_eq_true (congrArg Value.ref (rfl : wTRUE = wTRUE))) (by decide) (by decide) ?_
        show Steps p.tables e below (T99.setTop (mkF m 63 #[.val (.int p0), .val (.int p1), .val (.ref b20), .val (.int (2 : Int32)), .val (.int (2 : Int32)), .val (.ref wTRUE)] [])) _
        refine XS.iconst X99.here hx rfl (hb hby at_63) ?_
        show Steps p.tables e below (T99.setTop (mkF m 64 #[.val (.int p0), .val (.int p1), .val (.ref b20), .val (.int (2 : Int32)), .val (.int (2 : Int32)), .val (.ref wTRUE)] [(.int (1 : Int32))])) _
        refine XS.goto X99.here hx rfl (pc0 := 64) (pc' := 68) rfl (hb hby at_64) (by decide) (by decide) ?_
        show Steps p.tables e below (T99.setTop (mkF m 68 #[.val (.int p0), .val (.int p1), .val (.ref b20), .val (.int (2 : Int32)), .val (.int (2 : Int32)), .val (.ref wTRUE)] [(.int (1 : Int32))])) _
        exact retN X99 hx (t := .boolean) Bd.returns (by simp) (hb hby at_68) hr
      · show Q0 Z p0 p1 wFALSE wUNKNOWN wTRUE h0 n0 _ T99.heap _
        rw [e99]
        exact ⟨rfl, N99⟩
set_option maxRecDepth 65536 in
set_option maxHeartbeats 40000000 in
theorem comes_1 {Post : Tables → Env → Array Value → State → Outcome → State → Prop} (hpost : ∀ tb e args s v u, (limb_1_1.after args s (.returned v) u = true ∧ limb_1_2.after args s (.returned v) u = true ∧ True) → FrameEnd s (.returned v) u (Jvm.fieldLocs frame_1_writes args s ++ Jvm.arrayLocs frame_1_arrays args s ++ Jvm.staticLocs frame_1_statics s) 16 128 → Post tb e args s (.returned v) u) :
    ArmFor flags0 classFile x code maxLocals ret World_1 tables_1 room_1 Calls_1 rest_1 Pre_1 Post := by
  intro l hfl _ _ p e ha hc hk s m args below hf hA hF happ hP
  obtain ⟨hcalls, hrest, hpre⟩ := hP
  obtain ⟨-, -, -, hnamed, -, -, -, hat⟩ := (Spec.applies_iff hf).mp happ
  obtain ⟨hg, hn⟩ := and_e (Cond.before_iff.mp (show (Jvm.Cond.and given_1 narrow_1).before args s = true from hpre))
  obtain ⟨gc, gr0⟩ := and_e hg
  obtain ⟨ga0, ga1⟩ := and_e gr0
  obtain ⟨w0, w1, rfl⟩ : ∃ w0 w1 : Value, args = #[w0, w1] := by
    have hs : args.size = 2 := by simpa [Cond.value, given_1] using gc
    obtain ⟨L⟩ := args
    match L, hs with
    | [w0, w1], _ => exact ⟨w0, w1, rfl⟩
  have hw := fun d (hd : d ∈ tables_1) => atoms_spec (ws := Jvm.Cond.code x code maxLocals ret :: tables_1) hat d (List.mem_cons_of_mem _ hd)
  have hfit : Fit s := fun {y c} hc i hi => by
    obtain ⟨ha, rfl⟩ := Array.getElem?_eq_some_iff.mp hc
    have q := List.all_eq_true.mp ((Array.all_eq_true_iff_forall_mem.mp hF) _ (Array.getElem_mem ha)) i (List.mem_range.mpr hi)
    simpa [Array.getElem?_eq_getElem hi] using q
  obtain ⟨i0, ei0⟩ := is_v ga0
  obtain rfl : w0 = (.int i0) := Option.some.inj ei0
  obtain ⟨i1, ei1⟩ := is_v ga1
  obtain rfl : w1 = (.int i1) := Option.some.inj ei1
  obtain ⟨nr0, hn0⟩ := and_e hn
  obtain ⟨nr1, hn1⟩ := and_e hn0
  obtain ⟨nr2, hn2⟩ := and_e hn1
  obtain ⟨nr3, hn3⟩ := and_e hn2
  obtain ⟨nr4, nr5⟩ := and_e hn3
  obtain ⟨wFALSE, evwFALSE⟩ := exa_v nr0
  have SFALSE : Sta s s.heap "com/example/turtlehead/turtlehead/Truth" "FALSE" "Lcom/example/turtlehead/turtlehead/Truth;" (.ref wFALSE) := Sta.start evwFALSE (Or.inr ⟨(hw _ (List.mem_of_getElem? (i := 3) rfl)), (hw _ (List.mem_of_getElem? (i := 4) rfl))⟩)
  obtain ⟨wUNKNOWN, evwUNKNOWN⟩ := exa_v nr1
  have SUNKNOWN : Sta s s.heap "com/example/turtlehead/turtlehead/Truth" "UNKNOWN" "Lcom/example/turtlehead/turtlehead/Truth;" (.ref wUNKNOWN) := Sta.start evwUNKNOWN (Or.inr ⟨(hw _ (List.mem_of_getElem? (i := 3) rfl)), (hw _ (List.mem_of_getElem? (i := 7) rfl))⟩)
  obtain ⟨wTRUE, evwTRUE⟩ := exa_v nr2
  have STRUE : Sta s s.heap "com/example/turtlehead/turtlehead/Truth" "TRUE" "Lcom/example/turtlehead/turtlehead/Truth;" (.ref wTRUE) := Sta.start evwTRUE (Or.inr ⟨(hw _ (List.mem_of_getElem? (i := 3) rfl)), (hw _ (List.mem_of_getElem? (i := 9) rfl))⟩)
  have EFALSE : Exa s s.heap wFALSE "com/example/turtlehead/turtlehead/Truth" := Exa.start evwFALSE nr0
  have EUNKNOWN : Exa s s.heap wUNKNOWN "com/example/turtlehead/turtlehead/Truth" := Exa.start evwUNKNOWN nr1
  have ETRUE : Exa s s.heap wTRUE "com/example/turtlehead/turtlehead/Truth" := Exa.start evwTRUE nr2
  have FFALSE_ordinal : Fld s s.heap wFALSE "java/lang/Enum" "ordinal" "I" (.int (1 : Int32)) := own_fldI evwFALSE nr3
  have FTRUE_ordinal : Fld s s.heap wTRUE "java/lang/Enum" "ordinal" "I" (.int (0 : Int32)) := own_fldI evwTRUE nr4
  have FUNKNOWN_ordinal : Fld s s.heap wUNKNOWN "java/lang/Enum" "ordinal" "I" (.int (2 : Int32)) := own_fldI evwUNKNOWN nr5
  obtain ⟨n, o, h1, h2, h3, _, L, rfl, ⟨rfl, N⟩, hq⟩ := rm0 l s _ hw tables_1 i0 i1 wFALSE wUNKNOWN wTRUE s.heap s.heap.size (Nat.le_refl _) ⟨SFALSE, EFALSE, SUNKNOWN, EUNKNOWN, STRUE, ETRUE, FFALSE_ordinal, FTRUE_ordinal, FUNKNOWN_ordinal, trivial⟩  p e ha hc hk s m _ below hf ((Spec.applies_iff_loose hf).mp happ).1 ⟨rfl, State.Warmed39.refl s, rfl⟩ trivial
  refine ⟨n, _, h1, h2, h3, hpost _ _ _ _ _ _ ⟨Cond.after_iff.mpr rfl, Cond.after_iff.mpr (eq_i res_at (Term.int_eval (1)) rfl), trivial⟩ ⟨hq.1, hq.2.1, (hq.2.2.sift fun y hy => Or.inr (N y hy)).mono (by decide) (by decide)⟩⟩
theorem main_1_1 : Claimed_1_1 := comes_1 fun _ _ _ _ _ _ h hF => ⟨h.1, hF⟩
theorem main_1_2 : Claimed_1_2 := comes_1 fun _ _ _ _ _ _ h hF => ⟨h.2.1, hF⟩
end Jvm.Pilot.@@N@@
namespace Jvm.Pilot.@@N@@
open Jvm Jvm.ClassFile Sem Op Lib Jvm.Free Jvm.Stand Jvm.Pilot.@@N@@.Jvm.D
/-! MADE BY PROGRAM (witnessworld.py) out of the Statement's table words and the real class files: 14 classes; the members and pool entries that the words name. The judged class is class 1, her method 1. -/
namespace start1
open Jvm.ClassFile
def u (s : String) : CpInfo := .utf8 (stringToUtf16 s)
/-- a pool by its gaps: so many unusable entries, then the entry; so many at the end -/
def gap : Nat → List CpInfo → List CpInfo
  | 0, r => r
  | n + 1, r => .unusable :: gap n r
def poolList (es : List (Nat × CpInfo)) (last : Nat) : List CpInfo := es.foldr (fun e r => gap e.1 (e.2 :: r)) (gap last [])
def pool (es : List (Nat × CpInfo)) (last : Nat) : Array CpInfo := ⟨poolList es last⟩
def fileOf (pool : Array CpInfo) (this : Nat) (attrs : Array Attribute := #[]) (ms : Array MethodInfo := #[]) (fl : Nat := 33) (sup : Nat := 0) (ifs : Array Nat := #[]) (fds : Array FieldInfo := #[]) : ClassFile where
  minorVersion := 0
  majorVersion := 65
  constantPool := pool
  accessFlags := fl
  thisClass := this
  superClass := sup
  interfaces := ifs
  fields := fds
  methods := ms
  attributes := attrs
def plain (name : String) (sup : Option ClassId) : Class where
  name := name
  kind := .ordinary
  loader := none
  accessFlags := 33
  super := sup
  interfaces := #[]
  cf := none
  fields := #[]
  methods := #[]
  instanceTypes := #[]
  staticTypes := #[]
  resolved := #[]
  callSites := []
  init := .initialized
  statics := none
  mirror := none

def pool0 : Array CpInfo := pool [(5, u "<init>"), (0, u "()V"), (1, .class_ 10), (1, u "java/lang/Object")] 113

def k0m0 : Method := { name := "<init>", desc := "()V", sig := { parameters := [], returnType := none }, accessFlags := 1, code := none }
/-- java/lang/Object -/
def k0 : Class := { plain "java/lang/Object" none with
  accessFlags := 33
  interfaces := #[]
  cf := some (fileOf pool0 8 #[] #[{ accessFlags := 1, nameIndex := 5, descriptorIndex := 6, attributes := #[] }] 33 0 #[] #[])
  fields := #[]
  methods := #[k0m0]
  instanceTypes := #[]
  staticTypes := #[]
  resolved := Array.replicate 124 none
  statics := none }

def pool1 : Array CpInfo := pool [(2, .class_ 4), (1, u "java/lang/Object"), (0, u "<init>"), (0, u "()V"), (0, .class_ 8), (0, u "com/example/turtlehead/turtlehead/Truth"), (0, .fieldref 7 10), (0, .nameAndType 11 12), (0, u "FALSE"), (0, u "Lcom/example/turtlehead/turtlehead/Truth;"), (0, .fieldref 7 14), (0, .nameAndType 15 12), (0, u "UNKNOWN"), (0, .fieldref 7 17), (0, .nameAndType 18 12), (0, u "TRUE"), (0, .integer 2147483647), (0, .methodref 7 21), (0, .nameAndType 22 23), (0, u "or"), (0, u "(Lcom/example/turtlehead/turtlehead/Truth;)Lcom/example/turtlehead/turtlehead/Truth;"), (0, .methodref 25 26), (0, .class_ 27), (0, .nameAndType 28 29), (0, u "java/lang/Math"), (0, u "max"), (0, u "(II)I"), (0, .class_ 31), (0, u "com/example/turtlehead/turtlehead/TruthOrPinLaw"), (2, u "law"), (0, u "(II)Z")] 5

def k1m0 : Method := { name := "<init>", desc := "()V", sig := { parameters := [], returnType := none }, accessFlags := 1, code := none }
def k1c1 : Code := { maxStack := 4, maxLocals := 6, code := code, exceptionTable := #[], attributes := #[] }
def k1m1 : Method := { name := "law", desc := "(II)Z", sig := { parameters := [.int, .int], returnType := some .boolean }, accessFlags := 9, code := some k1c1 }
/-- com/example/turtlehead/turtlehead/TruthOrPinLaw -/
def k1 : Class := { plain "com/example/turtlehead/turtlehead/TruthOrPinLaw" (some 0) with
  accessFlags := 49
  interfaces := #[]
  cf := some (fileOf pool1 30 #[] #[{ accessFlags := 1, nameIndex := 5, descriptorIndex := 6, attributes := #[] }, { accessFlags := 9, nameIndex := 34, descriptorIndex := 35, attributes := #[] }] 49 2 #[] #[])
  fields := #[]
  methods := #[k1m0, k1m1]
  instanceTypes := #[]
  staticTypes := #[]
  resolved := Array.replicate 41 none
  statics := none }

def pool2 : Array CpInfo := pool [(1, .class_ 2), (0, u "java/lang/constant/Constable"), (0, .class_ 4), (0, u "java/lang/Object")] 6

/-- java/lang/constant/Constable -/
def k2 : Class := { plain "java/lang/constant/Constable" (some 0) with
  accessFlags := 1537
  interfaces := #[]
  cf := some (fileOf pool2 1 #[] #[] 1537 3 #[] #[])
  fields := #[]
  methods := #[]
  instanceTypes := #[]
  staticTypes := #[]
  resolved := Array.replicate 11 none
  statics := none }

def pool3 : Array CpInfo := pool [(1, .class_ 2), (0, u "java/lang/Comparable"), (0, .class_ 4), (0, u "java/lang/Object")] 7

/-- java/lang/Comparable -/
def k3 : Class := { plain "java/lang/Comparable" (some 0) with
  accessFlags := 1537
  interfaces := #[]
  cf := some (fileOf pool3 1 #[] #[] 1537 3 #[] #[])
  fields := #[]
  methods := #[]
  instanceTypes := #[]
  staticTypes := #[]
  resolved := Array.replicate 12 none
  statics := none }

def pool4 : Array CpInfo := pool [(1, .class_ 2), (0, u "java/io/Serializable"), (0, .class_ 4), (0, u "java/lang/Object")] 2

/-- java/io/Serializable -/
def k4 : Class := { plain "java/io/Serializable" (some 0) with
  accessFlags := 1537
  interfaces := #[]
  cf := some (fileOf pool4 1 #[] #[] 1537 3 #[] #[])
  fields := #[]
  methods := #[]
  instanceTypes := #[]
  staticTypes := #[]
  resolved := Array.replicate 7 none
  statics := none }

def pool5 : Array CpInfo := pool [(2, .class_ 4), (1, u "java/lang/Enum"), (0, u "name"), (0, u "Ljava/lang/String;"), (2, u "ordinal"), (0, u "I"), (1, .class_ 14), (1, u "java/lang/Object"), (4, u "hash"), (86, .class_ 108), (1, u "java/lang/Enum$EnumDesc"), (2, .class_ 112), (0, u "java/lang/constant/Constable"), (0, .class_ 114), (0, u "java/lang/Comparable"), (0, .class_ 116), (0, u "java/io/Serializable")] 87

/-- java/lang/Enum -/
def k5 : Class := { plain "java/lang/Enum" (some 0) with
  accessFlags := 1057
  interfaces := #[2, 3, 4]
  cf := some (fileOf pool5 2 #[.nestMembers #[106]] #[] 1057 12 #[111, 113, 115] #[{ accessFlags := 18, nameIndex := 5, descriptorIndex := 6, attributes := #[] }, { accessFlags := 18, nameIndex := 9, descriptorIndex := 10, attributes := #[] }, { accessFlags := 2, nameIndex := 19, descriptorIndex := 10, attributes := #[] }])
  fields := #[{ name := "name", type := (.object "java/lang/String"), accessFlags := 18, slot := 0, constantValue := 0 }, { name := "ordinal", type := .int, accessFlags := 18, slot := 1, constantValue := 0 }, { name := "hash", type := .int, accessFlags := 2, slot := 2, constantValue := 0 }]
  methods := #[]
  instanceTypes := #[(.object "java/lang/String"), .int, .int]
  staticTypes := #[]
  resolved := Array.replicate 204 none
  statics := none }

def pool6 : Array CpInfo := pool [(1, .class_ 2), (0, u "com/example/turtlehead/turtlehead/Truth"), (0, .fieldref 1 4), (0, .nameAndType 5 6), (0, u "TRUE"), (0, u "Lcom/example/turtlehead/turtlehead/Truth;"), (0, .fieldref 1 8), (0, .nameAndType 9 6), (0, u "FALSE"), (0, .fieldref 1 11), (0, .nameAndType 12 6), (0, u "UNKNOWN"), (2, u "$VALUES"), (0, u "[Lcom/example/turtlehead/turtlehead/Truth;"), (6, .class_ 25), (1, u "java/lang/Enum"), (27, u "(Lcom/example/turtlehead/turtlehead/Truth;)Lcom/example/turtlehead/turtlehead/Truth;"), (0, u "or")] 4

def k6c0 : Code := { maxStack := 2, maxLocals := 3, code := prog_105_method_7_code, exceptionTable := #[], attributes := #[] }
def k6m0 : Method := { name := "or", desc := "(Lcom/example/turtlehead/turtlehead/Truth;)Lcom/example/turtlehead/turtlehead/Truth;", sig := { parameters := [(.object "com/example/turtlehead/turtlehead/Truth")], returnType := some (.object "com/example/turtlehead/turtlehead/Truth") }, accessFlags := 1, code := some k6c0 }
/-- com/example/turtlehead/turtlehead/Truth -/
def k6 : Class := { plain "com/example/turtlehead/turtlehead/Truth" (some 5) with
  accessFlags := 16433
  interfaces := #[]
  cf := some (fileOf pool6 1 #[] #[{ accessFlags := 1, nameIndex := 54, descriptorIndex := 53, attributes := #[] }] 16433 23 #[] #[{ accessFlags := 16409, nameIndex := 5, descriptorIndex := 6, attributes := #[] }, { accessFlags := 16409, nameIndex := 9, descriptorIndex := 6, attributes := #[] }, { accessFlags := 16409, nameIndex := 12, descriptorIndex := 6, attributes := #[] }, { accessFlags := 4122, nameIndex := 15, descriptorIndex := 16, attributes := #[] }])
  fields := #[{ name := "TRUE", type := (.object "com/example/turtlehead/turtlehead/Truth"), accessFlags := 16409, slot := 0, constantValue := 0 }, { name := "FALSE", type := (.object "com/example/turtlehead/turtlehead/Truth"), accessFlags := 16409, slot := 1, constantValue := 0 }, { name := "UNKNOWN", type := (.object "com/example/turtlehead/turtlehead/Truth"), accessFlags := 16409, slot := 2, constantValue := 0 }, { name := "$VALUES", type := (.array (.object "com/example/turtlehead/turtlehead/Truth")), accessFlags := 4122, slot := 3, constantValue := 0 }]
  methods := #[k6m0]
  instanceTypes := #[(.object "java/lang/String"), .int, .int]
  staticTypes := #[(.object "com/example/turtlehead/turtlehead/Truth"), (.object "com/example/turtlehead/turtlehead/Truth"), (.object "com/example/turtlehead/turtlehead/Truth"), (.array (.object "com/example/turtlehead/turtlehead/Truth"))]
  resolved := Array.replicate 59 none
  statics := some 0 }

def pool7 : Array CpInfo := pool [(1, .class_ 2), (0, u "java/lang/Math"), (1, .class_ 6), (1, u "java/lang/Object"), (0, u "<init>"), (0, u "()V"), (89, .class_ 100), (1, u "java/lang/Math$RandomNumberGeneratorHolder"), (71, u "negativeZeroFloatBits"), (0, u "J"), (2, u "negativeZeroDoubleBits"), (21, u "max"), (46, u "$assertionsDisabled"), (0, u "Z"), (88, u "(II)I"), (2, u "twoToTheDoubleScaleDown"), (0, u "D"), (4, u "twoToTheDoubleScaleUp"), (9, u "E"), (3, u "PI"), (2, u "TAU"), (2, u "DEGREES_TO_RADIANS"), (0, u "RADIANS_TO_DEGREES")] 94

def k7m0 : Method := { name := "<init>", desc := "()V", sig := { parameters := [], returnType := none }, accessFlags := 2, code := none }
def k7c1 : Code := { maxStack := 2, maxLocals := 2, code := jdk_29_method_65_code, exceptionTable := #[], attributes := #[] }
def k7m1 : Method := { name := "max", desc := "(II)I", sig := { parameters := [.int, .int], returnType := some .int }, accessFlags := 9, code := some k7c1 }
/-- java/lang/Math -/
def k7 : Class := { plain "java/lang/Math" (some 0) with
  accessFlags := 49
  interfaces := #[]
  cf := some (fileOf pool7 1 #[.nestMembers #[98]] #[{ accessFlags := 2, nameIndex := 7, descriptorIndex := 8, attributes := #[] }, { accessFlags := 9, nameIndex := 198, descriptorIndex := 335, attributes := #[] }] 49 4 #[] #[{ accessFlags := 25, nameIndex := 354, descriptorIndex := 339, attributes := #[] }, { accessFlags := 25, nameIndex := 358, descriptorIndex := 339, attributes := #[] }, { accessFlags := 25, nameIndex := 361, descriptorIndex := 339, attributes := #[] }, { accessFlags := 26, nameIndex := 364, descriptorIndex := 339, attributes := #[] }, { accessFlags := 26, nameIndex := 365, descriptorIndex := 339, attributes := #[] }, { accessFlags := 26, nameIndex := 172, descriptorIndex := 173, attributes := #[] }, { accessFlags := 26, nameIndex := 176, descriptorIndex := 173, attributes := #[] }, { accessFlags := 8, nameIndex := 344, descriptorIndex := 339, attributes := #[] }, { accessFlags := 8, nameIndex := 338, descriptorIndex := 339, attributes := #[] }, { accessFlags := 4120, nameIndex := 245, descriptorIndex := 246, attributes := #[] }])
  fields := #[{ name := "E", type := .double, accessFlags := 25, slot := 0, constantValue := 0 }, { name := "PI", type := .double, accessFlags := 25, slot := 1, constantValue := 0 }, { name := "TAU", type := .double, accessFlags := 25, slot := 2, constantValue := 0 }, { name := "DEGREES_TO_RADIANS", type := .double, accessFlags := 26, slot := 3, constantValue := 0 }, { name := "RADIANS_TO_DEGREES", type := .double, accessFlags := 26, slot := 4, constantValue := 0 }, { name := "negativeZeroFloatBits", type := .long, accessFlags := 26, slot := 5, constantValue := 0 }, { name := "negativeZeroDoubleBits", type := .long, accessFlags := 26, slot := 6, constantValue := 0 }, { name := "twoToTheDoubleScaleUp", type := .double, accessFlags := 8, slot := 7, constantValue := 0 }, { name := "twoToTheDoubleScaleDown", type := .double, accessFlags := 8, slot := 8, constantValue := 0 }, { name := "$assertionsDisabled", type := .boolean, accessFlags := 4120, slot := 9, constantValue := 0 }]
  methods := #[k7m0, k7m1]
  instanceTypes := #[]
  staticTypes := #[.double, .double, .double, .double, .double, .long, .long, .double, .double, .boolean]
  resolved := Array.replicate 460 none
  statics := none }

def pool8 : Array CpInfo := pool [(1, u "java/lang/Cloneable"), (0, .class_ 1), (0, u "java/lang/Object"), (0, .class_ 3)] 3

/-- java/lang/Cloneable -/
def k8 : Class := { plain "java/lang/Cloneable" (some 0) with
  accessFlags := 1537
  interfaces := #[]
  cf := some (fileOf pool8 2 #[] #[] 1537 4 #[] #[])
  fields := #[]
  methods := #[]
  instanceTypes := #[]
  staticTypes := #[]
  resolved := Array.replicate 8 none
  statics := none }

/-- the primitive byte -/
def k9 : Class := { plain "byte" none with kind := .primitive 'B', accessFlags := 0x411 }
/-- [B -/
def k10 : Class := { plain "[B" (some 0) with kind := .array 9 .byte, interfaces := #[8, 4], accessFlags := 1041 }

/-- the primitive int -/
def k11 : Class := { plain "int" none with kind := .primitive 'I', accessFlags := 0x411 }
/-- [I -/
def k12 : Class := { plain "[I" (some 0) with kind := .array 11 .int, interfaces := #[8, 4], accessFlags := 1041 }

/-- [Lcom/example/turtlehead/turtlehead/Truth; -/
def k13 : Class := { plain "[Lcom/example/turtlehead/turtlehead/Truth;" (some 0) with kind := .array 6 (.object "com/example/turtlehead/turtlehead/Truth"), interfaces := #[8, 4], accessFlags := 1041 }

def heap : Heap := #[{ cls := 6, slots := #[.ref 3, .ref 1, .ref 2, .null], vm := .statics 6 },
  { cls := 6, slots := #[.null, .int 1, .int 0], vm := .none },
  { cls := 6, slots := #[.null, .int 2, .int 0], vm := .none },
  { cls := 6, slots := #[.null, .int 0, .int 0], vm := .none }]
def classes : Array Class := #[k0, k1, k2, k3, k4, k5, k6, k7, k8, k9, k10, k11, k12, k13]
def interned : List (Array UInt16 × Addr) := []
def slotsUsed : Nat := 13
def theMethod : MethodId := ⟨1, 1⟩
def args0 : Array Value := #[.int 5, .int 7]
def aboutOver (below : List Frame) : State where
  vm := { classes := classes, interned := interned.toArray }
  heap := heap
  slotsUsed := slotsUsed
  threads := #[{ frames := .invoking theMethod args0 :: below }]
def below0 : List Frame := [.native { method := ⟨0, 0⟩, args := #[] }]
def about1 : State := aboutOver below0
def p0 : Program := .bare "" "" ""
def e0 : Env := launch0.env 0 0 0
theorem w_frames : about1.frames = Frame.invoking theMethod args0 :: below0 := rfl
set_option maxRecDepth 65536 in
theorem w_args : argsFit about1.vm theMethod args0 = true := by decide +kernel
set_option maxRecDepth 65536 in
theorem w_heap : heapFits about1 = true := by decide +kernel
set_option maxRecDepth 65536 in
theorem w_runnable : about1.curStatus? = some .runnable := by decide +kernel
set_option maxRecDepth 65536 in
theorem w_alone : about1.alone = true := by decide +kernel
set_option maxRecDepth 65536 in
theorem w_named : about1.methodNamed? x = some theMethod := by decide +kernel
set_option maxRecDepth 65536 in
theorem w_hears : about1.hears theMethod below0 = true := by decide +kernel
set_option maxRecDepth 65536 in
theorem w_ripe : about1.ripe theMethod args0 below0 = true := by decide +kernel
theorem w_running : about1.status = .running := rfl
set_option maxRecDepth 65536 in
theorem w_room : about1.hasRoom e0.platform room_1 = true :=
  launch0.hasRoom_least _ room_1 (by decide +kernel) (by decide +kernel) (by decide +kernel) (by decide +kernel) (by decide +kernel) (by decide +kernel)
theorem allAtoms_all (ts : List Jvm.Cond) (a : Array Jvm.Value) (st : Jvm.State) : (allAtoms ts).before a st = ts.all (fun c => c.before a st) := by
  induction ts with
  | nil => rfl
  | cons c t ih =>
    show (Jvm.Cond.and c (allAtoms t)).before a st = _
    rw [Jvm.Cond.before_and, ih, List.all_cons]
def words1 : List Jvm.Cond := Jvm.Cond.code x code maxLocals ret :: tables_1
/-- a 'code' word, met by the world's own term for the bytes: nothing is compared byte by byte -/
theorem code_word {y : MethodName} {bytes : ByteArray} {mx : Nat} {rt : Option FieldType} {a : Array Value} {s : State} {m : MethodId} {meth : Method} {c : Code} (h1 : s.methodNamed? y = some m) (h2 : s.vm.method? m = some meth) (h3 : meth.code = some c) (h4 : c.code = bytes)
    (h5 : (c.maxLocals == mx && c.exceptionTable.isEmpty && decide (c.maxStack ≤ mostOperands) && decide (meth.sig.returnType = rt) && !meth.locks && decide (parseMethodDescriptor y.desc = some meth.sig)) = true) : (Jvm.Cond.code y bytes mx rt).before a s = true := by
  simp only [Bool.and_eq_true, beq_iff_eq, Bool.not_eq_true', decide_eq_true_eq] at h5
  obtain ⟨⟨⟨⟨⟨g1, g2⟩, g3⟩, g4⟩, g5⟩, g6⟩ := h5
  simp [Cond.before, Cond.holds, Cond.value, h1, h2, h3, h4, g1, g2, g3, g4, g5, g6]
def isCode : Jvm.Cond → Bool
  | .code _ _ _ _ => true
  | _ => false
theorem all_split {L : List Jvm.Cond} {P : Jvm.Cond → Bool} (h1 : L.all (fun c => isCode c || P c) = true) (h2 : ∀ c ∈ L.filter isCode, P c = true) : L.all P = true := by
  refine List.all_eq_true.mpr fun c hc => ?_
  have h := List.all_eq_true.mp h1 c hc
  rcases Bool.eq_false_or_eq_true (isCode c) with hi | hi
  · exact h2 c (List.mem_filter.mpr ⟨hc, hi⟩)
  · simpa [hi] using h
set_option maxRecDepth 65536 in
theorem w_c0 : (Jvm.Cond.code x code maxLocals ret).before args0 about1 = true := code_word (m := ⟨1, 1⟩) (meth := k1m1) (c := k1c1) (by decide +kernel) rfl rfl rfl (by decide +kernel)
set_option maxRecDepth 65536 in
theorem w_c1 : (Jvm.Cond.code ({ cls := "com/example/turtlehead/turtlehead/Truth", name := "or", desc := "(Lcom/example/turtlehead/turtlehead/Truth;)Lcom/example/turtlehead/turtlehead/Truth;" } : Jvm.MethodName) prog_105_method_7_code (3 : Nat) (Option.some (Jvm.ClassFile.FieldType.object "com/example/turtlehead/turtlehead/Truth"))).before args0 about1 = true := code_word (m := ⟨6, 0⟩) (meth := k6m0) (c := k6c0) (by decide +kernel) rfl rfl rfl (by decide +kernel)
set_option maxRecDepth 65536 in
theorem w_c2 : (Jvm.Cond.code ({ cls := "java/lang/Math", name := "max", desc := "(II)I" } : Jvm.MethodName) jdk_29_method_65_code (2 : Nat) (Option.some Jvm.ClassFile.FieldType.int)).before args0 about1 = true := code_word (m := ⟨7, 1⟩) (meth := k7m1) (c := k7c1) (by decide +kernel) rfl rfl rfl (by decide +kernel)
def codes1 : List Jvm.Cond := [Jvm.Cond.code x code maxLocals ret, Jvm.Cond.code ({ cls := "com/example/turtlehead/turtlehead/Truth", name := "or", desc := "(Lcom/example/turtlehead/turtlehead/Truth;)Lcom/example/turtlehead/turtlehead/Truth;" } : Jvm.MethodName) prog_105_method_7_code (3 : Nat) (Option.some (Jvm.ClassFile.FieldType.object "com/example/turtlehead/turtlehead/Truth")), Jvm.Cond.code ({ cls := "java/lang/Math", name := "max", desc := "(II)I" } : Jvm.MethodName) jdk_29_method_65_code (2 : Nat) (Option.some Jvm.ClassFile.FieldType.int)]
set_option maxRecDepth 65536 in
theorem codes_eq : words1.filter isCode = codes1 := rfl
theorem w_codes : ∀ c ∈ words1.filter isCode, c.before args0 about1 = true := by
  rw [codes_eq]
  intro c hc
  simp only [codes1, List.mem_cons, List.not_mem_nil, or_false] at hc
  rcases hc with rfl | rfl | rfl
  · exact w_c0
  · exact w_c1
  · exact w_c2
set_option maxRecDepth 65536 in
theorem w_t1 : words1.all (fun c => isCode c || c.before args0 about1) = true := by decide +kernel
theorem w_tables : (allAtoms (Jvm.Cond.code x code maxLocals ret :: tables_1)).before args0 about1 = true := by
  rw [allAtoms_all]
  show words1.all (fun c => c.before args0 about1) = true
  refine all_split ?_ w_codes
  rw [w_t1]
set_option maxRecDepth 65536 in
theorem w_case : (Jvm.Cond.and given_1 narrow_1).before args0 about1 = true := by decide +kernel
theorem w_applies : (headSpec (Jvm.Cond.code x code maxLocals ret :: tables_1) room_1).applies x e0.platform about1 = true :=
  (Spec.applies_iff w_frames).mpr ⟨w_running, w_runnable, w_alone, w_named, w_hears, w_ripe, w_room, w_tables⟩
theorem atStart : AtStart classFile x code maxLocals ret World_1 tables_1 room_1 Calls_1 rest_1 Pre_1 launch0 p0 e0 about1 theMethod args0 below0 :=
  ⟨lists_1, trivial, launch0.admits_env _ _ _, launch0.least_env, fairChoices_fair.cas, fairChoices_fair.clock, w_frames, w_args, w_heap, w_applies, trivial, trivial, w_case⟩
end start1
theorem witness_1 : WitnessClaimed_1 := ⟨start1.p0, start1.e0, start1.about1, start1.theMethod, start1.args0, start1.below0, start1.atStart⟩
end Jvm.Pilot.@@N@@
