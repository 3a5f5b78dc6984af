import JvmDerived
import JvmDerived.Pilot.@@N@@Statement
import JvmDerived.Pilot.@@N@@Code
set_option linter.unusedVariables false
set_option linter.unusedSimpArgs false
namespace Jvm.RoadKit
open Sem ClassFile Op Lib Jvm.Stand Jvm.Free Jvm.LawKit
section New
variable {p : Program} {l : Launch} {e : Env} {R : Room} {s : State} {m : MethodId} {args : Array Value} {below : List Frame} {meth : Method} {c : Code} {T : State} {locs : List Loc} {cells slots : Nat}
theorem own_retI (X : Stand p l e R s m args below meth c T locs cells slots) (hx : p.tables.exec = Jvm.exec) {pc : Nat} {Ls : Array Slot} {z : Int32} {rest : List Value} (hret : meth.sig.returnType = some .int) (hd : decode c.code pc = .ok (.ireturn, 1)) {fs : List Frame}
    (hl : ∀ (f : JFrame) (acts : List Action), f.method = m → f.locked = none → f.entered = [] → (doReturn e (T.setTop f) acts (some (.int z))).1 = T.setFrames fs) : Steps p.tables e below (T.setTop (mkF m pc Ls (.int z :: rest))) (T.setFrames fs) :=
  retOut X hx hret rfl (Or.inl ⟨rfl, Or.inl rfl, z, rfl⟩) hd hl
theorem own_retL (X : Stand p l e R s m args below meth c T locs cells slots) (hx : p.tables.exec = Jvm.exec) {pc : Nat} {Ls : Array Slot} {z : Int64} {rest : List Value} (hret : meth.sig.returnType = some .long) (hd : decode c.code pc = .ok (.lreturn, 1)) {fs : List Frame}
    (hl : ∀ (f : JFrame) (acts : List Action), f.method = m → f.locked = none → f.entered = [] → (doReturn e (T.setTop f) acts (some (.long z))).1 = T.setFrames fs) : Steps p.tables e below (T.setTop (mkF m pc Ls (.long z :: rest))) (T.setFrames fs) :=
  retOut X hx hret rfl (Or.inr (Or.inl ⟨rfl, rfl, z, rfl⟩)) hd hl
theorem own_retA (X : Stand p l e R s m args below meth c T locs cells slots) (hx : p.tables.exec = Jvm.exec) {pc : Nat} {Ls : Array Slot} {w : Value} {t : FieldType} {rest : List Value} (hret : meth.sig.returnType = some t) (ht : t.isReference = true) (hw : w.isRef = true) (hd : decode c.code pc = .ok (.areturn, 1)) {fs : List Frame}
    (hl : ∀ (f : JFrame) (acts : List Action), f.method = m → f.locked = none → f.entered = [] → (doReturn e (T.setTop f) acts (some w)).1 = T.setFrames fs) : Steps p.tables e below (T.setTop (mkF m pc Ls (w :: rest))) (T.setFrames fs) :=
  retOut X hx hret (by cases t <;> cases w <;> simp_all [narrow, Value.isRef, FieldType.isReference]) (Or.inr (Or.inr (Or.inr (Or.inr ⟨rfl, ht, hw⟩)))) hd hl
end New
end Jvm.RoadKit
namespace Jvm.Pilot.@@N@@
open Jvm Jvm.ClassFile Sem Op Lib Jvm.Free Jvm.Stand Jvm.LawKit Jvm.RoadKit Bundle Jvm.Pilot.@@N@@.Jvm.D
theorem own_lcEt {x y : Int64} (h : x = y) : lcmpW x y = (0 : Int32) := by rw [lcW]; exact (lc_eq x y).mpr h
theorem own_lcEf {x y : Int64} (h : ¬ (x = y)) : ¬ (lcmpW x y = (0 : Int32)) := by rw [lcW]; exact fun q => h ((lc_eq x y).mp q)
theorem own_lcLt {x y : Int64} (h : x < y) : lcmpW x y < (0 : Int32) := by rw [lcW]; exact (lc_lt x y).mpr h
theorem own_lcLf {x y : Int64} (h : ¬ (x < y)) : ¬ (lcmpW x y < (0 : Int32)) := by rw [lcW]; exact fun q => h ((lc_lt x y).mp q)
theorem own_lcGt {x y : Int64} (h : y < x) : (0 : Int32) < lcmpW x y := by rw [lcW]; exact (lc_gt x y).mpr h
theorem own_lcGf {x y : Int64} (h : ¬ (y < x)) : ¬ ((0 : Int32) < lcmpW x y) := by rw [lcW]; exact fun q => h ((lc_gt x y).mp q)
theorem own_ext_refl (h : Heap) : Ext h h := ⟨Nat.le_refl _, fun _ _ q => q⟩
theorem own_ext_trans {h h' h'' : Heap} (E : Ext h h') (F : Ext h' h'') : Ext h h'' := ⟨Nat.le_trans E.1 F.1, fun a c q => F.2 a c (E.2 a c q)⟩
theorem own_ext_wr {h h' h'' : Heap} {a : Addr} {sl : Nat} {v : Value} (E : Ext h h') (W : Wr h' h'' a sl v) (q : h.size ≤ a) : Ext h h'' := by
  obtain ⟨cell, -, -, -, rfl⟩ := W
  refine ⟨by simpa using E.1, fun b c r => ?_⟩
  have hb : b < h.size := (Array.getElem?_eq_some_iff.mp r).1
  rw [Array.getElem?_setIfInBounds_ne (Nat.ne_of_gt (Nat.lt_of_lt_of_le hb q))]
  exact E.2 b c r
theorem own_fldI {args : Array Value} {s : State} {t : Term} {a : Addr} {C n d : String} {k : Int32} (ev : t.eval args s none [] s = some (.ref a)) (h : (Cond.eq (.field t C n d) (.int k)).value args s none s [] = some true) : Fld s s.heap a C n d (.int k) := by
  obtain ⟨u, v, h1, h2, -, k2⟩ := cmp_v (Or.inl h)
  have e2 : (Term.int k).eval args s none [] s = some (.int k) := rfl
  cases e2.symm.trans h2
  obtain ⟨z, rfl⟩ := k2
  have q : z = k := by simpa [Cond.value, h1, e2] using h
  subst q
  exact Fld.start ((fld_at ev).symm.trans h1)
theorem own_fldJ {args : Array Value} {s : State} {t : Term} {a : Addr} {C n d : String} {k : Int64} (ev : t.eval args s none [] s = some (.ref a)) (h : (Cond.eq (.field t C n d) (.long k)).value args s none s [] = some true) : Fld s s.heap a C n d (.long k) := by
  obtain ⟨u, v, h1, h2, -, k2⟩ := cmp_v (Or.inl h)
  have e2 : (Term.long k).eval args s none [] s = some (.long k) := rfl
  cases e2.symm.trans h2
  obtain ⟨z, rfl⟩ := k2
  have q : z = k := by simpa [Cond.value, h1, e2] using h
  subst q
  exact Fld.start ((fld_at ev).symm.trans h1)
theorem own_fldN {args : Array Value} {s : State} {t : Term} {a : Addr} {C n d : String} (ev : t.eval args s none [] s = some (.ref a)) (h : (Cond.eq (.field t C n d) .null).value args s none s [] = some true) : Fld s s.heap a C n d .null :=
  Fld.start ((fld_at ev).symm.trans (null_v h))
theorem own_eqR {args : Array Value} {s : State} {t u : Term} {b : Addr} (eu : u.eval args s none [] s = some (.ref b)) (h : (Cond.eq t u).value args s none s [] = some true) : t.eval args s none [] s = some (.ref b) := by
  obtain ⟨x, y, h1, h2, k1, k2⟩ := cmp_v (Or.inl h)
  cases eu.symm.trans h2
  have hx : x.isRef = true := k2.2
  have q := gotT (eq_R h1 h2 hx rfl) h
  rw [h1, q]
theorem own_fldR {args : Array Value} {s : State} {t u : Term} {a b : Addr} {C n d : String} (ev : t.eval args s none [] s = some (.ref a)) (eu : u.eval args s none [] s = some (.ref b)) (h : (Cond.eq (.field t C n d) u).value args s none s [] = some true) : Fld s s.heap a C n d (.ref b) :=
  Fld.start ((fld_at ev).symm.trans (own_eqR eu h))
theorem own_elI {args : Array Value} {s : State} {t : Term} {a : Addr} {cl : Cell} {j k : Int32} {i : Nat} (ev : t.eval args s none [] s = some (.ref a)) (hc : s.heap[a]? = some cl) (h : (Cond.eq (.elem t (.int j)) (.int k)).value args s none s [] = some true) (hj : j.toNatClampNeg = i) : cl.slots[i]? = some (.int k) := by
  obtain ⟨u, v, h1, h2, -, k2⟩ := cmp_v (Or.inl h)
  have e2 : (Term.int k).eval args s none [] s = some (.int k) := rfl
  cases e2.symm.trans h2
  obtain ⟨z, rfl⟩ := k2
  have q : z = k := by simpa [Cond.value, h1, e2] using h
  subst q hj
  exact (elem_in h1 ev (rfl : (Term.int j).eval args s none [] s = some (.int j)) hc).2
theorem own_elR {args : Array Value} {s : State} {t u : Term} {a b : Addr} {cl : Cell} {j : Int32} {i : Nat} (ev : t.eval args s none [] s = some (.ref a)) (eu : u.eval args s none [] s = some (.ref b)) (hc : s.heap[a]? = some cl) (h : (Cond.eq (.elem t (.int j)) u).value args s none s [] = some true) (hj : j.toNatClampNeg = i) : cl.slots[i]? = some (.ref b) := by
  subst hj
  exact (elem_in (own_eqR eu h) ev (rfl : (Term.int j).eval args s none [] s = some (.int j)) hc).2
theorem own_len {args : Array Value} {s : State} {t : Term} {a : Addr} {cl : Cell} {ty : FieldType} {k : Int32} (ev : t.eval args s none [] s = some (.ref a)) (A : Arr s s.heap a cl ty) (h : (Cond.eq (.length t) (.int k)).value args s none s [] = some true) : cl.slots.size < 2 ^ 31 ∧ cl.slots.size.toInt32 = k := by
  obtain ⟨u, v, h1, h2, -, k2⟩ := cmp_v (Or.inl h)
  have e2 : (Term.int k).eval args s none [] s = some (.int k) := rfl
  cases e2.symm.trans h2
  obtain ⟨z, rfl⟩ := k2
  have q : z = k := by simpa [Cond.value, h1, e2] using h
  subst q
  have ha := A.fin (Vm.Alike.refl _)
  simp only [Term.eval, ev, ha, Option.bind_eq_bind, Option.bind_some] at h1
  split at h1
  · rename_i q
    exact ⟨q, by simpa using h1⟩
  · cases h1
theorem own_mask (p : Int32) : (p &&& (2147483647 : Int32)).toInt = p.toInt % 2 ^ 31 := by
  have h1 : (p &&& (2147483647 : Int32)).toInt = ((p &&& (2147483647 : Int32)).toBitVec).toInt := rfl
  have h2 : (p &&& (2147483647 : Int32)).toBitVec = p.toBitVec &&& 2147483647#32 := by simp [Int32.toBitVec_and]
  have h3 : p.toInt = p.toBitVec.toInt := rfl
  rw [h1, h2, h3, BitVec.toInt_eq_toNat_bmod, BitVec.toInt_eq_toNat_bmod, BitVec.toNat_and]
  have h4 : p.toBitVec.toNat &&& (2147483647#32).toNat = p.toBitVec.toNat % 2 ^ 31 := Nat.and_two_pow_sub_one_eq_mod _ 31
  rw [h4]
  have h5 := p.toBitVec.isLt
  generalize p.toBitVec.toNat = n at *
  simp only [Int.bmod_def]
  omega
theorem own_cases3 {z p : Int32} (h : z = (p &&& (2147483647 : Int32)) % (3 : Int32)) : z = (0 : Int32) ∨ z = (1 : Int32) ∨ z = (2 : Int32) := by
  have e1 : (p &&& (2147483647 : Int32)).toInt = p.toInt % 2 ^ 31 := own_mask p
  have e2 : z.toInt = (p.toInt % 2 ^ 31) % 3 := by
    rw [h, Int32.toInt_mod, e1, show (3 : Int32).toInt = 3 from by decide, Int.tmod_eq_emod_of_nonneg (Int.emod_nonneg _ (by decide))]
  have e3 : 0 ≤ z.toInt ∧ z.toInt < 3 := by rw [e2]; exact ⟨Int.emod_nonneg _ (by decide), Int.emod_lt_of_pos _ (by decide)⟩
  have k : ∀ {c : Int32} {k : Int}, c.toInt = k → z.toInt = k → z = c := fun h1 h2 => Int32.toInt_inj.mp (h2.trans h1.symm)
  have e4 : z.toInt = 0 ∨ z.toInt = 1 ∨ z.toInt = 2 := by omega
  rcases e4 with e | e | e
  · exact Or.inl (k (by decide) e)
  · exact Or.inr (Or.inl (k (by decide) e))
  · exact Or.inr (Or.inr ((k (by decide) e)))
def World (Z : State) (h : Heap) (wFALSE : Addr) (wTRUE : Addr) (wUNKNOWN : Addr) : Prop := Sta Z h "com/example/ongoing_grant/ongoinggrant/policy/Truth" "FALSE" "Lcom/example/ongoing_grant/ongoinggrant/policy/Truth;" (.ref wFALSE) ∧ Exa Z h wFALSE "com/example/ongoing_grant/ongoinggrant/policy/Truth" ∧ Sta Z h "com/example/ongoing_grant/ongoinggrant/policy/Truth" "TRUE" "Lcom/example/ongoing_grant/ongoinggrant/policy/Truth;" (.ref wTRUE) ∧ Exa Z h wTRUE "com/example/ongoing_grant/ongoinggrant/policy/Truth" ∧ Fld Z h wFALSE "java/lang/Enum" "ordinal" "I" (.int (1 : Int32)) ∧ Fld Z h wTRUE "java/lang/Enum" "ordinal" "I" (.int (0 : Int32)) ∧ Sta Z h "com/example/ongoing_grant/ongoinggrant/policy/Truth" "UNKNOWN" "Lcom/example/ongoing_grant/ongoinggrant/policy/Truth;" (.ref wUNKNOWN) ∧ Exa Z h wUNKNOWN "com/example/ongoing_grant/ongoinggrant/policy/Truth" ∧ Fld Z h wUNKNOWN "java/lang/Enum" "ordinal" "I" (.int (2 : Int32)) ∧ True
theorem World.ext {Z : State} {h h' : Heap} {wFALSE : Addr} {wTRUE : Addr} {wUNKNOWN : Addr} (W : World Z h wFALSE wTRUE wUNKNOWN) (E : Ext h h') : World Z h' wFALSE wTRUE wUNKNOWN := by
  obtain ⟨SFALSE, EFALSE, STRUE, ETRUE, FFALSE_ordinal, FTRUE_ordinal, SUNKNOWN, EUNKNOWN, FUNKNOWN_ordinal, -⟩ := W
  exact ⟨SFALSE.ext E, EFALSE.ext E, STRUE.ext E, ETRUE.ext E, FFALSE_ordinal.ext E, FTRUE_ordinal.ext E, SUNKNOWN.ext E, EUNKNOWN.ext E, FUNKNOWN_ordinal.ext E, trivial⟩
theorem d1_0 : decode method_2_code 0 = .ok (.iload_n 0, 1) := by decide +kernel
theorem d1_1 : decode method_2_code 1 = .ok (.ifCond .ne 7, 3) := by decide +kernel
theorem d1_4 : decode method_2_code 4 = .ok (.getstatic 7, 3) := by decide +kernel
theorem d1_7 : decode method_2_code 7 = .ok (.areturn, 1) := by decide +kernel
theorem d1_8 : decode method_2_code 8 = .ok (.iload_n 0, 1) := by decide +kernel
theorem d1_9 : decode method_2_code 9 = .ok (.iconst 1, 1) := by decide +kernel
theorem d1_10 : decode method_2_code 10 = .ok (.if_icmp .ne 7, 3) := by decide +kernel
theorem d1_13 : decode method_2_code 13 = .ok (.getstatic 13, 3) := by decide +kernel
theorem d1_16 : decode method_2_code 16 = .ok (.areturn, 1) := by decide +kernel
theorem d1_17 : decode method_2_code 17 = .ok (.getstatic 16, 3) := by decide +kernel
theorem d1_20 : decode method_2_code 20 = .ok (.areturn, 1) := by decide +kernel
theorem pn_0 : plainName "com/example/ongoing_grant/ongoinggrant/policy/TruthOrPinLaw" = true := by first | (simp [plainName, overriddenIn]; done) | decide +kernel
def f1 (p0 : Int32) (wFALSE : Addr) (wTRUE : Addr) (wUNKNOWN : Addr) : Addr := if p0 = (0 : Int32) then wFALSE else if p0 = (1 : Int32) then wUNKNOWN else wTRUE
theorem ef_1 (m : MethodId) (p0 : Int32) : entryFrame m #[(.int p0)] 1 = mkF m 0 #[.val (.int p0)] [] := by first | (simp [entryFrame, mkF, argsToLocals, Value.category]; done) | rfl
def Q1 (Z : State) (p0 : Int32) (wFALSE : Addr) (wTRUE : Addr) (wUNKNOWN : Addr) (h0 : Heap) (n0 : Nat) (v : Option Value) (h : Heap) (L : List Loc) : Prop := v = some (.ref (f1 p0 wFALSE wTRUE wUNKNOWN)) ∧ Fr n0 L ∧ h = h0
set_option maxRecDepth 65536 in
set_option maxHeartbeats 40000000 in
theorem rm1 (l : Launch) (Z : State) (a0 : Array Value) (hw : ∀ d ∈ tables_1, d.before a0 Z = true) (ws : List Jvm.Cond) (p0 : Int32) (wFALSE : Addr) (wTRUE : Addr) (wUNKNOWN : Addr) (h0 : Heap) (n0 : Nat) (Z0 : n0 ≤ h0.size) (W0 : World Z h0 wFALSE wTRUE wUNKNOWN) :
    MetFree l (⟨"com/example/ongoing_grant/ongoinggrant/policy/TruthOrPinLaw", "pick", "(I)Lcom/example/ongoing_grant/ongoinggrant/policy/Truth;"⟩ : MethodName) (head1 (Jvm.Cond.code (⟨"com/example/ongoing_grant/ongoinggrant/policy/TruthOrPinLaw", "pick", "(I)Lcom/example/ongoing_grant/ongoinggrant/policy/Truth;"⟩ : MethodName) method_2_code 1 (some (.object "com/example/ongoing_grant/ongoinggrant/policy/Truth")) :: ws) ({ frames := 0, cells := 0, slots := 0, locals := 0 } : Room)) (fun a U => a = #[(.int p0)] ∧ Z.Warmed39 U.vm ∧ U.heap = h0) (fun _ _ _ _ _ => True) (fun _ U o U' => ∃ v L, o = .returned v ∧ Q1 Z p0 wFALSE wTRUE wUNKNOWN h0 n0 v U'.heap L ∧ FrameEnd U o U' L ({ frames := 0, cells := 0, slots := 0, locals := 0 } : Room).cells ({ frames := 0, cells := 0, slots := 0, locals := 0 } : Room).slots) := by
  refine MetFree.of_bodySF (plainFor_of_name pn_0) hisR ?_
  intro p e s m args below meth c s₁ Bd hml0 hP hK
  obtain ⟨rfl, hZ, hh⟩ := hP
  have hx := Bd.exec
  have hby := Bd.bytes
  have hml : c.maxLocals = 1 := hml0
  have hown : s.vm.findClass "com/example/ongoing_grant/ongoinggrant/policy/TruthOrPinLaw" = some m.cls := findClass_of_methodNamed Bd.named
  have X0 : Stand p l e ({ frames := 0, cells := 0, slots := 0, locals := 0 } : Room) s m #[(.int p0)] below meth c s₁ [] 0 0 := Stand.of_body Bd
  have e0 : s₁.heap = h0 := by rw [← hh, Bd.state]; rfl
  have N0 := Fr.nil n0
  have W1 := W0
  obtain ⟨SFALSE, EFALSE, STRUE, ETRUE, FFALSE_ordinal, FTRUE_ordinal, SUNKNOWN, EUNKNOWN, FUNKNOWN_ordinal, -⟩ := W1
  have pre0 : ∀ t, Steps p.tables e below (s₁.setTop (mkF m 0 #[.val (.int p0)] [])) t → Steps p.tables e below (s₁.setTop (entryFrame m #[(.int p0)] 1)) t := fun t k => castTop (ef_1 m p0) k
  have k1 : ∀ t, Steps p.tables e below (s₁.setTop (mkF m 1 #[.val (.int p0)] [(.int p0)])) t → Steps p.tables e below (s₁.setTop (entryFrame m #[(.int p0)] 1)) t := fun t kt => pre0 t (by
    show Steps p.tables e below (s₁.setTop (mkF m 0 #[.val (.int p0)] [])) _
    refine XS.iloadN X0.here hx rfl (hb hby d1_0) rfl ?_
    exact kt)
  by_cases hc2 : p0 = (0 : Int32)
  · obtain ⟨T3, X3, e3, st3⟩ := getS2 X0 hx hZ hown (host := "") (Or.inl (hw _ (List.mem_of_getElem? (i := 5) rfl))) Via.refl e0 SFALSE (g := (mkF m 4 #[.val (.int p0)] [])) rfl (hb hby d1_4)
    obtain ⟨fs, hr, hrun, hended, hW, hsame⟩ := X3.leave (v := some (.ref wFALSE)) (fun h => by rw [Bd.returns] at h; cases h)
    refine ⟨_, _, k1 _ ?_, hrun, hended, _, _, rfl, ?_, ⟨_, rfl⟩, hW, hsame.mono (by decide) (by decide)⟩
    · show Steps p.tables e below (s₁.setTop (mkF m 1 #[.val (.int p0)] [(.int p0)])) _
      refine XS.ifNo X0.here hx rfl (hb hby d1_1) rfl ((if0 _ _).trans (teq (hc2 : p0 = (0 : Int32))).2) ?_
      show Steps p.tables e below (s₁.setTop (mkF m 4 #[.val (.int p0)] [])) _
      refine st3 _ ?_
      show Steps p.tables e below (T3.setTop (mkF m 7 #[.val (.int p0)] [(.ref wFALSE)])) _
      exact own_retA X3 hx Bd.returns rfl rfl (hb hby d1_7) hr
    · show Q1 Z p0 wFALSE wTRUE wUNKNOWN h0 n0 _ T3.heap _
      rw [e3]
      exact ⟨by rw [f1, if_pos hc2], N0, rfl⟩
  · have k4 : ∀ t, Steps p.tables e below (s₁.setTop (mkF m 10 #[.val (.int p0)] [(.int (1 : Int32)), (.int p0)])) t → Steps p.tables e below (s₁.setTop (entryFrame m #[(.int p0)] 1)) t := fun t kt => k1 t (by
      show Steps p.tables e below (s₁.setTop (mkF m 1 #[.val (.int p0)] [(.int p0)])) _
      refine XS.ifYes X0.here hx rfl (pc0 := 1) (pc' := 8) rfl (hb hby d1_1) rfl ((if0 _ _).trans (feq (hc2 : ¬ (p0 = (0 : Int32)))).2) (by decide) (by decide) ?_
      show Steps p.tables e below (s₁.setTop (mkF m 8 #[.val (.int p0)] [])) _
      refine XS.iloadN X0.here hx rfl (hb hby d1_8) rfl ?_
      show Steps p.tables e below (s₁.setTop (mkF m 9 #[.val (.int p0)] [(.int p0)])) _
      refine XS.iconst X0.here hx rfl (hb hby d1_9) ?_
      exact kt)
    by_cases hc5 : p0 = (1 : Int32)
    · obtain ⟨T6, X6, e6, st6⟩ := getS2 X0 hx hZ hown (host := "") (Or.inl (hw _ (List.mem_of_getElem? (i := 24) rfl))) Via.refl e0 SUNKNOWN (g := (mkF m 13 #[.val (.int p0)] [])) rfl (hb hby d1_13)
      obtain ⟨fs, hr, hrun, hended, hW, hsame⟩ := X6.leave (v := some (.ref wUNKNOWN)) (fun h => by rw [Bd.returns] at h; cases h)
      refine ⟨_, _, k4 _ ?_, hrun, hended, _, _, rfl, ?_, ⟨_, rfl⟩, hW, hsame.mono (by decide) (by decide)⟩
      · show Steps p.tables e below (s₁.setTop (mkF m 10 #[.val (.int p0)] [(.int (1 : Int32)), (.int p0)])) _
        refine XS.icmpNo X0.here hx rfl (hb hby d1_10) rfl (teq (hc5 : p0 = (1 : Int32))).2 ?_
        show Steps p.tables e below (s₁.setTop (mkF m 13 #[.val (.int p0)] [])) _
        refine st6 _ ?_
        show Steps p.tables e below (T6.setTop (mkF m 16 #[.val (.int p0)] [(.ref wUNKNOWN)])) _
        exact own_retA X6 hx Bd.returns rfl rfl (hb hby d1_16) hr
      · show Q1 Z p0 wFALSE wTRUE wUNKNOWN h0 n0 _ T6.heap _
        rw [e6]
        exact ⟨by rw [f1, if_neg hc2, if_pos hc5], N0, rfl⟩
    · obtain ⟨T7, X7, e7, st7⟩ := getS2 X0 hx hZ hown (host := "") (Or.inl (hw _ (List.mem_of_getElem? (i := 23) rfl))) Via.refl e0 STRUE (g := (mkF m 17 #[.val (.int p0)] [])) rfl (hb hby d1_17)
      obtain ⟨fs, hr, hrun, hended, hW, hsame⟩ := X7.leave (v := some (.ref wTRUE)) (fun h => by rw [Bd.returns] at h; cases h)
      refine ⟨_, _, k4 _ ?_, hrun, hended, _, _, rfl, ?_, ⟨_, rfl⟩, hW, hsame.mono (by decide) (by decide)⟩
      · show Steps p.tables e below (s₁.setTop (mkF m 10 #[.val (.int p0)] [(.int (1 : Int32)), (.int p0)])) _
        refine XS.icmpYes X0.here hx rfl (pc0 := 10) (pc' := 17) rfl (hb hby d1_10) rfl (feq (hc5 : ¬ (p0 = (1 : Int32)))).2 (by decide) (by decide) ?_
        show Steps p.tables e below (s₁.setTop (mkF m 17 #[.val (.int p0)] [])) _
        refine st7 _ ?_
        show Steps p.tables e below (T7.setTop (mkF m 20 #[.val (.int p0)] [(.ref wTRUE)])) _
        exact own_retA X7 hx Bd.returns rfl rfl (hb hby d1_20) hr
      · show Q1 Z p0 wFALSE wTRUE wUNKNOWN h0 n0 _ T7.heap _
        rw [e7]
        exact ⟨by rw [f1, if_neg hc2, if_neg hc5], N0, rfl⟩
theorem d2_0 : decode method_3_code 0 = .ok (.aload_n 0, 1) := by decide +kernel
theorem d2_1 : decode method_3_code 1 = .ok (.getstatic 7, 3) := by decide +kernel
theorem d2_4 : decode method_3_code 4 = .ok (.if_acmp .ne 5, 3) := by decide +kernel
theorem d2_7 : decode method_3_code 7 = .ok (.iconst 0, 1) := by decide +kernel
theorem d2_8 : decode method_3_code 8 = .ok (.ireturn, 1) := by decide +kernel
theorem d2_9 : decode method_3_code 9 = .ok (.aload_n 0, 1) := by decide +kernel
theorem d2_10 : decode method_3_code 10 = .ok (.getstatic 13, 3) := by decide +kernel
theorem d2_13 : decode method_3_code 13 = .ok (.if_acmp .ne 5, 3) := by decide +kernel
theorem d2_16 : decode method_3_code 16 = .ok (.iconst 1, 1) := by decide +kernel
theorem d2_17 : decode method_3_code 17 = .ok (.ireturn, 1) := by decide +kernel
theorem d2_18 : decode method_3_code 18 = .ok (.aload_n 0, 1) := by decide +kernel
theorem d2_19 : decode method_3_code 19 = .ok (.getstatic 16, 3) := by decide +kernel
theorem d2_22 : decode method_3_code 22 = .ok (.if_acmp .ne 5, 3) := by decide +kernel
theorem d2_25 : decode method_3_code 25 = .ok (.iconst 2, 1) := by decide +kernel
theorem d2_26 : decode method_3_code 26 = .ok (.ireturn, 1) := by decide +kernel
theorem d2_27 : decode method_3_code 27 = .ok (.iconst (-1), 1) := by decide +kernel
theorem d2_28 : decode method_3_code 28 = .ok (.ireturn, 1) := by decide +kernel
def f2 (p0 : Addr) (wFALSE : Addr) (wTRUE : Addr) (wUNKNOWN : Addr) : Int32 := if p0 = wFALSE then (0 : Int32) else if p0 = wUNKNOWN then (1 : Int32) else if p0 = wTRUE then (2 : Int32) else (-1 : Int32)
theorem ef_2 (m : MethodId) (p0 : Addr) : entryFrame m #[(.ref p0)] 1 = mkF m 0 #[.val (.ref p0)] [] := by first | (simp [entryFrame, mkF, argsToLocals, Value.category]; done) | rfl
def Q2 (Z : State) (p0 : Addr) (wFALSE : Addr) (wTRUE : Addr) (wUNKNOWN : Addr) (h0 : Heap) (n0 : Nat) (v : Option Value) (h : Heap) (L : List Loc) : Prop := v = some (.int (f2 p0 wFALSE wTRUE wUNKNOWN)) ∧ Fr n0 L ∧ h = h0
set_option maxRecDepth 65536 in
set_option maxHeartbeats 40000000 in
theorem rm2 (l : Launch) (Z : State) (a0 : Array Value) (hw : ∀ d ∈ tables_1, d.before a0 Z = true) (ws : List Jvm.Cond) (p0 : Addr) (wFALSE : Addr) (wTRUE : Addr) (wUNKNOWN : Addr) (h0 : Heap) (n0 : Nat) (Z0 : n0 ≤ h0.size) (W0 : World Z h0 wFALSE wTRUE wUNKNOWN) :
    MetFree l (⟨"com/example/ongoing_grant/ongoinggrant/policy/TruthOrPinLaw", "rank", "(Lcom/example/ongoing_grant/ongoinggrant/policy/Truth;)I"⟩ : MethodName) (head1 (Jvm.Cond.code (⟨"com/example/ongoing_grant/ongoinggrant/policy/TruthOrPinLaw", "rank", "(Lcom/example/ongoing_grant/ongoinggrant/policy/Truth;)I"⟩ : MethodName) method_3_code 1 (some .int) :: ws) ({ frames := 0, cells := 0, slots := 0, locals := 0 } : Room)) (fun a U => a = #[(.ref p0)] ∧ Z.Warmed39 U.vm ∧ U.heap = h0) (fun _ _ _ _ _ => True) (fun _ U o U' => ∃ v L, o = .returned v ∧ Q2 Z p0 wFALSE wTRUE wUNKNOWN h0 n0 v U'.heap L ∧ FrameEnd U o U' L ({ frames := 0, cells := 0, slots := 0, locals := 0 } : Room).cells ({ frames := 0, cells := 0, slots := 0, locals := 0 } : Room).slots) := by
  refine MetFree.of_bodySF (plainFor_of_name pn_0) hisR ?_
  intro p e s m args below meth c s₁ Bd hml0 hP hK
  obtain ⟨rfl, hZ, hh⟩ := hP
  have hx := Bd.exec
  have hby := Bd.bytes
  have hml : c.maxLocals = 1 := hml0
  have hown : s.vm.findClass "com/example/ongoing_grant/ongoinggrant/policy/TruthOrPinLaw" = some m.cls := findClass_of_methodNamed Bd.named
  have X0 : Stand p l e ({ frames := 0, cells := 0, slots := 0, locals := 0 } : Room) s m #[(.ref p0)] below meth c s₁ [] 0 0 := Stand.of_body Bd
  have e0 : s₁.heap = h0 := by rw [← hh, Bd.state]; rfl
  have N0 := Fr.nil n0
  have W1 := W0
  obtain ⟨SFALSE, EFALSE, STRUE, ETRUE, FFALSE_ordinal, FTRUE_ordinal, SUNKNOWN, EUNKNOWN, FUNKNOWN_ordinal, -⟩ := W1
  have pre0 : ∀ t, Steps p.tables e below (s₁.setTop (mkF m 0 #[.val (.ref p0)] [])) t → Steps p.tables e below (s₁.setTop (entryFrame m #[(.ref p0)] 1)) t := fun t k => castTop (ef_2 m p0) k
  obtain ⟨T8, X8, e8, st8⟩ := getS2 X0 hx hZ hown (host := "") (Or.inl (hw _ (List.mem_of_getElem? (i := 5) rfl))) Via.refl e0 SFALSE (g := (mkF m 1 #[.val (.ref p0)] [(.ref p0)])) rfl (hb hby d2_1)
  have k9 : ∀ t, Steps p.tables e below (T8.setTop (mkF m 4 #[.val (.ref p0)] [(.ref wFALSE), (.ref p0)])) t → Steps p.tables e below (s₁.setTop (entryFrame m #[(.ref p0)] 1)) t := fun t kt => pre0 t (by
    show Steps p.tables e below (s₁.setTop (mkF m 0 #[.val (.ref p0)] [])) _
    refine XS.aloadN X0.here hx rfl (hb hby d2_0) rfl rfl ?_
    show Steps p.tables e below (s₁.setTop (mkF m 1 #[.val (.ref p0)] [(.ref p0)])) _
    refine st8 _ ?_
    exact kt)
  by_cases hc10 : p0 = wFALSE
  · obtain ⟨fs, hr, hrun, hended, hW, hsame⟩ := X8.leave (v := some (.int (0 : Int32))) (fun h => by rw [Bd.returns] at h; cases h)
    refine ⟨_, _, k9 _ ?_, hrun, hended, _, _, rfl, ?_, ⟨_, rfl⟩, hW, hsame.mono (by decide) (by decide)⟩
    · show Steps p.tables e below (T8.setTop (mkF m 4 #[.val (.ref p0)] [(.ref wFALSE), (.ref p0)])) _
      refine Jvm.RoadKit.acmp (g := (mkF m 4 #[.val (.ref p0)] [(.ref wFALSE), (.ref p0)])) X8 hx rfl rfl rfl (pc0 := 4) (pc' := 7) (same := true) rfl (hb hby d2_4) rfl (decide_eq_true (congrArg Value.ref (hc10 : p0 = wFALSE))) (by decide) (by decide) ?_
      show Steps p.tables e below (T8.setTop (mkF m 7 #[.val (.ref p0)] [])) _
      refine XS.iconst X8.here hx rfl (hb hby d2_7) ?_
      show Steps p.tables e below (T8.setTop (mkF m 8 #[.val (.ref p0)] [(.int (0 : Int32))])) _
      exact own_retI X8 hx Bd.returns (hb hby d2_8) hr
    · show Q2 Z p0 wFALSE wTRUE wUNKNOWN h0 n0 _ T8.heap _
      rw [e8]
      exact ⟨by rw [f2, if_pos hc10], N0, rfl⟩
  · obtain ⟨T11, X11, e11, st11⟩ := getS2 X8 hx hZ hown (host := "") (Or.inl (hw _ (List.mem_of_getElem? (i := 24) rfl))) Via.refl e8 SUNKNOWN (g := (mkF m 10 #[.val (.ref p0)] [(.ref p0)])) rfl (hb hby d2_10)
    have k12 : ∀ t, Steps p.tables e below (T11.setTop (mkF m 13 #[.val (.ref p0)] [(.ref wUNKNOWN), (.ref p0)])) t → Steps p.tables e below (s₁.setTop (entryFrame m #[(.ref p0)] 1)) t := fun t kt => k9 t (by
      show Steps p.tables e below (T8.setTop (mkF m 4 #[.val (.ref p0)] [(.ref wFALSE), (.ref p0)])) _
      refine Jvm.RoadKit.acmp (g := (mkF m 4 #[.val (.ref p0)] [(.ref wFALSE), (.ref p0)])) X8 hx rfl rfl rfl (pc0 := 4) (pc' := 9) (same := false) rfl (hb hby d2_4) rfl (decide_eq_false fun q => (hc10 : ¬ (p0 = wFALSE)) (Value.ref.inj q)) (by decide) (by decide) ?_
      show Steps p.tables e below (T8.setTop (mkF m 9 #[.val (.ref p0)] [])) _
      refine XS.aloadN X8.here hx rfl (hb hby d2_9) rfl rfl ?_
      show Steps p.tables e below (T8.setTop (mkF m 10 #[.val (.ref p0)] [(.ref p0)])) _
      refine st11 _ ?_
      exact kt)
    by_cases hc13 : p0 = wUNKNOWN
    · obtain ⟨fs, hr, hrun, hended, hW, hsame⟩ := X11.leave (v := some (.int (1 : Int32))) (fun h => by rw [Bd.returns] at h; cases h)
      refine ⟨_, _, k12 _ ?_, hrun, hended, _, _, rfl, ?_, ⟨_, rfl⟩, hW, hsame.mono (by decide) (by decide)⟩
      · show Steps p.tables e below (T11.setTop (mkF m 13 #[.val (.ref p0)] [(.ref wUNKNOWN), (.ref p0)])) _
        refine Jvm.RoadKit.acmp (g := (mkF m 13 #[.val (.ref p0)] [(.ref wUNKNOWN), (.ref p0)])) X11 hx rfl rfl rfl (pc0 := 13) (pc' := 16) (same := true) rfl (hb hby d2_13) rfl (decide_eq_true (congrArg Value.ref (hc13 : p0 = wUNKNOWN))) (by decide) (by decide) ?_
        show Steps p.tables e below (T11.setTop (mkF m 16 #[.val (.ref p0)] [])) _
        refine XS.iconst X11.here hx rfl (hb hby d2_16) ?_
        show Steps p.tables e below (T11.setTop (mkF m 17 #[.val (.ref p0)] [(.int (1 : Int32))])) _
        exact own_retI X11 hx Bd.returns (hb hby d2_17) hr
      · show Q2 Z p0 wFALSE wTRUE wUNKNOWN h0 n0 _ T11.heap _
        rw [e11]
        exact ⟨by rw [f2, if_neg hc10, if_pos hc13], N0, rfl⟩
    · obtain ⟨T14, X14, e14, st14⟩ := getS2 X11 hx hZ hown (host := "") (Or.inl (hw _ (List.mem_of_getElem? (i := 23) rfl))) Via.refl e11 STRUE (g := (mkF m 19 #[.val (.ref p0)] [(.ref p0)])) rfl (hb hby d2_19)
      have k15 : ∀ t, Steps p.tables e below (T14.setTop (mkF m 22 #[.val (.ref p0)] [(.ref wTRUE), (.ref p0)])) t → Steps p.tables e below (s₁.setTop (entryFrame m #[(.ref p0)] 1)) t := fun t kt => k12 t (by
        show Steps p.tables e below (T11.setTop (mkF m 13 #[.val (.ref p0)] [(.ref wUNKNOWN), (.ref p0)])) _
        refine Jvm.RoadKit.acmp (g := (mkF m 13 #[.val (.ref p0)] [(.ref wUNKNOWN), (.ref p0)])) X11 hx rfl rfl rfl (pc0 := 13) (pc' := 18) (same := false) rfl (hb hby d2_13) rfl (decide_eq_false fun q => (hc13 : ¬ (p0 = wUNKNOWN)) (Value.ref.inj q)) (by decide) (by decide) ?_
        show Steps p.tables e below (T11.setTop (mkF m 18 #[.val (.ref p0)] [])) _
        refine XS.aloadN X11.here hx rfl (hb hby d2_18) rfl rfl ?_
        show Steps p.tables e below (T11.setTop (mkF m 19 #[.val (.ref p0)] [(.ref p0)])) _
        refine st14 _ ?_
        exact kt)
      by_cases hc16 : p0 = wTRUE
      · obtain ⟨fs, hr, hrun, hended, hW, hsame⟩ := X14.leave (v := some (.int (2 : Int32))) (fun h => by rw [Bd.returns] at h; cases h)
        refine ⟨_, _, k15 _ ?_, hrun, hended, _, _, rfl, ?_, ⟨_, rfl⟩, hW, hsame.mono (by decide) (by decide)⟩
        · show Steps p.tables e below (T14.setTop (mkF m 22 #[.val (.ref p0)] [(.ref wTRUE), (.ref p0)])) _
          refine Jvm.RoadKit.acmp (g := (mkF m 22 #[.val (.ref p0)] [(.ref wTRUE), (.ref p0)])) X14 hx rfl rfl rfl (pc0 := 22) (pc' := 25) (same := true) rfl (hb hby d2_22) rfl (decide_eq_true (congrArg Value.ref (hc16 : p0 = wTRUE))) (by decide) (by decide) ?_
          show Steps p.tables e below (T14.setTop (mkF m 25 #[.val (.ref p0)] [])) _
          refine XS.iconst X14.here hx rfl (hb hby d2_25) ?_
          show Steps p.tables e below (T14.setTop (mkF m 26 #[.val (.ref p0)] [(.int (2 : Int32))])) _
          exact own_retI X14 hx Bd.returns (hb hby d2_26) hr
        · show Q2 Z p0 wFALSE wTRUE wUNKNOWN h0 n0 _ T14.heap _
          rw [e14]
          exact ⟨by rw [f2, if_neg hc10, if_neg hc13, if_pos hc16], N0, rfl⟩
      · obtain ⟨fs, hr, hrun, hended, hW, hsame⟩ := X14.leave (v := some (.int (-1 : Int32))) (fun h => by rw [Bd.returns] at h; cases h)
        refine ⟨_, _, k15 _ ?_, hrun, hended, _, _, rfl, ?_, ⟨_, rfl⟩, hW, hsame.mono (by decide) (by decide)⟩
        · show Steps p.tables e below (T14.setTop (mkF m 22 #[.val (.ref p0)] [(.ref wTRUE), (.ref p0)])) _
          refine Jvm.RoadKit.acmp (g := (mkF m 22 #[.val (.ref p0)] [(.ref wTRUE), (.ref p0)])) X14 hx rfl rfl rfl (pc0 := 22) (pc' := 27) (same := false) rfl (hb hby d2_22) rfl (decide_eq_false fun q => (hc16 : ¬ (p0 = wTRUE)) (Value.ref.inj q)) (by decide) (by decide) ?_
          show Steps p.tables e below (T14.setTop (mkF m 27 #[.val (.ref p0)] [])) _
          refine XS.iconst X14.here hx rfl (hb hby d2_27) ?_
          show Steps p.tables e below (T14.setTop (mkF m 28 #[.val (.ref p0)] [(.int (-1 : Int32))])) _
          exact own_retI X14 hx Bd.returns (hb hby d2_28) hr
        · show Q2 Z p0 wFALSE wTRUE wUNKNOWN h0 n0 _ T14.heap _
          rw [e14]
          exact ⟨by rw [f2, if_neg hc10, if_neg hc13, if_neg hc16], N0, rfl⟩
theorem d3_0 : decode jdk_29_method_65_code 0 = .ok (.iload_n 0, 1) := by decide +kernel
theorem d3_1 : decode jdk_29_method_65_code 1 = .ok (.iload_n 1, 1) := by decide +kernel
theorem d3_2 : decode jdk_29_method_65_code 2 = .ok (.if_icmp .lt 7, 3) := by decide +kernel
theorem d3_9 : decode jdk_29_method_65_code 9 = .ok (.iload_n 1, 1) := by decide +kernel
theorem d3_10 : decode jdk_29_method_65_code 10 = .ok (.ireturn, 1) := by decide +kernel
theorem d3_5 : decode jdk_29_method_65_code 5 = .ok (.iload_n 0, 1) := by decide +kernel
theorem d3_6 : decode jdk_29_method_65_code 6 = .ok (.goto 4, 3) := by decide +kernel
def f3 (p0 : Int32) (p1 : Int32) : Int32 := if p0 < p1 then p1 else p0
theorem ef_3 (m : MethodId) (p0 : Int32) (p1 : Int32) : entryFrame m #[(.int p0), (.int p1)] 2 = mkF m 0 #[.val (.int p0), .val (.int p1)] [] := by first | (simp [entryFrame, mkF, argsToLocals, Value.category]; done) | rfl
def Q3 (Z : State) (p0 : Int32) (p1 : Int32) (h0 : Heap) (n0 : Nat) (v : Option Value) (h : Heap) (L : List Loc) : Prop := v = some (.int (f3 p0 p1)) ∧ Fr n0 L ∧ h = h0
set_option maxRecDepth 65536 in
set_option maxHeartbeats 40000000 in
theorem rm3 (l : Launch) (Z : State) (a0 : Array Value) (hw : ∀ d ∈ tables_1, d.before a0 Z = true) (ws : List Jvm.Cond) (p0 : Int32) (p1 : Int32) (h0 : Heap) (n0 : Nat) (Z0 : n0 ≤ h0.size) :
    MetFree l (⟨"java/lang/Math", "max", "(II)I"⟩ : MethodName) (head1 (Jvm.Cond.code (⟨"java/lang/Math", "max", "(II)I"⟩ : MethodName) jdk_29_method_65_code 2 (some .int) :: ws) ({ frames := 0, cells := 0, slots := 0, locals := 0 } : Room)) (fun a U => a = #[(.int p0), (.int p1)] ∧ Z.Warmed39 U.vm ∧ U.heap = h0) (fun _ _ _ _ _ => True) (fun _ U o U' => ∃ v L, o = .returned v ∧ Q3 Z p0 p1 h0 n0 v U'.heap L ∧ FrameEnd U o U' L ({ frames := 0, cells := 0, slots := 0, locals := 0 } : Room).cells ({ frames := 0, cells := 0, slots := 0, locals := 0 } : Room).slots) := by
  refine MetFree.of_bodySF (Jvm.Free.JP.mathPlain rfl (by decide +kernel)) hisR ?_
  intro p e s m args below meth c s₁ Bd hml0 hP hK
  obtain ⟨rfl, hZ, hh⟩ := hP
  have hx := Bd.exec
  have hby := Bd.bytes
  have hml : c.maxLocals = 2 := hml0
  have hown : s.vm.findClass "java/lang/Math" = some m.cls := findClass_of_methodNamed Bd.named
  have X0 : Stand p l e ({ frames := 0, cells := 0, slots := 0, locals := 0 } : Room) s m #[(.int p0), (.int p1)] below meth c s₁ [] 0 0 := Stand.of_body Bd
  have e0 : s₁.heap = h0 := by rw [← hh, Bd.state]; rfl
  have N0 := Fr.nil n0
  have pre0 : ∀ t, Steps p.tables e below (s₁.setTop (mkF m 0 #[.val (.int p0), .val (.int p1)] [])) t → Steps p.tables e below (s₁.setTop (entryFrame m #[(.int p0), (.int p1)] 2)) t := fun t k => castTop (ef_3 m p0 p1) k
  have k17 : ∀ t, Steps p.tables e below (s₁.setTop (mkF m 2 #[.val (.int p0), .val (.int p1)] [(.int p1), (.int p0)])) t → Steps p.tables e below (s₁.setTop (entryFrame m #[(.int p0), (.int p1)] 2)) t := fun t kt => pre0 t (by
    show Steps p.tables e below (s₁.setTop (mkF m 0 #[.val (.int p0), .val (.int p1)] [])) _
    refine XS.iloadN X0.here hx rfl (hb hby d3_0) rfl ?_
    show Steps p.tables e below (s₁.setTop (mkF m 1 #[.val (.int p0), .val (.int p1)] [(.int p0)])) _
    refine XS.iloadN X0.here hx rfl (hb hby d3_1) rfl ?_
    exact kt)
  by_cases hc18 : p0 < p1
  · obtain ⟨fs, hr, hrun, hended, hW, hsame⟩ := X0.leave (v := some (.int p1)) (fun h => by rw [Bd.returns] at h; cases h)
    refine ⟨_, _, k17 _ ?_, hrun, hended, _, _, rfl, ?_, ⟨_, rfl⟩, hW, hsame.mono (by decide) (by decide)⟩
    · show Steps p.tables e below (s₁.setTop (mkF m 2 #[.val (.int p0), .val (.int p1)] [(.int p1), (.int p0)])) _
      refine XS.icmpYes X0.here hx rfl (pc0 := 2) (pc' := 9) rfl (hb hby d3_2) rfl (tlt (hc18 : p0 < p1)).1 (by decide) (by decide) ?_
      show Steps p.tables e below (s₁.setTop (mkF m 9 #[.val (.int p0), .val (.int p1)] [])) _
      refine XS.iloadN X0.here hx rfl (hb hby d3_9) rfl ?_
      show Steps p.tables e below (s₁.setTop (mkF m 10 #[.val (.int p0), .val (.int p1)] [(.int p1)])) _
      exact own_retI X0 hx Bd.returns (hb hby d3_10) hr
    · show Q3 Z p0 p1 h0 n0 _ s₁.heap _
      rw [e0]
      exact ⟨by rw [f3, if_pos hc18], N0, rfl⟩
  · obtain ⟨fs, hr, hrun, hended, hW, hsame⟩ := X0.leave (v := some (.int p0)) (fun h => by rw [Bd.returns] at h; cases h)
    refine ⟨_, _, k17 _ ?_, hrun, hended, _, _, rfl, ?_, ⟨_, rfl⟩, hW, hsame.mono (by decide) (by decide)⟩
    · show Steps p.tables e below (s₁.setTop (mkF m 2 #[.val (.int p0), .val (.int p1)] [(.int p1), (.int p0)])) _
      refine XS.icmpNo X0.here hx rfl (hb hby d3_2) rfl (flt (hc18 : ¬ (p0 < p1))).1 ?_
      show Steps p.tables e below (s₁.setTop (mkF m 5 #[.val (.int p0), .val (.int p1)] [])) _
      refine XS.iloadN X0.here hx rfl (hb hby d3_5) rfl ?_
      show Steps p.tables e below (s₁.setTop (mkF m 6 #[.val (.int p0), .val (.int p1)] [(.int p0)])) _
      refine XS.goto X0.here hx rfl (pc0 := 6) (pc' := 10) rfl (hb hby d3_6) (by decide) (by decide) ?_
      show Steps p.tables e below (s₁.setTop (mkF m 10 #[.val (.int p0), .val (.int p1)] [(.int p0)])) _
      exact own_retI X0 hx Bd.returns (hb hby d3_10) hr
    · show Q3 Z p0 p1 h0 n0 _ s₁.heap _
      rw [e0]
      exact ⟨by rw [f3, if_neg hc18], N0, rfl⟩
theorem d4_0 : decode prog_86_method_6_code 0 = .ok (.aload_n 0, 1) := by decide +kernel
theorem d4_1 : decode prog_86_method_6_code 1 = .ok (.getstatic 3, 3) := by decide +kernel
theorem d4_4 : decode prog_86_method_6_code 4 = .ok (.if_acmp .eq 10, 3) := by decide +kernel
theorem d4_14 : decode prog_86_method_6_code 14 = .ok (.getstatic 3, 3) := by decide +kernel
theorem d4_17 : decode prog_86_method_6_code 17 = .ok (.astore_n 2, 1) := by decide +kernel
theorem d4_18 : decode prog_86_method_6_code 18 = .ok (.goto 28, 3) := by decide +kernel
theorem d4_46 : decode prog_86_method_6_code 46 = .ok (.aload_n 2, 1) := by decide +kernel
theorem d4_47 : decode prog_86_method_6_code 47 = .ok (.areturn, 1) := by decide +kernel
theorem d4_7 : decode prog_86_method_6_code 7 = .ok (.aload_n 1, 1) := by decide +kernel
theorem d4_8 : decode prog_86_method_6_code 8 = .ok (.getstatic 3, 3) := by decide +kernel
theorem d4_11 : decode prog_86_method_6_code 11 = .ok (.if_acmp .ne 10, 3) := by decide +kernel
theorem d4_21 : decode prog_86_method_6_code 21 = .ok (.aload_n 0, 1) := by decide +kernel
theorem d4_22 : decode prog_86_method_6_code 22 = .ok (.getstatic 7, 3) := by decide +kernel
theorem d4_25 : decode prog_86_method_6_code 25 = .ok (.if_acmp .ne 17, 3) := by decide +kernel
theorem d4_28 : decode prog_86_method_6_code 28 = .ok (.aload_n 1, 1) := by decide +kernel
theorem d4_29 : decode prog_86_method_6_code 29 = .ok (.getstatic 7, 3) := by decide +kernel
theorem d4_32 : decode prog_86_method_6_code 32 = .ok (.if_acmp .ne 10, 3) := by decide +kernel
theorem d4_35 : decode prog_86_method_6_code 35 = .ok (.getstatic 7, 3) := by decide +kernel
theorem d4_38 : decode prog_86_method_6_code 38 = .ok (.astore_n 2, 1) := by decide +kernel
theorem d4_39 : decode prog_86_method_6_code 39 = .ok (.goto 7, 3) := by decide +kernel
theorem d4_42 : decode prog_86_method_6_code 42 = .ok (.getstatic 10, 3) := by decide +kernel
theorem d4_45 : decode prog_86_method_6_code 45 = .ok (.astore_n 2, 1) := by decide +kernel
theorem pn_1 : plainName "com/example/ongoing_grant/ongoinggrant/policy/Truth" = true := by first | (simp [plainName, overriddenIn]; done) | decide +kernel
def f4 (p0 : Addr) (p1 : Addr) (wFALSE : Addr) (wTRUE : Addr) (wUNKNOWN : Addr) : Addr := if p0 = wTRUE then wTRUE else if p1 = wTRUE then wTRUE else if p0 = wFALSE then if p1 = wFALSE then wFALSE else wUNKNOWN else wUNKNOWN
theorem ef_4 (m : MethodId) (p0 : Addr) (p1 : Addr) : entryFrame m #[(.ref p0), (.ref p1)] 3 = mkF m 0 #[.val (.ref p0), .val (.ref p1), .unset] [] := by first | (simp [entryFrame, mkF, argsToLocals, Value.category]; done) | rfl
def Q4 (Z : State) (p0 : Addr) (p1 : Addr) (wFALSE : Addr) (wTRUE : Addr) (wUNKNOWN : Addr) (h0 : Heap) (n0 : Nat) (v : Option Value) (h : Heap) (L : List Loc) : Prop := v = some (.ref (f4 p0 p1 wFALSE wTRUE wUNKNOWN)) ∧ Fr n0 L ∧ h = h0
set_option maxRecDepth 65536 in
set_option maxHeartbeats 40000000 in
theorem rm4 (l : Launch) (Z : State) (a0 : Array Value) (hw : ∀ d ∈ tables_1, d.before a0 Z = true) (ws : List Jvm.Cond) (p0 : Addr) (p1 : Addr) (wFALSE : Addr) (wTRUE : Addr) (wUNKNOWN : Addr) (h0 : Heap) (n0 : Nat) (Z0 : n0 ≤ h0.size) (W0 : World Z h0 wFALSE wTRUE wUNKNOWN) :
    MetFree l (⟨"com/example/ongoing_grant/ongoinggrant/policy/Truth", "or", "(Lcom/example/ongoing_grant/ongoinggrant/policy/Truth;)Lcom/example/ongoing_grant/ongoinggrant/policy/Truth;"⟩ : MethodName) (head1 (Jvm.Cond.code (⟨"com/example/ongoing_grant/ongoinggrant/policy/Truth", "or", "(Lcom/example/ongoing_grant/ongoinggrant/policy/Truth;)Lcom/example/ongoing_grant/ongoinggrant/policy/Truth;"⟩ : MethodName) prog_86_method_6_code 3 (some (.object "com/example/ongoing_grant/ongoinggrant/policy/Truth")) :: ws) ({ frames := 0, cells := 0, slots := 0, locals := 0 } : Room)) (fun a U => a = #[(.ref p0), (.ref p1)] ∧ Z.Warmed39 U.vm ∧ U.heap = h0) (fun _ _ _ _ _ => True) (fun _ U o U' => ∃ v L, o = .returned v ∧ Q4 Z p0 p1 wFALSE wTRUE wUNKNOWN h0 n0 v U'.heap L ∧ FrameEnd U o U' L ({ frames := 0, cells := 0, slots := 0, locals := 0 } : Room).cells ({ frames := 0, cells := 0, slots := 0, locals := 0 } : Room).slots) := by
  refine MetFree.of_bodySF (plainFor_of_name pn_1) hisR ?_
  intro p e s m args below meth c s₁ Bd hml0 hP hK
  obtain ⟨rfl, hZ, hh⟩ := hP
  have hx := Bd.exec
  have hby := Bd.bytes
  have hml : c.maxLocals = 3 := hml0
  have hown : s.vm.findClass "com/example/ongoing_grant/ongoinggrant/policy/Truth" = some m.cls := findClass_of_methodNamed Bd.named
  have X0 : Stand p l e ({ frames := 0, cells := 0, slots := 0, locals := 0 } : Room) s m #[(.ref p0), (.ref p1)] below meth c s₁ [] 0 0 := Stand.of_body Bd
  have e0 : s₁.heap = h0 := by rw [← hh, Bd.state]; rfl
  have N0 := Fr.nil n0
  have W1 := W0
  obtain ⟨SFALSE, EFALSE, STRUE, ETRUE, FFALSE_ordinal, FTRUE_ordinal, SUNKNOWN, EUNKNOWN, FUNKNOWN_ordinal, -⟩ := W1
  have pre0 : ∀ t, Steps p.tables e below (s₁.setTop (mkF m 0 #[.val (.ref p0), .val (.ref p1), .unset] [])) t → Steps p.tables e below (s₁.setTop (entryFrame m #[(.ref p0), (.ref p1)] 3)) t := fun t k => castTop (ef_4 m p0 p1) k
  obtain ⟨T19, X19, e19, st19⟩ := getS2 X0 hx hZ hown (host := "") (Or.inl (hw _ (List.mem_of_getElem? (i := 13) rfl))) Via.refl e0 STRUE (g := (mkF m 1 #[.val (.ref p0), .val (.ref p1), .unset] [(.ref p0)])) rfl (hb hby d4_1)
  have k20 : ∀ t, Steps p.tables e below (T19.setTop (mkF m 4 #[.val (.ref p0), .val (.ref p1), .unset] [(.ref wTRUE), (.ref p0)])) t → Steps p.tables e below (s₁.setTop (entryFrame m #[(.ref p0), (.ref p1)] 3)) t := fun t kt => pre0 t (by
    show Steps p.tables e below (s₁.setTop (mkF m 0 #[.val (.ref p0), .val (.ref p1), .unset] [])) _
    refine XS.aloadN X0.here hx rfl (hb hby d4_0) rfl rfl ?_
    show Steps p.tables e below (s₁.setTop (mkF m 1 #[.val (.ref p0), .val (.ref p1), .unset] [(.ref p0)])) _
    refine st19 _ ?_
    exact kt)
  by_cases hc21 : p0 = wTRUE
  · obtain ⟨T22, X22, e22, st22⟩ := getS2 X19 hx hZ hown (host := "") (Or.inl (hw _ (List.mem_of_getElem? (i := 13) rfl))) Via.refl e19 STRUE (g := (mkF m 14 #[.val (.ref p0), .val (.ref p1), .unset] [])) rfl (hb hby d4_14)
    obtain ⟨fs, hr, hrun, hended, hW, hsame⟩ := X22.leave (v := some (.ref wTRUE)) (fun h => by rw [Bd.returns] at h; cases h)
    refine ⟨_, _, k20 _ ?_, hrun, hended, _, _, rfl, ?_, ⟨_, rfl⟩, hW, hsame.mono (by decide) (by decide)⟩
    · show Steps p.tables e below (T19.setTop (mkF m 4 #[.val (.ref p0), .val (.ref p1), .unset] [(.ref wTRUE), (.ref p0)])) _
      refine Jvm.RoadKit.acmp (g := (mkF m 4 #[.val (.ref p0), .val (.ref p1), .unset] [(.ref wTRUE), (.ref p0)])) X19 hx rfl rfl rfl (pc0 := 4) (pc' := 14) (same := true) rfl (hb hby d4_4) rfl (decide_eq_true (congrArg Value.ref (hc21 : p0 = wTRUE))) (by decide) (by decide) ?_
      show Steps p.tables e below (T19.setTop (mkF m 14 #[.val (.ref p0), .val (.ref p1), .unset] [])) _
      refine st22 _ ?_
      show Steps p.tables e below (T22.setTop (mkF m 17 #[.val (.ref p0), .val (.ref p1), .unset] [(.ref wTRUE)])) _
      refine XS.astoreN X22.here hx rfl (hb hby d4_17) rfl rfl (l' := #[.val (.ref p0), .val (.ref p1), .val (.ref wTRUE)]) rfl ?_
      show Steps p.tables e below (T22.setTop (mkF m 18 #[.val (.ref p0), .val (.ref p1), .val (.ref wTRUE)] [])) _
      refine XS.goto X22.here hx rfl (pc0 := 18) (pc' := 46) rfl (hb hby d4_18) (by decide) (by decide) ?_
      show Steps p.tables e below (T22.setTop (mkF m 46 #[.val (.ref p0), .val (.ref p1), .val (.ref wTRUE)] [])) _
      refine XS.aloadN X22.here hx rfl (hb hby d4_46) rfl rfl ?_
      show Steps p.tables e below (T22.setTop (mkF m 47 #[.val (.ref p0), .val (.ref p1), .val (.ref wTRUE)] [(.ref wTRUE)])) _
      exact own_retA X22 hx Bd.returns rfl rfl (hb hby d4_47) hr
    · show Q4 Z p0 p1 wFALSE wTRUE wUNKNOWN h0 n0 _ T22.heap _
      rw [e22]
      exact ⟨by rw [f4, if_pos hc21], N0, rfl⟩
  · obtain ⟨T23, X23, e23, st23⟩ := getS2 X19 hx hZ hown (host := "") (Or.inl (hw _ (List.mem_of_getElem? (i := 13) rfl))) Via.refl e19 STRUE (g := (mkF m 8 #[.val (.ref p0), .val (.ref p1), .unset] [(.ref p1)])) rfl (hb hby d4_8)
    have k24 : ∀ t, Steps p.tables e below (T23.setTop (mkF m 11 #[.val (.ref p0), .val (.ref p1), .unset] [(.ref wTRUE), (.ref p1)])) t → Steps p.tables e below (s₁.setTop (entryFrame m #[(.ref p0), (.ref p1)] 3)) t := fun t kt => k20 t (by
      show Steps p.tables e below (T19.setTop (mkF m 4 #[.val (.ref p0), .val (.ref p1), .unset] [(.ref wTRUE), (.ref p0)])) _
      refine Jvm.RoadKit.acmp (g := (mkF m 4 #[.val (.ref p0), .val (.ref p1), .unset] [(.ref wTRUE), (.ref p0)])) X19 hx rfl rfl rfl (pc0 := 4) (pc' := 7) (same := false) rfl (hb hby d4_4) rfl (decide_eq_false fun q => (hc21 : ¬ (p0 = wTRUE)) (Value.ref.inj q)) (by decide) (by decide) ?_
      show Steps p.tables e below (T19.setTop (mkF m 7 #[.val (.ref p0), .val (.ref p1), .unset] [])) _
      refine XS.aloadN X19.here hx rfl (hb hby d4_7) rfl rfl ?_
      show Steps p.tables e below (T19.setTop (mkF m 8 #[.val (.ref p0), .val (.ref p1), .unset] [(.ref p1)])) _
      refine st23 _ ?_
      exact kt)
    by_cases hc25 : p1 = wTRUE
    · obtain ⟨T26, X26, e26, st26⟩ := getS2 X23 hx hZ hown (host := "") (Or.inl (hw _ (List.mem_of_getElem? (i := 13) rfl))) Via.refl e23 STRUE (g := (mkF m 14 #[.val (.ref p0), .val (.ref p1), .unset] [])) rfl (hb hby d4_14)
      obtain ⟨fs, hr, hrun, hended, hW, hsame⟩ := X26.leave (v := some (.ref wTRUE)) (fun h => by rw [Bd.returns] at h; cases h)
      refine ⟨_, _, k24 _ ?_, hrun, hended, _, _, rfl, ?_, ⟨_, rfl⟩, hW, hsame.mono (by decide) (by decide)⟩
      · show Steps p.tables e below (T23.setTop (mkF m 11 #[.val (.ref p0), .val (.ref p1), .unset] [(.ref wTRUE), (.ref p1)])) _
        refine Jvm.RoadKit.acmp (g := (mkF m 11 #[.val (.ref p0), .val (.ref p1), .unset] [(.ref wTRUE), (.ref p1)])) X23 hx rfl rfl rfl (pc0 := 11) (pc' := 14) (same := true) rfl (hb hby d4_11) rfl (decide_eq_true (congrArg Value.ref (hc25 : p1 = wTRUE))) (by decide) (by decide) ?_
        show Steps p.tables e below (T23.setTop (mkF m 14 #[.val (.ref p0), .val (.ref p1), .unset] [])) _
        refine st26 _ ?_
        show Steps p.tables e below (T26.setTop (mkF m 17 #[.val (.ref p0), .val (.ref p1), .unset] [(.ref wTRUE)])) _
        refine XS.astoreN X26.here hx rfl (hb hby d4_17) rfl rfl (l' := #[.val (.ref p0), .val (.ref p1), .val (.ref wTRUE)]) rfl ?_
        show Steps p.tables e below (T26.setTop (mkF m 18 #[.val (.ref p0), .val (.ref p1), .val (.ref wTRUE)] [])) _
        refine XS.goto X26.here hx rfl (pc0 := 18) (pc' := 46) rfl (hb hby d4_18) (by decide) (by decide) ?_
        show Steps p.tables e below (T26.setTop (mkF m 46 #[.val (.ref p0), .val (.ref p1), .val (.ref wTRUE)] [])) _
        refine XS.aloadN X26.here hx rfl (hb hby d4_46) rfl rfl ?_
        show Steps p.tables e below (T26.setTop (mkF m 47 #[.val (.ref p0), .val (.ref p1), .val (.ref wTRUE)] [(.ref wTRUE)])) _
        exact own_retA X26 hx Bd.returns rfl rfl (hb hby d4_47) hr
      · show Q4 Z p0 p1 wFALSE wTRUE wUNKNOWN h0 n0 _ T26.heap _
        rw [e26]
        exact ⟨by rw [f4, if_neg hc21, if_pos hc25], N0, rfl⟩
    · obtain ⟨T27, X27, e27, st27⟩ := getS2 X23 hx hZ hown (host := "") (Or.inl (hw _ (List.mem_of_getElem? (i := 15) rfl))) Via.refl e23 SFALSE (g := (mkF m 22 #[.val (.ref p0), .val (.ref p1), .unset] [(.ref p0)])) rfl (hb hby d4_22)
      have k28 : ∀ t, Steps p.tables e below (T27.setTop (mkF m 25 #[.val (.ref p0), .val (.ref p1), .unset] [(.ref wFALSE), (.ref p0)])) t → Steps p.tables e below (s₁.setTop (entryFrame m #[(.ref p0), (.ref p1)] 3)) t := fun t kt => k24 t (by
        show Steps p.tables e below (T23.setTop (mkF m 11 #[.val (.ref p0), .val (.ref p1), .unset] [(.ref wTRUE), (.ref p1)])) _
        refine Jvm.RoadKit.acmp (g := (mkF m 11 #[.val (.ref p0), .val (.ref p1), .unset] [(.ref wTRUE), (.ref p1)])) X23 hx rfl rfl rfl (pc0 := 11) (pc' := 21) (same := false) rfl (hb hby d4_11) rfl (decide_eq_false fun q => (hc25 : ¬ (p1 = wTRUE)) (Value.ref.inj q)) (by decide) (by decide) ?_
        show Steps p.tables e below (T23.setTop (mkF m 21 #[.val (.ref p0), .val (.ref p1), .unset] [])) _
        refine XS.aloadN X23.here hx rfl (hb hby d4_21) rfl rfl ?_
        show Steps p.tables e below (T23.setTop (mkF m 22 #[.val (.ref p0), .val (.ref p1), .unset] [(.ref p0)])) _
        refine st27 _ ?_
        exact kt)
      by_cases hc29 : p0 = wFALSE
      · obtain ⟨T30, X30, e30, st30⟩ := getS2 X27 hx hZ hown (host := "") (Or.inl (hw _ (List.mem_of_getElem? (i := 15) rfl))) Via.refl e27 SFALSE (g := (mkF m 29 #[.val (.ref p0), .val (.ref p1), .unset] [(.ref p1)])) rfl (hb hby d4_29)
        have k31 : ∀ t, Steps p.tables e below (T30.setTop (mkF m 32 #[.val (.ref p0), .val (.ref p1), .unset] [(.ref wFALSE), (.ref p1)])) t → Steps p.tables e below (s₁.setTop (entryFrame m #[(.ref p0), (.ref p1)] 3)) t := fun t kt => k28 t (by
          show Steps p.tables e below (T27.setTop (mkF m 25 #[.val (.ref p0), .val (.ref p1), .unset] [(.ref wFALSE), (.ref p0)])) _
          refine Jvm.RoadKit.acmp (g := (mkF m 25 #[.val (.ref p0), .val (.ref p1), .unset] [(.ref wFALSE), (.ref p0)])) X27 hx rfl rfl rfl (pc0 := 25) (pc' := 28) (same := true) rfl (hb hby d4_25) rfl (decide_eq_true (congrArg Value.ref (hc29 : p0 = wFALSE))) (by decide) (by decide) ?_
          show Steps p.tables e below (T27.setTop (mkF m 28 #[.val (.ref p0), .val (.ref p1), .unset] [])) _
          refine XS.aloadN X27.here hx rfl (hb hby d4_28) rfl rfl ?_
          show Steps p.tables e below (T27.setTop (mkF m 29 #[.val (.ref p0), .val (.ref p1), .unset] [(.ref p1)])) _
          refine st30 _ ?_
          exact kt)
        by_cases hc32 : p1 = wFALSE
        · obtain ⟨T33, X33, e33, st33⟩ := getS2 X30 hx hZ hown (host := "") (Or.inl (hw _ (List.mem_of_getElem? (i := 15) rfl))) Via.refl e30 SFALSE (g := (mkF m 35 #[.val (.ref p0), .val (.ref p1), .unset] [])) rfl (hb hby d4_35)
          obtain ⟨fs, hr, hrun, hended, hW, hsame⟩ := X33.leave (v := some (.ref wFALSE)) (fun h => by rw [Bd.returns] at h; cases h)
          refine ⟨_, _, k31 _ ?_, hrun, hended, _, _, rfl, ?_, ⟨_, rfl⟩, hW, hsame.mono (by decide) (by decide)⟩
          · show Steps p.tables e below (T30.setTop (mkF m 32 #[.val (.ref p0), .val (.ref p1), .unset] [(.ref wFALSE), (.ref p1)])) _
            refine Jvm.RoadKit.acmp (g := (mkF m 32 #[.val (.ref p0), .val (.ref p1), .unset] [(.ref wFALSE), (.ref p1)])) X30 hx rfl rfl rfl (pc0 := 32) (pc' := 35) (same := true) rfl (hb hby d4_32) rfl (decide_eq_true (congrArg Value.ref (hc32 : p1 = wFALSE))) (by decide) (by decide) ?_
            show Steps p.tables e below (T30.setTop (mkF m 35 #[.val (.ref p0), .val (.ref p1), .unset] [])) _
            refine st33 _ ?_
            show Steps p.tables e below (T33.setTop (mkF m 38 #[.val (.ref p0), .val (.ref p1), .unset] [(.ref wFALSE)])) _
            refine XS.astoreN X33.here hx rfl (hb hby d4_38) rfl rfl (l' := #[.val (.ref p0), .val (.ref p1), .val (.ref wFALSE)]) rfl ?_
            show Steps p.tables e below (T33.setTop (mkF m 39 #[.val (.ref p0), .val (.ref p1), .val (.ref wFALSE)] [])) _
            refine XS.goto X33.here hx rfl (pc0 := 39) (pc' := 46) rfl (hb hby d4_39) (by decide) (by decide) ?_
            show Steps p.tables e below (T33.setTop (mkF m 46 #[.val (.ref p0), .val (.ref p1), .val (.ref wFALSE)] [])) _
            refine XS.aloadN X33.here hx rfl (hb hby d4_46) rfl rfl ?_
            show Steps p.tables e below (T33.setTop (mkF m 47 #[.val (.ref p0), .val (.ref p1), .val (.ref wFALSE)] [(.ref wFALSE)])) _
            exact own_retA X33 hx Bd.returns rfl rfl (hb hby d4_47) hr
          · show Q4 Z p0 p1 wFALSE wTRUE wUNKNOWN h0 n0 _ T33.heap _
            rw [e33]
            exact ⟨by rw [f4, if_neg hc21, if_neg hc25, if_pos hc29, if_pos hc32], N0, rfl⟩
        · obtain ⟨T34, X34, e34, st34⟩ := getS2 X30 hx hZ hown (host := "") (Or.inl (hw _ (List.mem_of_getElem? (i := 26) rfl))) Via.refl e30 SUNKNOWN (g := (mkF m 42 #[.val (.ref p0), .val (.ref p1), .unset] [])) rfl (hb hby d4_42)
          obtain ⟨fs, hr, hrun, hended, hW, hsame⟩ := X34.leave (v := some (.ref wUNKNOWN)) (fun h => by rw [Bd.returns] at h; cases h)
          refine ⟨_, _, k31 _ ?_, hrun, hended, _, _, rfl, ?_, ⟨_, rfl⟩, hW, hsame.mono (by decide) (by decide)⟩
          · show Steps p.tables e below (T30.setTop (mkF m 32 #[.val (.ref p0), .val (.ref p1), .unset] [(.ref wFALSE), (.ref p1)])) _
            refine Jvm.RoadKit.acmp (g := (mkF m 32 #[.val (.ref p0), .val (.ref p1), .unset] [(.ref wFALSE), (.ref p1)])) X30 hx rfl rfl rfl (pc0 := 32) (pc' := 42) (same := false) rfl (hb hby d4_32) rfl (decide_eq_false fun q => (hc32 : ¬ (p1 = wFALSE)) (Value.ref.inj q)) (by decide) (by decide) ?_
            show Steps p.tables e below (T30.setTop (mkF m 42 #[.val (.ref p0), .val (.ref p1), .unset] [])) _
            refine st34 _ ?_
            show Steps p.tables e below (T34.setTop (mkF m 45 #[.val (.ref p0), .val (.ref p1), .unset] [(.ref wUNKNOWN)])) _
            refine XS.astoreN X34.here hx rfl (hb hby d4_45) rfl rfl (l' := #[.val (.ref p0), .val (.ref p1), .val (.ref wUNKNOWN)]) rfl ?_
            show Steps p.tables e below (T34.setTop (mkF m 46 #[.val (.ref p0), .val (.ref p1), .val (.ref wUNKNOWN)] [])) _
            refine XS.aloadN X34.here hx rfl (hb hby d4_46) rfl rfl ?_
            show Steps p.tables e below (T34.setTop (mkF m 47 #[.val (.ref p0), .val (.ref p1), .val (.ref wUNKNOWN)] [(.ref wUNKNOWN)])) _
            exact own_retA X34 hx Bd.returns rfl rfl (hb hby d4_47) hr
          · show Q4 Z p0 p1 wFALSE wTRUE wUNKNOWN h0 n0 _ T34.heap _
            rw [e34]
            exact ⟨by rw [f4, if_neg hc21, if_neg hc25, if_pos hc29, if_neg hc32], N0, rfl⟩
      · obtain ⟨T35, X35, e35, st35⟩ := getS2 X27 hx hZ hown (host := "") (Or.inl (hw _ (List.mem_of_getElem? (i := 26) rfl))) Via.refl e27 SUNKNOWN (g := (mkF m 42 #[.val (.ref p0), .val (.ref p1), .unset] [])) rfl (hb hby d4_42)
        obtain ⟨fs, hr, hrun, hended, hW, hsame⟩ := X35.leave (v := some (.ref wUNKNOWN)) (fun h => by rw [Bd.returns] at h; cases h)
        refine ⟨_, _, k28 _ ?_, hrun, hended, _, _, rfl, ?_, ⟨_, rfl⟩, hW, hsame.mono (by decide) (by decide)⟩
        · show Steps p.tables e below (T27.setTop (mkF m 25 #[.val (.ref p0), .val (.ref p1), .unset] [(.ref wFALSE), (.ref p0)])) _
          refine Jvm.RoadKit.acmp (g := (mkF m 25 #[.val (.ref p0), .val (.ref p1), .unset] [(.ref wFALSE), (.ref p0)])) X27 hx rfl rfl rfl (pc0 := 25) (pc' := 42) (same := false) rfl (hb hby d4_25) rfl (decide_eq_false fun q => (hc29 : ¬ (p0 = wFALSE)) (Value.ref.inj q)) (by decide) (by decide) ?_
          show Steps p.tables e below (T27.setTop (mkF m 42 #[.val (.ref p0), .val (.ref p1), .unset] [])) _
          refine st35 _ ?_
          show Steps p.tables e below (T35.setTop (mkF m 45 #[.val (.ref p0), .val (.ref p1), .unset] [(.ref wUNKNOWN)])) _
          refine XS.astoreN X35.here hx rfl (hb hby d4_45) rfl rfl (l' := #[.val (.ref p0), .val (.ref p1), .val (.ref wUNKNOWN)]) rfl ?_
          show Steps p.tables e below (T35.setTop (mkF m 46 #[.val (.ref p0), .val (.ref p1), .val (.ref wUNKNOWN)] [])) _
          refine XS.aloadN X35.here hx rfl (hb hby d4_46) rfl rfl ?_
          show Steps p.tables e below (T35.setTop (mkF m 47 #[.val (.ref p0), .val (.ref p1), .val (.ref wUNKNOWN)] [(.ref wUNKNOWN)])) _
          exact own_retA X35 hx Bd.returns rfl rfl (hb hby d4_47) hr
        · show Q4 Z p0 p1 wFALSE wTRUE wUNKNOWN h0 n0 _ T35.heap _
          rw [e35]
          exact ⟨by rw [f4, if_neg hc21, if_neg hc25, if_neg hc29], N0, rfl⟩
theorem pd_0 : parseMethodDescriptor "(I)Lcom/example/ongoing_grant/ongoinggrant/policy/Truth;" = some ⟨[.int], some (.object "com/example/ongoing_grant/ongoinggrant/policy/Truth")⟩ := by decide +kernel
theorem pd_1 : parseMethodDescriptor "(Lcom/example/ongoing_grant/ongoinggrant/policy/Truth;)Lcom/example/ongoing_grant/ongoinggrant/policy/Truth;" = some ⟨[(.object "com/example/ongoing_grant/ongoinggrant/policy/Truth")], some (.object "com/example/ongoing_grant/ongoinggrant/policy/Truth")⟩ := by decide +kernel
theorem pd_2 : parseMethodDescriptor "(Lcom/example/ongoing_grant/ongoinggrant/policy/Truth;)I" = some ⟨[(.object "com/example/ongoing_grant/ongoinggrant/policy/Truth")], some .int⟩ := by decide +kernel
theorem pd_3 : parseMethodDescriptor "(II)I" = some ⟨[.int, .int], some .int⟩ := by decide +kernel
theorem ef_0 (m : MethodId) (p0 : Int32) (p1 : Int32) : entryFrame m #[(.int p0), (.int p1)] maxLocals = mkF m 0 #[.val (.int p0), .val (.int p1), .unset, .unset, .unset, .unset, .unset] [] := by first | (simp [entryFrame, mkF, argsToLocals, Value.category, maxLocals]; done) | rfl
def Q0 (Z : State) (p0 : Int32) (p1 : Int32) (wFALSE : Addr) (wTRUE : Addr) (wUNKNOWN : Addr) (h0 : Heap) (n0 : Nat) (v : Option Value) (h : Heap) (L : List Loc) : Prop := v = some (.int 1) ∧ Fr n0 L
set_option maxRecDepth 65536 in
set_option maxHeartbeats 40000000 in
theorem rm0 (l : Launch) (Z : State) (a0 : Array Value) (hw : ∀ d ∈ tables_1, d.before a0 Z = true) (ws : List Jvm.Cond) (p0 : Int32) (p1 : Int32) (wFALSE : Addr) (wTRUE : Addr) (wUNKNOWN : Addr) (h0 : Heap) (n0 : Nat) (Z0 : n0 ≤ h0.size) (W0 : World Z h0 wFALSE wTRUE wUNKNOWN) :
    MetFree l x (head1 (Jvm.Cond.code x code maxLocals ret :: ws) room_1) (fun a U => a = #[(.int p0), (.int p1)] ∧ Z.Warmed39 U.vm ∧ U.heap = h0) (fun _ _ _ _ _ => True) (fun _ U o U' => ∃ v L, o = .returned v ∧ Q0 Z p0 p1 wFALSE wTRUE wUNKNOWN h0 n0 v U'.heap L ∧ FrameEnd U o U' L room_1.cells room_1.slots) := by
  refine MetFree.of_bodySF (plainFor_of_name pn_0) hisR ?_
  intro p e s m args below meth c s₁ Bd hml0 hP hK
  obtain ⟨rfl, hZ, hh⟩ := hP
  have hx := Bd.exec
  have hby := Bd.bytes
  have hml : c.maxLocals = 7 := hml0
  have hown : s.vm.findClass "com/example/ongoing_grant/ongoinggrant/policy/TruthOrPinLaw" = some m.cls := findClass_of_methodNamed Bd.named
  have X0 : Stand p l e room_1 s m #[(.int p0), (.int p1)] below meth c s₁ [] 0 0 := Stand.of_body Bd
  have e0 : s₁.heap = h0 := by rw [← hh, Bd.state]; rfl
  have N0 := Fr.nil n0
  have W1 := W0
  obtain ⟨SFALSE, EFALSE, STRUE, ETRUE, FFALSE_ordinal, FTRUE_ordinal, SUNKNOWN, EUNKNOWN, FUNKNOWN_ordinal, -⟩ := W1
  have pre0 : ∀ t, Steps p.tables e below (s₁.setTop (mkF m 0 #[.val (.int p0), .val (.int p1), .unset, .unset, .unset, .unset, .unset] [])) t → Steps p.tables e below (s₁.setTop (entryFrame m #[(.int p0), (.int p1)] maxLocals)) t := fun t k => castTop (ef_0 m p0 p1) k
  obtain ⟨i36, hi36⟩ : ∃ z, z = ((p0 &&& (2147483647 : Int32)) % (3 : Int32)) := ⟨_, rfl⟩
  have k37 : ∀ t, Steps p.tables e below (s₁.setTop (mkF m 7 #[.val (.int p0), .val (.int p1), .val (.int i36), .unset, .unset, .unset, .unset] [])) t → Steps p.tables e below (s₁.setTop (entryFrame m #[(.int p0), (.int p1)] maxLocals)) t := fun t kt => pre0 t (by
    show Steps p.tables e below (s₁.setTop (mkF m 0 #[.val (.int p0), .val (.int p1), .unset, .unset, .unset, .unset, .unset] [])) _
    refine XS.iloadN X0.here hx rfl (hb hby at_0) rfl ?_
    show Steps p.tables e below (s₁.setTop (mkF m 1 #[.val (.int p0), .val (.int p1), .unset, .unset, .unset, .unset, .unset] [(.int p0)])) _
    refine X0.ldcInt hx hown (mvT hZ (hw _ (List.mem_of_getElem? (i := 0) rfl))) (g := (mkF m 1 #[.val (.int p0), .val (.int p1), .unset, .unset, .unset, .unset, .unset] [(.int p0)])) rfl (hb hby at_1) _ ?_
    show Steps p.tables e below (s₁.setTop (mkF m 3 #[.val (.int p0), .val (.int p1), .unset, .unset, .unset, .unset, .unset] [(.int (2147483647 : Int32)), (.int p0)])) _
    refine XS.iand X0.here hx rfl (hb hby at_3) rfl ?_
    show Steps p.tables e below (s₁.setTop (mkF m 4 #[.val (.int p0), .val (.int p1), .unset, .unset, .unset, .unset, .unset] [(.int (p0 &&& (2147483647 : Int32)))])) _
    refine XS.iconst X0.here hx rfl (hb hby at_4) ?_
    show Steps p.tables e below (s₁.setTop (mkF m 5 #[.val (.int p0), .val (.int p1), .unset, .unset, .unset, .unset, .unset] [(.int (3 : Int32)), (.int (p0 &&& (2147483647 : Int32)))])) _
    refine iremM X0 hx rfl (hb hby at_5) rfl (by decide) ?_
    rw [← hi36]
    show Steps p.tables e below (s₁.setTop (mkF m 6 #[.val (.int p0), .val (.int p1), .unset, .unset, .unset, .unset, .unset] [(.int i36)])) _
    refine XS.istoreN X0.here hx rfl (hb hby at_6) rfl (l' := #[.val (.int p0), .val (.int p1), .val (.int i36), .unset, .unset, .unset, .unset]) rfl ?_
    exact kt)
  rcases own_cases3 hi36 with hv38 | hv38 | hv38
  · subst hv38
    obtain ⟨i39, hi39⟩ : ∃ z, z = ((p1 &&& (2147483647 : Int32)) % (3 : Int32)) := ⟨_, rfl⟩
    have k40 : ∀ t, Steps p.tables e below (s₁.setTop (mkF m 14 #[.val (.int p0), .val (.int p1), .val (.int (0 : Int32)), .val (.int i39), .unset, .unset, .unset] [])) t → Steps p.tables e below (s₁.setTop (entryFrame m #[(.int p0), (.int p1)] maxLocals)) t := fun t kt => k37 t (by
      show Steps p.tables e below (s₁.setTop (mkF m 7 #[.val (.int p0), .val (.int p1), .val (.int (0 : Int32)), .unset, .unset, .unset, .unset] [])) _
      refine XS.iloadN X0.here hx rfl (hb hby at_7) rfl ?_
      show Steps p.tables e below (s₁.setTop (mkF m 8 #[.val (.int p0), .val (.int p1), .val (.int (0 : Int32)), .unset, .unset, .unset, .unset] [(.int p1)])) _
      refine X0.ldcInt hx hown (mvT hZ (hw _ (List.mem_of_getElem? (i := 0) rfl))) (g := (mkF m 8 #[.val (.int p0), .val (.int p1), .val (.int (0 : Int32)), .unset, .unset, .unset, .unset] [(.int p1)])) rfl (hb hby at_8) _ ?_
      show Steps p.tables e below (s₁.setTop (mkF m 10 #[.val (.int p0), .val (.int p1), .val (.int (0 : Int32)), .unset, .unset, .unset, .unset] [(.int (2147483647 : Int32)), (.int p1)])) _
      refine XS.iand X0.here hx rfl (hb hby at_10) rfl ?_
      show Steps p.tables e below (s₁.setTop (mkF m 11 #[.val (.int p0), .val (.int p1), .val (.int (0 : Int32)), .unset, .unset, .unset, .unset] [(.int (p1 &&& (2147483647 : Int32)))])) _
      refine XS.iconst X0.here hx rfl (hb hby at_11) ?_
      show Steps p.tables e below (s₁.setTop (mkF m 12 #[.val (.int p0), .val (.int p1), .val (.int (0 : Int32)), .unset, .unset, .unset, .unset] [(.int (3 : Int32)), (.int (p1 &&& (2147483647 : Int32)))])) _
      refine iremM X0 hx rfl (hb hby at_12) rfl (by decide) ?_
      rw [← hi39]
      show Steps p.tables e below (s₁.setTop (mkF m 13 #[.val (.int p0), .val (.int p1), .val (.int (0 : Int32)), .unset, .unset, .unset, .unset] [(.int i39)])) _
      refine XS.istoreN X0.here hx rfl (hb hby at_13) rfl (l' := #[.val (.int p0), .val (.int p1), .val (.int (0 : Int32)), .val (.int i39), .unset, .unset, .unset]) rfl ?_
      exact kt)
    rcases own_cases3 hi39 with hv41 | hv41 | hv41
    · subst hv41
      obtain ⟨_, _, ⟨T42, L42, k42, n42⟩, -, X42, ⟨Lc42, hQ42, l42, y42, z42⟩, st42⟩ := Jvm.LawKit.callS X0 hx (y := (⟨"com/example/ongoing_grant/ongoinggrant/policy/TruthOrPinLaw", "pick", "(I)Lcom/example/ongoing_grant/ongoinggrant/policy/Truth;"⟩ : MethodName)) hown (mvT hZ (hw _ (List.mem_of_getElem? (i := 1) rfl))) (mvT hZ (hw _ (List.mem_of_getElem? (i := 2) rfl))) (mvT hZ (hw _ (List.mem_of_getElem? (i := 3) rfl))) (mvT hZ (hw _ (List.mem_of_getElem? (i := 4) rfl))) (by decide) (backOf (W := 0) (rm1 l Z a0 hw [] (0 : Int32) wFALSE wTRUE wUNKNOWN h0 n0 Z0 W0 ) hZ (hw _ (List.mem_of_getElem? (i := 4) rfl)) (hw _ (List.mem_of_getElem? (i := 3) rfl)) (by decide) (by decide)) (g := (mkF m 15 #[.val (.int p0), .val (.int p1), .val (.int (0 : Int32)), .val (.int (0 : Int32)), .unset, .unset, .unset] [(.int (0 : Int32))])) rfl (by rw [hml]; rfl) (argsL := [(.int (0 : Int32))]) (rest := []) (lenOf pd_0 rfl) rfl (by show 2 * 0 + _ ≤ _; exact Nat.le_of_eq rfl) (hb hby at_15) (fun _ _ => ⟨rfl, e0, (by decide : 0 + 0 ≤ _), (by decide : 0 + 0 ≤ _)⟩)
      dsimp only [Pt.U, Pt.locs, Pt.cells, Pt.slots] at X42 l42 y42 z42 st42 hQ42
      subst l42 y42 z42
      unfold Q1 at hQ42
      have k43 : ∀ t, Steps p.tables e below (s₁.setTop (mkF m 15 #[.val (.int p0), .val (.int p1), .val (.int (0 : Int32)), .val (.int (0 : Int32)), .unset, .unset, .unset] [(.int (0 : Int32))])) t → Steps p.tables e below (s₁.setTop (entryFrame m #[(.int p0), (.int p1)] maxLocals)) t := fun t kt => k40 t (by
        show Steps p.tables e below (s₁.setTop (mkF m 14 #[.val (.int p0), .val (.int p1), .val (.int (0 : Int32)), .val (.int (0 : Int32)), .unset, .unset, .unset] [])) _
        refine XS.iloadN X0.here hx rfl (hb hby at_14) rfl ?_
        exact kt)
      rw [((by rw [f1, if_pos (rfl : (0 : Int32) = (0 : Int32))]) : (f1 (0 : Int32) wFALSE wTRUE wUNKNOWN) = wFALSE)] at hQ42
      obtain ⟨rfl, N42q, e42⟩ := hQ42
      have N42 := Fr.app N0 N42q
      obtain ⟨_, _, ⟨T44, L44, k44, n44⟩, -, X44, ⟨Lc44, hQ44, l44, y44, z44⟩, st44⟩ := Jvm.LawKit.callS X42 hx (y := (⟨"com/example/ongoing_grant/ongoinggrant/policy/TruthOrPinLaw", "pick", "(I)Lcom/example/ongoing_grant/ongoinggrant/policy/Truth;"⟩ : MethodName)) hown (mvT hZ (hw _ (List.mem_of_getElem? (i := 1) rfl))) (mvT hZ (hw _ (List.mem_of_getElem? (i := 2) rfl))) (mvT hZ (hw _ (List.mem_of_getElem? (i := 3) rfl))) (mvT hZ (hw _ (List.mem_of_getElem? (i := 4) rfl))) (by decide) (backOf (W := 0) (rm1 l Z a0 hw [] (0 : Int32) wFALSE wTRUE wUNKNOWN h0 n0 Z0 W0 ) hZ (hw _ (List.mem_of_getElem? (i := 4) rfl)) (hw _ (List.mem_of_getElem? (i := 3) rfl)) (by decide) (by decide)) (g := (mkF m 21 #[.val (.int p0), .val (.int p1), .val (.int (0 : Int32)), .val (.int (0 : Int32)), .val (.ref wFALSE), .unset, .unset] [(.int (0 : Int32))])) rfl (by rw [hml]; rfl) (argsL := [(.int (0 : Int32))]) (rest := []) (lenOf pd_0 rfl) rfl (by show 2 * 0 + _ ≤ _; exact Nat.le_of_eq rfl) (hb hby at_21) (fun _ _ => ⟨rfl, e42, (by decide : 0 + 0 ≤ _), (by decide : 0 + 0 ≤ _)⟩)
      dsimp only [Pt.U, Pt.locs, Pt.cells, Pt.slots] at X44 l44 y44 z44 st44 hQ44
      subst l44 y44 z44
      unfold Q1 at hQ44
      have k45 : ∀ t, Steps p.tables e below (T42.setTop (mkF m 21 #[.val (.int p0), .val (.int p1), .val (.int (0 : Int32)), .val (.int (0 : Int32)), .val (.ref wFALSE), .unset, .unset] [(.int (0 : Int32))])) t → Steps p.tables e below (s₁.setTop (entryFrame m #[(.int p0), (.int p1)] maxLocals)) t := fun t kt => k43 t (by
        show Steps p.tables e below (s₁.setTop (mkF m 15 #[.val (.int p0), .val (.int p1), .val (.int (0 : Int32)), .val (.int (0 : Int32)), .unset, .unset, .unset] [(.int (0 : Int32))])) _
        refine st42 _ ?_
        show Steps p.tables e below (T42.setTop (mkF m 18 #[.val (.int p0), .val (.int p1), .val (.int (0 : Int32)), .val (.int (0 : Int32)), .unset, .unset, .unset] [(.ref wFALSE)])) _
        refine XS.astore X42.here hx rfl (hb hby at_18) rfl rfl (l' := #[.val (.int p0), .val (.int p1), .val (.int (0 : Int32)), .val (.int (0 : Int32)), .val (.ref wFALSE), .unset, .unset]) rfl ?_
        show Steps p.tables e below (T42.setTop (mkF m 20 #[.val (.int p0), .val (.int p1), .val (.int (0 : Int32)), .val (.int (0 : Int32)), .val (.ref wFALSE), .unset, .unset] [])) _
        refine XS.iloadN X42.here hx rfl (hb hby at_20) rfl ?_
        exact kt)
      rw [((by rw [f1, if_pos (rfl : (0 : Int32) = (0 : Int32))]) : (f1 (0 : Int32) wFALSE wTRUE wUNKNOWN) = wFALSE)] at hQ44
      obtain ⟨rfl, N44q, e44⟩ := hQ44
      have N44 := Fr.app N42 N44q
      obtain ⟨cq46, kq46, q46a, q46b, q46c⟩ := isOf hZ e44 EFALSE
      obtain ⟨_, _, ⟨T46, L46, k46, n46⟩, -, X46, ⟨Lc46, hQ46, l46, y46, z46⟩, st46⟩ := X44.virtualBack hx (y := (⟨"com/example/ongoing_grant/ongoinggrant/policy/Truth", "or", "(Lcom/example/ongoing_grant/ongoinggrant/policy/Truth;)Lcom/example/ongoing_grant/ongoinggrant/policy/Truth;"⟩ : MethodName)) (z := (⟨"com/example/ongoing_grant/ongoinggrant/policy/Truth", "or", "(Lcom/example/ongoing_grant/ongoinggrant/policy/Truth;)Lcom/example/ongoing_grant/ongoinggrant/policy/Truth;"⟩ : MethodName)) hown (mvT hZ (hw _ (List.mem_of_getElem? (i := 8) rfl))) (mvT hZ (hw _ (List.mem_of_getElem? (i := 9) rfl))) (notFace_of_selects (args := #[]) (mvT hZ (hw _ (List.mem_of_getElem? (i := 11) rfl)))) (mvT hZ (hw _ (List.mem_of_getElem? (i := 11) rfl))) (mvT hZ (hw _ (List.mem_of_getElem? (i := 10) rfl))) (by decide) (backOf (W := 0) (rm4 l Z a0 hw [] wFALSE wFALSE wFALSE wTRUE wUNKNOWN h0 n0 Z0 W0 ) hZ (hw _ (List.mem_of_getElem? (i := 12) rfl)) (hw _ (List.mem_of_getElem? (i := 6) rfl)) (by decide) (by decide)) q46a q46c (g := (mkF m 30 #[.val (.int p0), .val (.int p1), .val (.int (0 : Int32)), .val (.int (0 : Int32)), .val (.ref wFALSE), .val (.ref wFALSE), .unset] [(.ref wFALSE), (.ref wFALSE)])) rfl (by rw [hml]; rfl) (Steps.refl _) (argsL := [(.ref wFALSE)]) (rest := []) (lenOf pd_1 rfl) rfl (by show 2 * 0 + _ ≤ _; exact Nat.le_of_eq rfl) (hb hby at_30) (fun _ _ => ⟨rfl, e44, (by decide : 0 + 0 ≤ _), (by decide : 0 + 0 ≤ _)⟩)
      dsimp only [Pt.U, Pt.locs, Pt.cells, Pt.slots] at X46 l46 y46 z46 st46 hQ46
      subst l46 y46 z46
      unfold Q4 at hQ46
      have k47 : ∀ t, Steps p.tables e below (T44.setTop (mkF m 30 #[.val (.int p0), .val (.int p1), .val (.int (0 : Int32)), .val (.int (0 : Int32)), .val (.ref wFALSE), .val (.ref wFALSE), .unset] [(.ref wFALSE), (.ref wFALSE)])) t → Steps p.tables e below (s₁.setTop (entryFrame m #[(.int p0), (.int p1)] maxLocals)) t := fun t kt => k45 t (by
        show Steps p.tables e below (T42.setTop (mkF m 21 #[.val (.int p0), .val (.int p1), .val (.int (0 : Int32)), .val (.int (0 : Int32)), .val (.ref wFALSE), .unset, .unset] [(.int (0 : Int32))])) _
        refine st44 _ ?_
        show Steps p.tables e below (T44.setTop (mkF m 24 #[.val (.int p0), .val (.int p1), .val (.int (0 : Int32)), .val (.int (0 : Int32)), .val (.ref wFALSE), .unset, .unset] [(.ref wFALSE)])) _
        refine XS.astore X44.here hx rfl (hb hby at_24) rfl rfl (l' := #[.val (.int p0), .val (.int p1), .val (.int (0 : Int32)), .val (.int (0 : Int32)), .val (.ref wFALSE), .val (.ref wFALSE), .unset]) rfl ?_
        show Steps p.tables e below (T44.setTop (mkF m 26 #[.val (.int p0), .val (.int p1), .val (.int (0 : Int32)), .val (.int (0 : Int32)), .val (.ref wFALSE), .val (.ref wFALSE), .unset] [])) _
        refine XS.aload X44.here hx rfl (hb hby at_26) rfl rfl ?_
        show Steps p.tables e below (T44.setTop (mkF m 28 #[.val (.int p0), .val (.int p1), .val (.int (0 : Int32)), .val (.int (0 : Int32)), .val (.ref wFALSE), .val (.ref wFALSE), .unset] [(.ref wFALSE)])) _
        refine XS.aload X44.here hx rfl (hb hby at_28) rfl rfl ?_
        exact kt)
      rw [((by rw [f4, if_neg ((Fld.ne FFALSE_ordinal FTRUE_ordinal (by decide)) : ¬ (wFALSE = wTRUE)), if_neg ((Fld.ne FFALSE_ordinal FTRUE_ordinal (by decide)) : ¬ (wFALSE = wTRUE)), if_pos (rfl : wFALSE = wFALSE), if_pos (rfl : wFALSE = wFALSE)]) : (f4 wFALSE wFALSE wFALSE wTRUE wUNKNOWN) = wFALSE)] at hQ46
      obtain ⟨rfl, N46q, e46⟩ := hQ46
      have N46 := Fr.app N44 N46q
      obtain ⟨_, _, ⟨T48, L48, k48, n48⟩, -, X48, ⟨Lc48, hQ48, l48, y48, z48⟩, st48⟩ := Jvm.LawKit.callS X46 hx (y := (⟨"com/example/ongoing_grant/ongoinggrant/policy/TruthOrPinLaw", "rank", "(Lcom/example/ongoing_grant/ongoinggrant/policy/Truth;)I"⟩ : MethodName)) hown (mvT hZ (hw _ (List.mem_of_getElem? (i := 16) rfl))) (mvT hZ (hw _ (List.mem_of_getElem? (i := 17) rfl))) (mvT hZ (hw _ (List.mem_of_getElem? (i := 3) rfl))) (mvT hZ (hw _ (List.mem_of_getElem? (i := 18) rfl))) (by decide) (backOf (W := 0) (rm2 l Z a0 hw [] wFALSE wFALSE wTRUE wUNKNOWN h0 n0 Z0 W0 ) hZ (hw _ (List.mem_of_getElem? (i := 18) rfl)) (hw _ (List.mem_of_getElem? (i := 3) rfl)) (by decide) (by decide)) (g := (mkF m 44 #[.val (.int p0), .val (.int p1), .val (.int (0 : Int32)), .val (.int (0 : Int32)), .val (.ref wFALSE), .val (.ref wFALSE), .val (.ref wFALSE)] [(.ref wFALSE)])) rfl (by rw [hml]; rfl) (argsL := [(.ref wFALSE)]) (rest := []) (lenOf pd_2 rfl) rfl (by show 2 * 0 + _ ≤ _; exact Nat.le_of_eq rfl) (hb hby at_44) (fun _ _ => ⟨rfl, e46, (by decide : 0 + 0 ≤ _), (by decide : 0 + 0 ≤ _)⟩)
      dsimp only [Pt.U, Pt.locs, Pt.cells, Pt.slots] at X48 l48 y48 z48 st48 hQ48
      subst l48 y48 z48
      unfold Q2 at hQ48
      have k49 : ∀ t, Steps p.tables e below (T46.setTop (mkF m 44 #[.val (.int p0), .val (.int p1), .val (.int (0 : Int32)), .val (.int (0 : Int32)), .val (.ref wFALSE), .val (.ref wFALSE), .val (.ref wFALSE)] [(.ref wFALSE)])) t → Steps p.tables e below (s₁.setTop (entryFrame m #[(.int p0), (.int p1)] maxLocals)) t := fun t kt => k47 t (by
        show Steps p.tables e below (T44.setTop (mkF m 30 #[.val (.int p0), .val (.int p1), .val (.int (0 : Int32)), .val (.int (0 : Int32)), .val (.ref wFALSE), .val (.ref wFALSE), .unset] [(.ref wFALSE), (.ref wFALSE)])) _
        refine st46.trans ?_
        show Steps p.tables e below (T46.setTop (mkF m 33 #[.val (.int p0), .val (.int p1), .val (.int (0 : Int32)), .val (.int (0 : Int32)), .val (.ref wFALSE), .val (.ref wFALSE), .unset] [(.ref wFALSE)])) _
        refine XS.astore X46.here hx rfl (hb hby at_33) rfl rfl (l' := #[.val (.int p0), .val (.int p1), .val (.int (0 : Int32)), .val (.int (0 : Int32)), .val (.ref wFALSE), .val (.ref wFALSE), .val (.ref wFALSE)]) rfl ?_
        show Steps p.tables e below (T46.setTop (mkF m 35 #[.val (.int p0), .val (.int p1), .val (.int (0 : Int32)), .val (.int (0 : Int32)), .val (.ref wFALSE), .val (.ref wFALSE), .val (.ref wFALSE)] [])) _
        refine XS.aload X46.here hx rfl (hb hby at_35) rfl rfl ?_
        show Steps p.tables e below (T46.setTop (mkF m 37 #[.val (.int p0), .val (.int p1), .val (.int (0 : Int32)), .val (.int (0 : Int32)), .val (.ref wFALSE), .val (.ref wFALSE), .val (.ref wFALSE)] [(.ref wFALSE)])) _
        refine XS.ifnonnullYes X46.here hx rfl (pc0 := 37) (pc' := 42) rfl (hb hby at_37) rfl (by decide) (by decide) ?_
        show Steps p.tables e below (T46.setTop (mkF m 42 #[.val (.int p0), .val (.int p1), .val (.int (0 : Int32)), .val (.int (0 : Int32)), .val (.ref wFALSE), .val (.ref wFALSE), .val (.ref wFALSE)] [])) _
        refine XS.aload X46.here hx rfl (hb hby at_42) rfl rfl ?_
        exact kt)
      rw [((by rw [f2, if_pos (rfl : wFALSE = wFALSE)]) : (f2 wFALSE wFALSE wTRUE wUNKNOWN) = (0 : Int32))] at hQ48
      obtain ⟨rfl, N48q, e48⟩ := hQ48
      have N48 := Fr.app N46 N48q
      obtain ⟨_, _, ⟨T50, L50, k50, n50⟩, -, X50, ⟨Lc50, hQ50, l50, y50, z50⟩, st50⟩ := Jvm.LawKit.callS X48 hx (y := (⟨"java/lang/Math", "max", "(II)I"⟩ : MethodName)) hown (mvT hZ (hw _ (List.mem_of_getElem? (i := 19) rfl))) (mvT hZ (hw _ (List.mem_of_getElem? (i := 20) rfl))) (mvT hZ (hw _ (List.mem_of_getElem? (i := 21) rfl))) (mvT hZ (hw _ (List.mem_of_getElem? (i := 22) rfl))) (by decide) (backOf (W := 1) (rm3 l Z a0 hw [] (0 : Int32) (0 : Int32) h0 n0 Z0 ) hZ (hw _ (List.mem_of_getElem? (i := 22) rfl)) (hw _ (List.mem_of_getElem? (i := 21) rfl)) (by decide) (by decide)) (g := (mkF m 49 #[.val (.int p0), .val (.int p1), .val (.int (0 : Int32)), .val (.int (0 : Int32)), .val (.ref wFALSE), .val (.ref wFALSE), .val (.ref wFALSE)] [(.int (0 : Int32)), (.int (0 : Int32)), (.int (0 : Int32))])) rfl (by rw [hml]; rfl) (argsL := [(.int (0 : Int32)), (.int (0 : Int32))]) (rest := [(.int (0 : Int32))]) (lenOf pd_3 rfl) rfl (by show 2 * 0 + _ ≤ _; exact Nat.le_of_eq rfl) (hb hby at_49) (fun _ _ => ⟨rfl, e48, (by decide : 0 + 0 ≤ _), (by decide : 0 + 0 ≤ _)⟩)
      dsimp only [Pt.U, Pt.locs, Pt.cells, Pt.slots] at X50 l50 y50 z50 st50 hQ50
      subst l50 y50 z50
      unfold Q3 at hQ50
      have k51 : ∀ t, Steps p.tables e below (T48.setTop (mkF m 49 #[.val (.int p0), .val (.int p1), .val (.int (0 : Int32)), .val (.int (0 : Int32)), .val (.ref wFALSE), .val (.ref wFALSE), .val (.ref wFALSE)] [(.int (0 : Int32)), (.int (0 : Int32)), (.int (0 : Int32))])) t → Steps p.tables e below (s₁.setTop (entryFrame m #[(.int p0), (.int p1)] maxLocals)) t := fun t kt => k49 t (by
        show Steps p.tables e below (T46.setTop (mkF m 44 #[.val (.int p0), .val (.int p1), .val (.int (0 : Int32)), .val (.int (0 : Int32)), .val (.ref wFALSE), .val (.ref wFALSE), .val (.ref wFALSE)] [(.ref wFALSE)])) _
        refine st48 _ ?_
        show Steps p.tables e below (T48.setTop (mkF m 47 #[.val (.int p0), .val (.int p1), .val (.int (0 : Int32)), .val (.int (0 : Int32)), .val (.ref wFALSE), .val (.ref wFALSE), .val (.ref wFALSE)] [(.int (0 : Int32))])) _
        refine XS.iloadN X48.here hx rfl (hb hby at_47) rfl ?_
        show Steps p.tables e below (T48.setTop (mkF m 48 #[.val (.int p0), .val (.int p1), .val (.int (0 : Int32)), .val (.int (0 : Int32)), .val (.ref wFALSE), .val (.ref wFALSE), .val (.ref wFALSE)] [(.int (0 : Int32)), (.int (0 : Int32))])) _
        refine XS.iloadN X48.here hx rfl (hb hby at_48) rfl ?_
        exact kt)
      rw [((by rw [f3, if_neg ((by first | exact Int32.lt_irrefl _ | decide) : ¬ ((0 : Int32) < (0 : Int32)))]) : (f3 (0 : Int32) (0 : Int32)) = (0 : Int32))] at hQ50
      obtain ⟨rfl, N50q, e50⟩ := hQ50
      have N50 := Fr.app N48 N50q
      obtain ⟨fs, hr, hrun, hended, hW, hsame⟩ := X50.leave (v := some (.int (1 : Int32))) (fun h => by rw [Bd.returns] at h; cases h)
      refine ⟨_, _, k51 _ ?_, hrun, hended, _, _, rfl, ?_, ⟨_, rfl⟩, hW, hsame.mono (by decide) (by decide)⟩
      · show Steps p.tables e below (T48.setTop (mkF m 49 #[.val (.int p0), .val (.int p1), .val (.int (0 : Int32)), .val (.int (0 : Int32)), .val (.ref wFALSE), .val (.ref wFALSE), .val (.ref wFALSE)] [(.int (0 : Int32)), (.int (0 : Int32)), (.int (0 : Int32))])) _
        refine st50 _ ?_
        show Steps p.tables e below (T50.setTop (mkF m 52 #[.val (.int p0), .val (.int p1), .val (.int (0 : Int32)), .val (.int (0 : Int32)), .val (.ref wFALSE), .val (.ref wFALSE), .val (.ref wFALSE)] [(.int (0 : Int32)), (.int (0 : Int32))])) _
        refine XS.icmpNo X50.here hx rfl (hb hby at_52) rfl (teq (rfl : (0 : Int32) = (0 : Int32))).2 ?_
        show Steps p.tables e below (T50.setTop (mkF m 55 #[.val (.int p0), .val (.int p1), .val (.int (0 : Int32)), .val (.int (0 : Int32)), .val (.ref wFALSE), .val (.ref wFALSE), .val (.ref wFALSE)] [])) _
        refine XS.iconst X50.here hx rfl (hb hby at_55) ?_
        show Steps p.tables e below (T50.setTop (mkF m 56 #[.val (.int p0), .val (.int p1), .val (.int (0 : Int32)), .val (.int (0 : Int32)), .val (.ref wFALSE), .val (.ref wFALSE), .val (.ref wFALSE)] [(.int (1 : Int32))])) _
        refine XS.goto X50.here hx rfl (pc0 := 56) (pc' := 60) rfl (hb hby at_56) (by decide) (by decide) ?_
        show Steps p.tables e below (T50.setTop (mkF m 60 #[.val (.int p0), .val (.int p1), .val (.int (0 : Int32)), .val (.int (0 : Int32)), .val (.ref wFALSE), .val (.ref wFALSE), .val (.ref wFALSE)] [(.int (1 : Int32))])) _
        exact retN X50 hx (t := .boolean) Bd.returns (by simp) (hb hby at_60) hr
      · show Q0 Z p0 p1 wFALSE wTRUE wUNKNOWN h0 n0 _ T50.heap _
        rw [e50]
        exact ⟨rfl, N50⟩
    · subst hv41
      obtain ⟨_, _, ⟨T52, L52, k52, n52⟩, -, X52, ⟨Lc52, hQ52, l52, y52, z52⟩, st52⟩ := Jvm.LawKit.callS X0 hx (y := (⟨"com/example/ongoing_grant/ongoinggrant/policy/TruthOrPinLaw", "pick", "(I)Lcom/example/ongoing_grant/ongoinggrant/policy/Truth;"⟩ : MethodName)) hown (mvT hZ (hw _ (List.mem_of_getElem? (i := 1) rfl))) (mvT hZ (hw _ (List.mem_of_getElem? (i := 2) rfl))) (mvT hZ (hw _ (List.mem_of_getElem? (i := 3) rfl))) (mvT hZ (hw _ (List.mem_of_getElem? (i := 4) rfl))) (by decide) (backOf (W := 0) (rm1 l Z a0 hw [] (0 : Int32) wFALSE wTRUE wUNKNOWN h0 n0 Z0 W0 ) hZ (hw _ (List.mem_of_getElem? (i := 4) rfl)) (hw _ (List.mem_of_getElem? (i := 3) rfl)) (by decide) (by decide)) (g := (mkF m 15 #[.val (.int p0), .val (.int p1), .val (.int (0 : Int32)), .val (.int (1 : Int32)), .unset, .unset, .unset] [(.int (0 : Int32))])) rfl (by rw [hml]; rfl) (argsL := [(.int (0 : Int32))]) (rest := []) (lenOf pd_0 rfl) rfl (by show 2 * 0 + _ ≤ _; exact Nat.le_of_eq rfl) (hb hby at_15) (fun _ _ => ⟨rfl, e0, (by decide : 0 + 0 ≤ _), (by decide : 0 + 0 ≤ _)⟩)
      dsimp only [Pt.U, Pt.locs, Pt.cells, Pt.slots] at X52 l52 y52 z52 st52 hQ52
      subst l52 y52 z52
      unfold Q1 at hQ52
      have k53 : ∀ t, Steps p.tables e below (s₁.setTop (mkF m 15 #[.val (.int p0), .val (.int p1), .val (.int (0 : Int32)), .val (.int (1 : Int32)), .unset, .unset, .unset] [(.int (0 : Int32))])) t → Steps p.tables e below (s₁.setTop (entryFrame m #[(.int p0), (.int p1)] maxLocals)) t := fun t kt => k40 t (by
        show Steps p.tables e below (s₁.setTop (mkF m 14 #[.val (.int p0), .val (.int p1), .val (.int (0 : Int32)), .val (.int (1 : Int32)), .unset, .unset, .unset] [])) _
        refine XS.iloadN X0.here hx rfl (hb hby at_14) rfl ?_
        exact kt)
      rw [((by rw [f1, if_pos (rfl : (0 : Int32) = (0 : Int32))]) : (f1 (0 : Int32) wFALSE wTRUE wUNKNOWN) = wFALSE)] at hQ52
      obtain ⟨rfl, N52q, e52⟩ := hQ52
      have N52 := Fr.app N0 N52q
      obtain ⟨_, _, ⟨T54, L54, k54, n54⟩, -, X54, ⟨Lc54, hQ54, l54, y54, z54⟩, st54⟩ := Jvm.LawKit.callS X52 hx (y := (⟨"com/example/ongoing_grant/ongoinggrant/policy/TruthOrPinLaw", "pick", "(I)Lcom/example/ongoing_grant/ongoinggrant/policy/Truth;"⟩ : MethodName)) hown (mvT hZ (hw _ (List.mem_of_getElem? (i := 1) rfl))) (mvT hZ (hw _ (List.mem_of_getElem? (i := 2) rfl))) (mvT hZ (hw _ (List.mem_of_getElem? (i := 3) rfl))) (mvT hZ (hw _ (List.mem_of_getElem? (i := 4) rfl))) (by decide) (backOf (W := 0) (rm1 l Z a0 hw [] (1 : Int32) wFALSE wTRUE wUNKNOWN h0 n0 Z0 W0 ) hZ (hw _ (List.mem_of_getElem? (i := 4) rfl)) (hw _ (List.mem_of_getElem? (i := 3) rfl)) (by decide) (by decide)) (g := (mkF m 21 #[.val (.int p0), .val (.int p1), .val (.int (0 : Int32)), .val (.int (1 : Int32)), .val (.ref wFALSE), .unset, .unset] [(.int (1 : Int32))])) rfl (by rw [hml]; rfl) (argsL := [(.int (1 : Int32))]) (rest := []) (lenOf pd_0 rfl) rfl (by show 2 * 0 + _ ≤ _; exact Nat.le_of_eq rfl) (hb hby at_21) (fun _ _ => ⟨rfl, e52, (by decide : 0 + 0 ≤ _), (by decide : 0 + 0 ≤ _)⟩)
      dsimp only [Pt.U, Pt.locs, Pt.cells, Pt.slots] at X54 l54 y54 z54 st54 hQ54
      subst l54 y54 z54
      unfold Q1 at hQ54
      have k55 : ∀ t, Steps p.tables e below (T52.setTop (mkF m 21 #[.val (.int p0), .val (.int p1), .val (.int (0 : Int32)), .val (.int (1 : Int32)), .val (.ref wFALSE), .unset, .unset] [(.int (1 : Int32))])) t → Steps p.tables e below (s₁.setTop (entryFrame m #[(.int p0), (.int p1)] maxLocals)) t := fun t kt => k53 t (by
        show Steps p.tables e below (s₁.setTop (mkF m 15 #[.val (.int p0), .val (.int p1), .val (.int (0 : Int32)), .val (.int (1 : Int32)), .unset, .unset, .unset] [(.int (0 : Int32))])) _
        refine st52 _ ?_
        show Steps p.tables e below (T52.setTop (mkF m 18 #[.val (.int p0), .val (.int p1), .val (.int (0 : Int32)), .val (.int (1 : Int32)), .unset, .unset, .unset] [(.ref wFALSE)])) _
        refine XS.astore X52.here hx rfl (hb hby at_18) rfl rfl (l' := #[.val (.int p0), .val (.int p1), .val (.int (0 : Int32)), .val (.int (1 : Int32)), .val (.ref wFALSE), .unset, .unset]) rfl ?_
        show Steps p.tables e below (T52.setTop (mkF m 20 #[.val (.int p0), .val (.int p1), .val (.int (0 : Int32)), .val (.int (1 : Int32)), .val (.ref wFALSE), .unset, .unset] [])) _
        refine XS.iloadN X52.here hx rfl (hb hby at_20) rfl ?_
        exact kt)
      rw [((by rw [f1, if_neg ((by decide) : ¬ ((1 : Int32) = (0 : Int32))), if_pos (rfl : (1 : Int32) = (1 : Int32))]) : (f1 (1 : Int32) wFALSE wTRUE wUNKNOWN) = wUNKNOWN)] at hQ54
      obtain ⟨rfl, N54q, e54⟩ := hQ54
      have N54 := Fr.app N52 N54q
      obtain ⟨cq56, kq56, q56a, q56b, q56c⟩ := isOf hZ e54 EFALSE
      obtain ⟨_, _, ⟨T56, L56, k56, n56⟩, -, X56, ⟨Lc56, hQ56, l56, y56, z56⟩, st56⟩ := X54.virtualBack hx (y := (⟨"com/example/ongoing_grant/ongoinggrant/policy/Truth", "or", "(Lcom/example/ongoing_grant/ongoinggrant/policy/Truth;)Lcom/example/ongoing_grant/ongoinggrant/policy/Truth;"⟩ : MethodName)) (z := (⟨"com/example/ongoing_grant/ongoinggrant/policy/Truth", "or", "(Lcom/example/ongoing_grant/ongoinggrant/policy/Truth;)Lcom/example/ongoing_grant/ongoinggrant/policy/Truth;"⟩ : MethodName)) hown (mvT hZ (hw _ (List.mem_of_getElem? (i := 8) rfl))) (mvT hZ (hw _ (List.mem_of_getElem? (i := 9) rfl))) (notFace_of_selects (args := #[]) (mvT hZ (hw _ (List.mem_of_getElem? (i := 11) rfl)))) (mvT hZ (hw _ (List.mem_of_getElem? (i := 11) rfl))) (mvT hZ (hw _ (List.mem_of_getElem? (i := 10) rfl))) (by decide) (backOf (W := 0) (rm4 l Z a0 hw [] wFALSE wUNKNOWN wFALSE wTRUE wUNKNOWN h0 n0 Z0 W0 ) hZ (hw _ (List.mem_of_getElem? (i := 12) rfl)) (hw _ (List.mem_of_getElem? (i := 6) rfl)) (by decide) (by decide)) q56a q56c (g := (mkF m 30 #[.val (.int p0), .val (.int p1), .val (.int (0 : Int32)), .val (.int (1 : Int32)), .val (.ref wFALSE), .val (.ref wUNKNOWN), .unset] [(.ref wUNKNOWN), (.ref wFALSE)])) rfl (by rw [hml]; rfl) (Steps.refl _) (argsL := [(.ref wUNKNOWN)]) (rest := []) (lenOf pd_1 rfl) rfl (by show 2 * 0 + _ ≤ _; exact Nat.le_of_eq rfl) (hb hby at_30) (fun _ _ => ⟨rfl, e54, (by decide : 0 + 0 ≤ _), (by decide : 0 + 0 ≤ _)⟩)
      dsimp only [Pt.U, Pt.locs, Pt.cells, Pt.slots] at X56 l56 y56 z56 st56 hQ56
      subst l56 y56 z56
      unfold Q4 at hQ56
      have k57 : ∀ t, Steps p.tables e below (T54.setTop (mkF m 30 #[.val (.int p0), .val (.int p1), .val (.int (0 : Int32)), .val (.int (1 : Int32)), .val (.ref wFALSE), .val (.ref wUNKNOWN), .unset] [(.ref wUNKNOWN), (.ref wFALSE)])) t → Steps p.tables e below (s₁.setTop (entryFrame m #[(.int p0), (.int p1)] maxLocals)) t := fun t kt => k55 t (by
        show Steps p.tables e below (T52.setTop (mkF m 21 #[.val (.int p0), .val (.int p1), .val (.int (0 : Int32)), .val (.int (1 : Int32)), .val (.ref wFALSE), .unset, .unset] [(.int (1 : Int32))])) _
        refine st54 _ ?_
        show Steps p.tables e below (T54.setTop (mkF m 24 #[.val (.int p0), .val (.int p1), .val (.int (0 : Int32)), .val (.int (1 : Int32)), .val (.ref wFALSE), .unset, .unset] [(.ref wUNKNOWN)])) _
        refine XS.astore X54.here hx rfl (hb hby at_24) rfl rfl (l' := #[.val (.int p0), .val (.int p1), .val (.int (0 : Int32)), .val (.int (1 : Int32)), .val (.ref wFALSE), .val (.ref wUNKNOWN), .unset]) rfl ?_
        show Steps p.tables e below (T54.setTop (mkF m 26 #[.val (.int p0), .val (.int p1), .val (.int (0 : Int32)), .val (.int (1 : Int32)), .val (.ref wFALSE), .val (.ref wUNKNOWN), .unset] [])) _
        refine XS.aload X54.here hx rfl (hb hby at_26) rfl rfl ?_
        show Steps p.tables e below (T54.setTop (mkF m 28 #[.val (.int p0), .val (.int p1), .val (.int (0 : Int32)), .val (.int (1 : Int32)), .val (.ref wFALSE), .val (.ref wUNKNOWN), .unset] [(.ref wFALSE)])) _
        refine XS.aload X54.here hx rfl (hb hby at_28) rfl rfl ?_
        exact kt)
      rw [((by rw [f4, if_neg ((Fld.ne FFALSE_ordinal FTRUE_ordinal (by decide)) : ¬ (wFALSE = wTRUE)), if_neg ((Fld.ne FUNKNOWN_ordinal FTRUE_ordinal (by decide)) : ¬ (wUNKNOWN = wTRUE)), if_pos (rfl : wFALSE = wFALSE), if_neg ((Fld.ne FUNKNOWN_ordinal FFALSE_ordinal (by decide)) : ¬ (wUNKNOWN = wFALSE))]) : (f4 wFALSE wUNKNOWN wFALSE wTRUE wUNKNOWN) = wUNKNOWN)] at hQ56
      obtain ⟨rfl, N56q, e56⟩ := hQ56
      have N56 := Fr.app N54 N56q
      obtain ⟨_, _, ⟨T58, L58, k58, n58⟩, -, X58, ⟨Lc58, hQ58, l58, y58, z58⟩, st58⟩ := Jvm.LawKit.callS X56 hx (y := (⟨"com/example/ongoing_grant/ongoinggrant/policy/TruthOrPinLaw", "rank", "(Lcom/example/ongoing_grant/ongoinggrant/policy/Truth;)I"⟩ : MethodName)) hown (mvT hZ (hw _ (List.mem_of_getElem? (i := 16) rfl))) (mvT hZ (hw _ (List.mem_of_getElem? (i := 17) rfl))) (mvT hZ (hw _ (List.mem_of_getElem? (i := 3) rfl))) (mvT hZ (hw _ (List.mem_of_getElem? (i := 18) rfl))) (by decide) (backOf (W := 0) (rm2 l Z a0 hw [] wUNKNOWN wFALSE wTRUE wUNKNOWN h0 n0 Z0 W0 ) hZ (hw _ (List.mem_of_getElem? (i := 18) rfl)) (hw _ (List.mem_of_getElem? (i := 3) rfl)) (by decide) (by decide)) (g := (mkF m 44 #[.val (.int p0), .val (.int p1), .val (.int (0 : Int32)), .val (.int (1 : Int32)), .val (.ref wFALSE), .val (.ref wUNKNOWN), .val (.ref wUNKNOWN)] [(.ref wUNKNOWN)])) rfl (by rw [hml]; rfl) (argsL := [(.ref wUNKNOWN)]) (rest := []) (lenOf pd_2 rfl) rfl (by show 2 * 0 + _ ≤ _; exact Nat.le_of_eq rfl) (hb hby at_44) (fun _ _ => ⟨rfl, e56, (by decide : 0 + 0 ≤ _), (by decide : 0 + 0 ≤ _)⟩)
      dsimp only [Pt.U, Pt.locs, Pt.cells, Pt.slots] at X58 l58 y58 z58 st58 hQ58
      subst l58 y58 z58
      unfold Q2 at hQ58
      have k59 : ∀ t, Steps p.tables e below (T56.setTop (mkF m 44 #[.val (.int p0), .val (.int p1), .val (.int (0 : Int32)), .val (.int (1 : Int32)), .val (.ref wFALSE), .val (.ref wUNKNOWN), .val (.ref wUNKNOWN)] [(.ref wUNKNOWN)])) t → Steps p.tables e below (s₁.setTop (entryFrame m #[(.int p0), (.int p1)] maxLocals)) t := fun t kt => k57 t (by
        show Steps p.tables e below (T54.setTop (mkF m 30 #[.val (.int p0), .val (.int p1), .val (.int (0 : Int32)), .val (.int (1 : Int32)), .val (.ref wFALSE), .val (.ref wUNKNOWN), .unset] [(.ref wUNKNOWN), (.ref wFALSE)])) _
        refine st56.trans ?_
        show Steps p.tables e below (T56.setTop (mkF m 33 #[.val (.int p0), .val (.int p1), .val (.int (0 : Int32)), .val (.int (1 : Int32)), .val (.ref wFALSE), .val (.ref wUNKNOWN), .unset] [(.ref wUNKNOWN)])) _
        refine XS.astore X56.here hx rfl (hb hby at_33) rfl rfl (l' := #[.val (.int p0), .val (.int p1), .val (.int (0 : Int32)), .val (.int (1 : Int32)), .val (.ref wFALSE), .val (.ref wUNKNOWN), .val (.ref wUNKNOWN)]) rfl ?_
        show Steps p.tables e below (T56.setTop (mkF m 35 #[.val (.int p0), .val (.int p1), .val (.int (0 : Int32)), .val (.int (1 : Int32)), .val (.ref wFALSE), .val (.ref wUNKNOWN), .val (.ref wUNKNOWN)] [])) _
        refine XS.aload X56.here hx rfl (hb hby at_35) rfl rfl ?_
        show Steps p.tables e below (T56.setTop (mkF m 37 #[.val (.int p0), .val (.int p1), .val (.int (0 : Int32)), .val (.int (1 : Int32)), .val (.ref wFALSE), .val (.ref wUNKNOWN), .val (.ref wUNKNOWN)] [(.ref wUNKNOWN)])) _
        refine XS.ifnonnullYes X56.here hx rfl (pc0 := 37) (pc' := 42) rfl (hb hby at_37) rfl (by decide) (by decide) ?_
        show Steps p.tables e below (T56.setTop (mkF m 42 #[.val (.int p0), .val (.int p1), .val (.int (0 : Int32)), .val (.int (1 : Int32)), .val (.ref wFALSE), .val (.ref wUNKNOWN), .val (.ref wUNKNOWN)] [])) _
        refine XS.aload X56.here hx rfl (hb hby at_42) rfl rfl ?_
        exact kt)
      rw [((by rw [f2, if_neg ((Fld.ne FUNKNOWN_ordinal FFALSE_ordinal (by decide)) : ¬ (wUNKNOWN = wFALSE)), if_pos (rfl : wUNKNOWN = wUNKNOWN)]) : (f2 wUNKNOWN wFALSE wTRUE wUNKNOWN) = (1 : Int32))] at hQ58
      obtain ⟨rfl, N58q, e58⟩ := hQ58
      have N58 := Fr.app N56 N58q
      obtain ⟨_, _, ⟨T60, L60, k60, n60⟩, -, X60, ⟨Lc60, hQ60, l60, y60, z60⟩, st60⟩ := Jvm.LawKit.callS X58 hx (y := (⟨"java/lang/Math", "max", "(II)I"⟩ : MethodName)) hown (mvT hZ (hw _ (List.mem_of_getElem? (i := 19) rfl))) (mvT hZ (hw _ (List.mem_of_getElem? (i := 20) rfl))) (mvT hZ (hw _ (List.mem_of_getElem? (i := 21) rfl))) (mvT hZ (hw _ (List.mem_of_getElem? (i := 22) rfl))) (by decide) (backOf (W := 1) (rm3 l Z a0 hw [] (0 : Int32) (1 : Int32) h0 n0 Z0 ) hZ (hw _ (List.mem_of_getElem? (i := 22) rfl)) (hw _ (List.mem_of_getElem? (i := 21) rfl)) (by decide) (by decide)) (g := (mkF m 49 #[.val (.int p0), .val (.int p1), .val (.int (0 : Int32)), .val (.int (1 : Int32)), .val (.ref wFALSE), .val (.ref wUNKNOWN), .val (.ref wUNKNOWN)] [(.int (1 : Int32)), (.int (0 : Int32)), (.int (1 : Int32))])) rfl (by rw [hml]; rfl) (argsL := [(.int (0 : Int32)), (.int (1 : Int32))]) (rest := [(.int (1 : Int32))]) (lenOf pd_3 rfl) rfl (by show 2 * 0 + _ ≤ _; exact Nat.le_of_eq rfl) (hb hby at_49) (fun _ _ => ⟨rfl, e58, (by decide : 0 + 0 ≤ _), (by decide : 0 + 0 ≤ _)⟩)
      dsimp only [Pt.U, Pt.locs, Pt.cells, Pt.slots] at X60 l60 y60 z60 st60 hQ60
      subst l60 y60 z60
      unfold Q3 at hQ60
      have k61 : ∀ t, Steps p.tables e below (T58.setTop (mkF m 49 #[.val (.int p0), .val (.int p1), .val (.int (0 : Int32)), .val (.int (1 : Int32)), .val (.ref wFALSE), .val (.ref wUNKNOWN), .val (.ref wUNKNOWN)] [(.int (1 : Int32)), (.int (0 : Int32)), (.int (1 : Int32))])) t → Steps p.tables e below (s₁.setTop (entryFrame m #[(.int p0), (.int p1)] maxLocals)) t := fun t kt => k59 t (by
        show Steps p.tables e below (T56.setTop (mkF m 44 #[.val (.int p0), .val (.int p1), .val (.int (0 : Int32)), .val (.int (1 : Int32)), .val (.ref wFALSE), .val (.ref wUNKNOWN), .val (.ref wUNKNOWN)] [(.ref wUNKNOWN)])) _
        refine st58 _ ?_
        show Steps p.tables e below (T58.setTop (mkF m 47 #[.val (.int p0), .val (.int p1), .val (.int (0 : Int32)), .val (.int (1 : Int32)), .val (.ref wFALSE), .val (.ref wUNKNOWN), .val (.ref wUNKNOWN)] [(.int (1 : Int32))])) _
        refine XS.iloadN X58.here hx rfl (hb hby at_47) rfl ?_
        show Steps p.tables e below (T58.setTop (mkF m 48 #[.val (.int p0), .val (.int p1), .val (.int (0 : Int32)), .val (.int (1 : Int32)), .val (.ref wFALSE), .val (.ref wUNKNOWN), .val (.ref wUNKNOWN)] [(.int (0 : Int32)), (.int (1 : Int32))])) _
        refine XS.iloadN X58.here hx rfl (hb hby at_48) rfl ?_
        exact kt)
      rw [((by rw [f3, if_pos ((by decide) : (0 : Int32) < (1 : Int32))]) : (f3 (0 : Int32) (1 : Int32)) = (1 : Int32))] at hQ60
      obtain ⟨rfl, N60q, e60⟩ := hQ60
      have N60 := Fr.app N58 N60q
      obtain ⟨fs, hr, hrun, hended, hW, hsame⟩ := X60.leave (v := some (.int (1 : Int32))) (fun h => by rw [Bd.returns] at h; cases h)
      refine ⟨_, _, k61 _ ?_, hrun, hended, _, _, rfl, ?_, ⟨_, rfl⟩, hW, hsame.mono (by decide) (by decide)⟩
      · show Steps p.tables e below (T58.setTop (mkF m 49 #[.val (.int p0), .val (.int p1), .val (.int (0 : Int32)), .val (.int (1 : Int32)), .val (.ref wFALSE), .val (.ref wUNKNOWN), .val (.ref wUNKNOWN)] [(.int (1 : Int32)), (.int (0 : Int32)), (.int (1 : Int32))])) _
        refine st60 _ ?_
        show Steps p.tables e below (T60.setTop (mkF m 52 #[.val (.int p0), .val (.int p1), .val (.int (0 : Int32)), .val (.int (1 : Int32)), .val (.ref wFALSE), .val (.ref wUNKNOWN), .val (.ref wUNKNOWN)] [(.int (1 : Int32)), (.int (1 : Int32))])) _
        refine XS.icmpNo X60.here hx rfl (hb hby at_52) rfl (teq (rfl : (1 : Int32) = (1 : Int32))).2 ?_
        show Steps p.tables e below (T60.setTop (mkF m 55 #[.val (.int p0), .val (.int p1), .val (.int (0 : Int32)), .val (.int (1 : Int32)), .val (.ref wFALSE), .val (.ref wUNKNOWN), .val (.ref wUNKNOWN)] [])) _
        refine XS.iconst X60.here hx rfl (hb hby at_55) ?_
        show Steps p.tables e below (T60.setTop (mkF m 56 #[.val (.int p0), .val (.int p1), .val (.int (0 : Int32)), .val (.int (1 : Int32)), .val (.ref wFALSE), .val (.ref wUNKNOWN), .val (.ref wUNKNOWN)] [(.int (1 : Int32))])) _
        refine XS.goto X60.here hx rfl (pc0 := 56) (pc' := 60) rfl (hb hby at_56) (by decide) (by decide) ?_
        show Steps p.tables e below (T60.setTop (mkF m 60 #[.val (.int p0), .val (.int p1), .val (.int (0 : Int32)), .val (.int (1 : Int32)), .val (.ref wFALSE), .val (.ref wUNKNOWN), .val (.ref wUNKNOWN)] [(.int (1 : Int32))])) _
        exact retN X60 hx (t := .boolean) Bd.returns (by simp) (hb hby at_60) hr
      · show Q0 Z p0 p1 wFALSE wTRUE wUNKNOWN h0 n0 _ T60.heap _
        rw [e60]
        exact ⟨rfl, N60⟩
    · subst hv41
      obtain ⟨_, _, ⟨T62, L62, k62, n62⟩, -, X62, ⟨Lc62, hQ62, l62, y62, z62⟩, st62⟩ := Jvm.LawKit.callS X0 hx (y := (⟨"com/example/ongoing_grant/ongoinggrant/policy/TruthOrPinLaw", "pick", "(I)Lcom/example/ongoing_grant/ongoinggrant/policy/Truth;"⟩ : MethodName)) hown (mvT hZ (hw _ (List.mem_of_getElem? (i := 1) rfl))) (mvT hZ (hw _ (List.mem_of_getElem? (i := 2) rfl))) (mvT hZ (hw _ (List.mem_of_getElem? (i := 3) rfl))) (mvT hZ (hw _ (List.mem_of_getElem? (i := 4) rfl))) (by decide) (backOf (W := 0) (rm1 l Z a0 hw [] (0 : Int32) wFALSE wTRUE wUNKNOWN h0 n0 Z0 W0 ) hZ (hw _ (List.mem_of_getElem? (i := 4) rfl)) (hw _ (List.mem_of_getElem? (i := 3) rfl)) (by decide) (by decide)) (g := (mkF m 15 #[.val (.int p0), .val (.int p1), .val (.int (0 : Int32)), .val (.int (2 : Int32)), .unset, .unset, .unset] [(.int (0 : Int32))])) rfl (by rw [hml]; rfl) (argsL := [(.int (0 : Int32))]) (rest := []) (lenOf pd_0 rfl) rfl (by show 2 * 0 + _ ≤ _; exact Nat.le_of_eq rfl) (hb hby at_15) (fun _ _ => ⟨rfl, e0, (by decide : 0 + 0 ≤ _), (by decide : 0 + 0 ≤ _)⟩)
      dsimp only [Pt.U, Pt.locs, Pt.cells, Pt.slots] at X62 l62 y62 z62 st62 hQ62
      subst l62 y62 z62
      unfold Q1 at hQ62
      have k63 : ∀ t, Steps p.tables e below (s₁.setTop (mkF m 15 #[.val (.int p0), .val (.int p1), .val (.int (0 : Int32)), .val (.int (2 : Int32)), .unset, .unset, .unset] [(.int (0 : Int32))])) t → Steps p.tables e below (s₁.setTop (entryFrame m #[(.int p0), (.int p1)] maxLocals)) t := fun t kt => k40 t (by
        show Steps p.tables e below (s₁.setTop (mkF m 14 #[.val (.int p0), .val (.int p1), .val (.int (0 : Int32)), .val (.int (2 : Int32)), .unset, .unset, .unset] [])) _
        refine XS.iloadN X0.here hx rfl (hb hby at_14) rfl ?_
        exact kt)
      rw [((by rw [f1, if_pos (rfl : (0 : Int32) = (0 : Int32))]) : (f1 (0 : Int32) wFALSE wTRUE wUNKNOWN) = wFALSE)] at hQ62
      obtain ⟨rfl, N62q, e62⟩ := hQ62
      have N62 := Fr.app N0 N62q
      obtain ⟨_, _, ⟨T64, L64, k64, n64⟩, -, X64, ⟨Lc64, hQ64, l64, y64, z64⟩, st64⟩ := Jvm.LawKit.callS X62 hx (y := (⟨"com/example/ongoing_grant/ongoinggrant/policy/TruthOrPinLaw", "pick", "(I)Lcom/example/ongoing_grant/ongoinggrant/policy/Truth;"⟩ : MethodName)) hown (mvT hZ (hw _ (List.mem_of_getElem? (i := 1) rfl))) (mvT hZ (hw _ (List.mem_of_getElem? (i := 2) rfl))) (mvT hZ (hw _ (List.mem_of_getElem? (i := 3) rfl))) (mvT hZ (hw _ (List.mem_of_getElem? (i := 4) rfl))) (by decide) (backOf (W := 0) (rm1 l Z a0 hw [] (2 : Int32) wFALSE wTRUE wUNKNOWN h0 n0 Z0 W0 ) hZ (hw _ (List.mem_of_getElem? (i := 4) rfl)) (hw _ (List.mem_of_getElem? (i := 3) rfl)) (by decide) (by decide)) (g := (mkF m 21 #[.val (.int p0), .val (.int p1), .val (.int (0 : Int32)), .val (.int (2 : Int32)), .val (.ref wFALSE), .unset, .unset] [(.int (2 : Int32))])) rfl (by rw [hml]; rfl) (argsL := [(.int (2 : Int32))]) (rest := []) (lenOf pd_0 rfl) rfl (by show 2 * 0 + _ ≤ _; exact Nat.le_of_eq rfl) (hb hby at_21) (fun _ _ => ⟨rfl, e62, (by decide : 0 + 0 ≤ _), (by decide : 0 + 0 ≤ _)⟩)
      dsimp only [Pt.U, Pt.locs, Pt.cells, Pt.slots] at X64 l64 y64 z64 st64 hQ64
      subst l64 y64 z64
      unfold Q1 at hQ64
      have k65 : ∀ t, Steps p.tables e below (T62.setTop (mkF m 21 #[.val (.int p0), .val (.int p1), .val (.int (0 : Int32)), .val (.int (2 : Int32)), .val (.ref wFALSE), .unset, .unset] [(.int (2 : Int32))])) t → Steps p.tables e below (s₁.setTop (entryFrame m #[(.int p0), (.int p1)] maxLocals)) t := fun t kt => k63 t (by
        show Steps p.tables e below (s₁.setTop (mkF m 15 #[.val (.int p0), .val (.int p1), .val (.int (0 : Int32)), .val (.int (2 : Int32)), .unset, .unset, .unset] [(.int (0 : Int32))])) _
        refine st62 _ ?_
        show Steps p.tables e below (T62.setTop (mkF m 18 #[.val (.int p0), .val (.int p1), .val (.int (0 : Int32)), .val (.int (2 : Int32)), .unset, .unset, .unset] [(.ref wFALSE)])) _
        refine XS.astore X62.here hx rfl (hb hby at_18) rfl rfl (l' := #[.val (.int p0), .val (.int p1), .val (.int (0 : Int32)), .val (.int (2 : Int32)), .val (.ref wFALSE), .unset, .unset]) rfl ?_
        show Steps p.tables e below (T62.setTop (mkF m 20 #[.val (.int p0), .val (.int p1), .val (.int (0 : Int32)), .val (.int (2 : Int32)), .val (.ref wFALSE), .unset, .unset] [])) _
        refine XS.iloadN X62.here hx rfl (hb hby at_20) rfl ?_
        exact kt)
      rw [((by rw [f1, if_neg ((by decide) : ¬ ((2 : Int32) = (0 : Int32))), if_neg ((by decide) : ¬ ((2 : Int32) = (1 : Int32)))]) : (f1 (2 : Int32) wFALSE wTRUE wUNKNOWN) = wTRUE)] at hQ64
      obtain ⟨rfl, N64q, e64⟩ := hQ64
      have N64 := Fr.app N62 N64q
      obtain ⟨cq66, kq66, q66a, q66b, q66c⟩ := isOf hZ e64 EFALSE
      obtain ⟨_, _, ⟨T66, L66, k66, n66⟩, -, X66, ⟨Lc66, hQ66, l66, y66, z66⟩, st66⟩ := X64.virtualBack hx (y := (⟨"com/example/ongoing_grant/ongoinggrant/policy/Truth", "or", "(Lcom/example/ongoing_grant/ongoinggrant/policy/Truth;)Lcom/example/ongoing_grant/ongoinggrant/policy/Truth;"⟩ : MethodName)) (z := (⟨"com/example/ongoing_grant/ongoinggrant/policy/Truth", "or", "(Lcom/example/ongoing_grant/ongoinggrant/policy/Truth;)Lcom/example/ongoing_grant/ongoinggrant/policy/Truth;"⟩ : MethodName)) hown (mvT hZ (hw _ (List.mem_of_getElem? (i := 8) rfl))) (mvT hZ (hw _ (List.mem_of_getElem? (i := 9) rfl))) (notFace_of_selects (args := #[]) (mvT hZ (hw _ (List.mem_of_getElem? (i := 11) rfl)))) (mvT hZ (hw _ (List.mem_of_getElem? (i := 11) rfl))) (mvT hZ (hw _ (List.mem_of_getElem? (i := 10) rfl))) (by decide) (backOf (W := 0) (rm4 l Z a0 hw [] wFALSE wTRUE wFALSE wTRUE wUNKNOWN h0 n0 Z0 W0 ) hZ (hw _ (List.mem_of_getElem? (i := 12) rfl)) (hw _ (List.mem_of_getElem? (i := 6) rfl)) (by decide) (by decide)) q66a q66c (g := (mkF m 30 #[.val (.int p0), .val (.int p1), .val (.int (0 : Int32)), .val (.int (2 : Int32)), .val (.ref wFALSE), .val (.ref wTRUE), .unset] [(.ref wTRUE), (.ref wFALSE)])) rfl (by rw [hml]; rfl) (Steps.refl _) (argsL := [(.ref wTRUE)]) (rest := []) (lenOf pd_1 rfl) rfl (by show 2 * 0 + _ ≤ _; exact Nat.le_of_eq rfl) (hb hby at_30) (fun _ _ => ⟨rfl, e64, (by decide : 0 + 0 ≤ _), (by decide : 0 + 0 ≤ _)⟩)
      dsimp only [Pt.U, Pt.locs, Pt.cells, Pt.slots] at X66 l66 y66 z66 st66 hQ66
      subst l66 y66 z66
      unfold Q4 at hQ66
      have k67 : ∀ t, Steps p.tables e below (T64.setTop (mkF m 30 #[.val (.int p0), .val (.int p1), .val (.int (0 : Int32)), .val (.int (2 : Int32)), .val (.ref wFALSE), .val (.ref wTRUE), .unset] [(.ref wTRUE), (.ref wFALSE)])) t → Steps p.tables e below (s₁.setTop (entryFrame m #[(.int p0), (.int p1)] maxLocals)) t := fun t kt => k65 t (by
        show Steps p.tables e below (T62.setTop (mkF m 21 #[.val (.int p0), .val (.int p1), .val (.int (0 : Int32)), .val (.int (2 : Int32)), .val (.ref wFALSE), .unset, .unset] [(.int (2 : Int32))])) _
        refine st64 _ ?_
        show Steps p.tables e below (T64.setTop (mkF m 24 #[.val (.int p0), .val (.int p1), .val (.int (0 : Int32)), .val (.int (2 : Int32)), .val (.ref wFALSE), .unset, .unset] [(.ref wTRUE)])) _
        refine XS.astore X64.here hx rfl (hb hby at_24) rfl rfl (l' := #[.val (.int p0), .val (.int p1), .val (.int (0 : Int32)), .val (.int (2 : Int32)), .val (.ref wFALSE), .val (.ref wTRUE), .unset]) rfl ?_
        show Steps p.tables e below (T64.setTop (mkF m 26 #[.val (.int p0), .val (.int p1), .val (.int (0 : Int32)), .val (.int (2 : Int32)), .val (.ref wFALSE), .val (.ref wTRUE), .unset] [])) _
        refine XS.aload X64.here hx rfl (hb hby at_26) rfl rfl ?_
        show Steps p.tables e below (T64.setTop (mkF m 28 #[.val (.int p0), .val (.int p1), .val (.int (0 : Int32)), .val (.int (2 : Int32)), .val (.ref wFALSE), .val (.ref wTRUE), .unset] [(.ref wFALSE)])) _
        refine XS.aload X64.here hx rfl (hb hby at_28) rfl rfl ?_
        exact kt)
      rw [((by rw [f4, if_neg ((Fld.ne FFALSE_ordinal FTRUE_ordinal (by decide)) : ¬ (wFALSE = wTRUE)), if_pos (rfl : wTRUE = wTRUE)]) : (f4 wFALSE wTRUE wFALSE wTRUE wUNKNOWN) = wTRUE)] at hQ66
      obtain ⟨rfl, N66q, e66⟩ := hQ66
      have N66 := Fr.app N64 N66q
      obtain ⟨_, _, ⟨T68, L68, k68, n68⟩, -, X68, ⟨Lc68, hQ68, l68, y68, z68⟩, st68⟩ := Jvm.LawKit.callS X66 hx (y := (⟨"com/example/ongoing_grant/ongoinggrant/policy/TruthOrPinLaw", "rank", "(Lcom/example/ongoing_grant/ongoinggrant/policy/Truth;)I"⟩ : MethodName)) hown (mvT hZ (hw _ (List.mem_of_getElem? (i := 16) rfl))) (mvT hZ (hw _ (List.mem_of_getElem? (i := 17) rfl))) (mvT hZ (hw _ (List.mem_of_getElem? (i := 3) rfl))) (mvT hZ (hw _ (List.mem_of_getElem? (i := 18) rfl))) (by decide) (backOf (W := 0) (rm2 l Z a0 hw [] wTRUE wFALSE wTRUE wUNKNOWN h0 n0 Z0 W0 ) hZ (hw _ (List.mem_of_getElem? (i := 18) rfl)) (hw _ (List.mem_of_getElem? (i := 3) rfl)) (by decide) (by decide)) (g := (mkF m 44 #[.val (.int p0), .val (.int p1), .val (.int (0 : Int32)), .val (.int (2 : Int32)), .val (.ref wFALSE), .val (.ref wTRUE), .val (.ref wTRUE)] [(.ref wTRUE)])) rfl (by rw [hml]; rfl) (argsL := [(.ref wTRUE)]) (rest := []) (lenOf pd_2 rfl) rfl (by show 2 * 0 + _ ≤ _; exact Nat.le_of_eq rfl) (hb hby at_44) (fun _ _ => ⟨rfl, e66, (by decide : 0 + 0 ≤ _), (by decide : 0 + 0 ≤ _)⟩)
      dsimp only [Pt.U, Pt.locs, Pt.cells, Pt.slots] at X68 l68 y68 z68 st68 hQ68
      subst l68 y68 z68
      unfold Q2 at hQ68
      have k69 : ∀ t, Steps p.tables e below (T66.setTop (mkF m 44 #[.val (.int p0), .val (.int p1), .val (.int (0 : Int32)), .val (.int (2 : Int32)), .val (.ref wFALSE), .val (.ref wTRUE), .val (.ref wTRUE)] [(.ref wTRUE)])) t → Steps p.tables e below (s₁.setTop (entryFrame m #[(.int p0), (.int p1)] maxLocals)) t := fun t kt => k67 t (by
        show Steps p.tables e below (T64.setTop (mkF m 30 #[.val (.int p0), .val (.int p1), .val (.int (0 : Int32)), .val (.int (2 : Int32)), .val (.ref wFALSE), .val (.ref wTRUE), .unset] [(.ref wTRUE), (.ref wFALSE)])) _
        refine st66.trans ?_
        show Steps p.tables e below (T66.setTop (mkF m 33 #[.val (.int p0), .val (.int p1), .val (.int (0 : Int32)), .val (.int (2 : Int32)), .val (.ref wFALSE), .val (.ref wTRUE), .unset] [(.ref wTRUE)])) _
        refine XS.astore X66.here hx rfl (hb hby at_33) rfl rfl (l' := #[.val (.int p0), .val (.int p1), .val (.int (0 : Int32)), .val (.int (2 : Int32)), .val (.ref wFALSE), .val (.ref wTRUE), .val (.ref wTRUE)]) rfl ?_
        show Steps p.tables e below (T66.setTop (mkF m 35 #[.val (.int p0), .val (.int p1), .val (.int (0 : Int32)), .val (.int (2 : Int32)), .val (.ref wFALSE), .val (.ref wTRUE), .val (.ref wTRUE)] [])) _
        refine XS.aload X66.here hx rfl (hb hby at_35) rfl rfl ?_
        show Steps p.tables e below (T66.setTop (mkF m 37 #[.val (.int p0), .val (.int p1), .val (.int (0 : Int32)), .val (.int (2 : Int32)), .val (.ref wFALSE), .val (.ref wTRUE), .val (.ref wTRUE)] [(.ref wTRUE)])) _
        refine XS.ifnonnullYes X66.here hx rfl (pc0 := 37) (pc' := 42) rfl (hb hby at_37) rfl (by decide) (by decide) ?_
        show Steps p.tables e below (T66.setTop (mkF m 42 #[.val (.int p0), .val (.int p1), .val (.int (0 : Int32)), .val (.int (2 : Int32)), .val (.ref wFALSE), .val (.ref wTRUE), .val (.ref wTRUE)] [])) _
        refine XS.aload X66.here hx rfl (hb hby at_42) rfl rfl ?_
        exact kt)
      rw [((by rw [f2, if_neg ((Fld.ne FTRUE_ordinal FFALSE_ordinal (by decide)) : ¬ (wTRUE = wFALSE)), if_neg ((Fld.ne FTRUE_ordinal FUNKNOWN_ordinal (by decide)) : ¬ (wTRUE = wUNKNOWN)), if_pos (rfl : wTRUE = wTRUE)]) : (f2 wTRUE wFALSE wTRUE wUNKNOWN) = (2 : Int32))] at hQ68
      obtain ⟨rfl, N68q, e68⟩ := hQ68
      have N68 := Fr.app N66 N68q
      obtain ⟨_, _, ⟨T70, L70, k70, n70⟩, -, X70, ⟨Lc70, hQ70, l70, y70, z70⟩, st70⟩ := Jvm.LawKit.callS X68 hx (y := (⟨"java/lang/Math", "max", "(II)I"⟩ : MethodName)) hown (mvT hZ (hw _ (List.mem_of_getElem? (i := 19) rfl))) (mvT hZ (hw _ (List.mem_of_getElem? (i := 20) rfl))) (mvT hZ (hw _ (List.mem_of_getElem? (i := 21) rfl))) (mvT hZ (hw _ (List.mem_of_getElem? (i := 22) rfl))) (by decide) (backOf (W := 1) (rm3 l Z a0 hw [] (0 : Int32) (2 : Int32) h0 n0 Z0 ) hZ (hw _ (List.mem_of_getElem? (i := 22) rfl)) (hw _ (List.mem_of_getElem? (i := 21) rfl)) (by decide) (by decide)) (g := (mkF m 49 #[.val (.int p0), .val (.int p1), .val (.int (0 : Int32)), .val (.int (2 : Int32)), .val (.ref wFALSE), .val (.ref wTRUE), .val (.ref wTRUE)] [(.int (2 : Int32)), (.int (0 : Int32)), (.int (2 : Int32))])) rfl (by rw [hml]; rfl) (argsL := [(.int (0 : Int32)), (.int (2 : Int32))]) (rest := [(.int (2 : Int32))]) (lenOf pd_3 rfl) rfl (by show 2 * 0 + _ ≤ _; exact Nat.le_of_eq rfl) (hb hby at_49) (fun _ _ => ⟨rfl, e68, (by decide : 0 + 0 ≤ _), (by decide : 0 + 0 ≤ _)⟩)
      dsimp only [Pt.U, Pt.locs, Pt.cells, Pt.slots] at X70 l70 y70 z70 st70 hQ70
      subst l70 y70 z70
      unfold Q3 at hQ70
      have k71 : ∀ t, Steps p.tables e below (T68.setTop (mkF m 49 #[.val (.int p0), .val (.int p1), .val (.int (0 : Int32)), .val (.int (2 : Int32)), .val (.ref wFALSE), .val (.ref wTRUE), .val (.ref wTRUE)] [(.int (2 : Int32)), (.int (0 : Int32)), (.int (2 : Int32))])) t → Steps p.tables e below (s₁.setTop (entryFrame m #[(.int p0), (.int p1)] maxLocals)) t := fun t kt => k69 t (by
        show Steps p.tables e below (T66.setTop (mkF m 44 #[.val (.int p0), .val (.int p1), .val (.int (0 : Int32)), .val (.int (2 : Int32)), .val (.ref wFALSE), .val (.ref wTRUE), .val (.ref wTRUE)] [(.ref wTRUE)])) _
        refine st68 _ ?_
        show Steps p.tables e below (T68.setTop (mkF m 47 #[.val (.int p0), .val (.int p1), .val (.int (0 : Int32)), .val (.int (2 : Int32)), .val (.ref wFALSE), .val (.ref wTRUE), .val (.ref wTRUE)] [(.int (2 : Int32))])) _
        refine XS.iloadN X68.here hx rfl (hb hby at_47) rfl ?_
        show Steps p.tables e below (T68.setTop (mkF m 48 #[.val (.int p0), .val (.int p1), .val (.int (0 : Int32)), .val (.int (2 : Int32)), .val (.ref wFALSE), .val (.ref wTRUE), .val (.ref wTRUE)] [(.int (0 : Int32)), (.int (2 : Int32))])) _
        refine XS.iloadN X68.here hx rfl (hb hby at_48) rfl ?_
        exact kt)
      rw [((by rw [f3, if_pos ((by decide) : (0 : Int32) < (2 : Int32))]) : (f3 (0 : Int32) (2 : Int32)) = (2 : Int32))] at hQ70
      obtain ⟨rfl, N70q, e70⟩ := hQ70
      have N70 := Fr.app N68 N70q
      obtain ⟨fs, hr, hrun, hended, hW, hsame⟩ := X70.leave (v := some (.int (1 : Int32))) (fun h => by rw [Bd.returns] at h; cases h)
      refine ⟨_, _, k71 _ ?_, hrun, hended, _, _, rfl, ?_, ⟨_, rfl⟩, hW, hsame.mono (by decide) (by decide)⟩
      · show Steps p.tables e below (T68.setTop (mkF m 49 #[.val (.int p0), .val (.int p1), .val (.int (0 : Int32)), .val (.int (2 : Int32)), .val (.ref wFALSE), .val (.ref wTRUE), .val (.ref wTRUE)] [(.int (2 : Int32)), (.int (0 : Int32)), (.int (2 : Int32))])) _
        refine st70 _ ?_
        show Steps p.tables e below (T70.setTop (mkF m 52 #[.val (.int p0), .val (.int p1), .val (.int (0 : Int32)), .val (.int (2 : Int32)), .val (.ref wFALSE), .val (.ref wTRUE), .val (.ref wTRUE)] [(.int (2 : Int32)), (.int (2 : Int32))])) _
        refine XS.icmpNo X70.here hx rfl (hb hby at_52) rfl (teq (rfl : (2 : Int32) = (2 : Int32))).2 ?_
        show Steps p.tables e below (T70.setTop (mkF m 55 #[.val (.int p0), .val (.int p1), .val (.int (0 : Int32)), .val (.int (2 : Int32)), .val (.ref wFALSE), .val (.ref wTRUE), .val (.ref wTRUE)] [])) _
        refine XS.iconst X70.here hx rfl (hb hby at_55) ?_
        show Steps p.tables e below (T70.setTop (mkF m 56 #[.val (.int p0), .val (.int p1), .val (.int (0 : Int32)), .val (.int (2 : Int32)), .val (.ref wFALSE), .val (.ref wTRUE), .val (.ref wTRUE)] [(.int (1 : Int32))])) _
        refine XS.goto X70.here hx rfl (pc0 := 56) (pc' := 60) rfl (hb hby at_56) (by decide) (by decide) ?_
        show Steps p.tables e below (T70.setTop (mkF m 60 #[.val (.int p0), .val (.int p1), .val (.int (0 : Int32)), .val (.int (2 : Int32)), .val (.ref wFALSE), .val (.ref wTRUE), .val (.ref wTRUE)] [(.int (1 : Int32))])) _
        exact retN X70 hx (t := .boolean) Bd.returns (by simp) (hb hby at_60) hr
      · show Q0 Z p0 p1 wFALSE wTRUE wUNKNOWN h0 n0 _ T70.heap _
        rw [e70]
        exact ⟨rfl, N70⟩
  · subst hv38
    obtain ⟨i72, hi72⟩ : ∃ z, z = ((p1 &&& (2147483647 : Int32)) % (3 : Int32)) := ⟨_, rfl⟩
    have k73 : ∀ t, Steps p.tables e below (s₁.setTop (mkF m 14 #[.val (.int p0), .val (.int p1), .val (.int (1 : Int32)), .val (.int i72), .unset, .unset, .unset] [])) t → Steps p.tables e below (s₁.setTop (entryFrame m #[(.int p0), (.int p1)] maxLocals)) t := fun t kt => k37 t (by
      show Steps p.tables e below (s₁.setTop (mkF m 7 #[.val (.int p0), .val (.int p1), .val (.int (1 : Int32)), .unset, .unset, .unset, .unset] [])) _
      refine XS.iloadN X0.here hx rfl (hb hby at_7) rfl ?_
      show Steps p.tables e below (s₁.setTop (mkF m 8 #[.val (.int p0), .val (.int p1), .val (.int (1 : Int32)), .unset, .unset, .unset, .unset] [(.int p1)])) _
      refine X0.ldcInt hx hown (mvT hZ (hw _ (List.mem_of_getElem? (i := 0) rfl))) (g := (mkF m 8 #[.val (.int p0), .val (.int p1), .val (.int (1 : Int32)), .unset, .unset, .unset, .unset] [(.int p1)])) rfl (hb hby at_8) _ ?_
      show Steps p.tables e below (s₁.setTop (mkF m 10 #[.val (.int p0), .val (.int p1), .val (.int (1 : Int32)), .unset, .unset, .unset, .unset] [(.int (2147483647 : Int32)), (.int p1)])) _
      refine XS.iand X0.here hx rfl (hb hby at_10) rfl ?_
      show Steps p.tables e below (s₁.setTop (mkF m 11 #[.val (.int p0), .val (.int p1), .val (.int (1 : Int32)), .unset, .unset, .unset, .unset] [(.int (p1 &&& (2147483647 : Int32)))])) _
      refine XS.iconst X0.here hx rfl (hb hby at_11) ?_
      show Steps p.tables e below (s₁.setTop (mkF m 12 #[.val (.int p0), .val (.int p1), .val (.int (1 : Int32)), .unset, .unset, .unset, .unset] [(.int (3 : Int32)), (.int (p1 &&& (2147483647 : Int32)))])) _
      refine iremM X0 hx rfl (hb hby at_12) rfl (by decide) ?_
      rw [← hi72]
      show Steps p.tables e below (s₁.setTop (mkF m 13 #[.val (.int p0), .val (.int p1), .val (.int (1 : Int32)), .unset, .unset, .unset, .unset] [(.int i72)])) _
      refine XS.istoreN X0.here hx rfl (hb hby at_13) rfl (l' := #[.val (.int p0), .val (.int p1), .val (.int (1 : Int32)), .val (.int i72), .unset, .unset, .unset]) rfl ?_
      exact kt)
    rcases own_cases3 hi72 with hv74 | hv74 | hv74
    · subst hv74
      obtain ⟨_, _, ⟨T75, L75, k75, n75⟩, -, X75, ⟨Lc75, hQ75, l75, y75, z75⟩, st75⟩ := Jvm.LawKit.callS X0 hx (y := (⟨"com/example/ongoing_grant/ongoinggrant/policy/TruthOrPinLaw", "pick", "(I)Lcom/example/ongoing_grant/ongoinggrant/policy/Truth;"⟩ : MethodName)) hown (mvT hZ (hw _ (List.mem_of_getElem? (i := 1) rfl))) (mvT hZ (hw _ (List.mem_of_getElem? (i := 2) rfl))) (mvT hZ (hw _ (List.mem_of_getElem? (i := 3) rfl))) (mvT hZ (hw _ (List.mem_of_getElem? (i := 4) rfl))) (by decide) (backOf (W := 0) (rm1 l Z a0 hw [] (1 : Int32) wFALSE wTRUE wUNKNOWN h0 n0 Z0 W0 ) hZ (hw _ (List.mem_of_getElem? (i := 4) rfl)) (hw _ (List.mem_of_getElem? (i := 3) rfl)) (by decide) (by decide)) (g := (mkF m 15 #[.val (.int p0), .val (.int p1), .val (.int (1 : Int32)), .val (.int (0 : Int32)), .unset, .unset, .unset] [(.int (1 : Int32))])) rfl (by rw [hml]; rfl) (argsL := [(.int (1 : Int32))]) (rest := []) (lenOf pd_0 rfl) rfl (by show 2 * 0 + _ ≤ _; exact Nat.le_of_eq rfl) (hb hby at_15) (fun _ _ => ⟨rfl, e0, (by decide : 0 + 0 ≤ _), (by decide : 0 + 0 ≤ _)⟩)
      dsimp only [Pt.U, Pt.locs, Pt.cells, Pt.slots] at X75 l75 y75 z75 st75 hQ75
      subst l75 y75 z75
      unfold Q1 at hQ75
      have k76 : ∀ t, Steps p.tables e below (s₁.setTop (mkF m 15 #[.val (.int p0), .val (.int p1), .val (.int (1 : Int32)), .val (.int (0 : Int32)), .unset, .unset, .unset] [(.int (1 : Int32))])) t → Steps p.tables e below (s₁.setTop (entryFrame m #[(.int p0), (.int p1)] maxLocals)) t := fun t kt => k73 t (by
        show Steps p.tables e below (s₁.setTop (mkF m 14 #[.val (.int p0), .val (.int p1), .val (.int (1 : Int32)), .val (.int (0 : Int32)), .unset, .unset, .unset] [])) _
        refine XS.iloadN X0.here hx rfl (hb hby at_14) rfl ?_
        exact kt)
      rw [((by rw [f1, if_neg ((by decide) : ¬ ((1 : Int32) = (0 : Int32))), if_pos (rfl : (1 : Int32) = (1 : Int32))]) : (f1 (1 : Int32) wFALSE wTRUE wUNKNOWN) = wUNKNOWN)] at hQ75
      obtain ⟨rfl, N75q, e75⟩ := hQ75
      have N75 := Fr.app N0 N75q
      obtain ⟨_, _, ⟨T77, L77, k77, n77⟩, -, X77, ⟨Lc77, hQ77, l77, y77, z77⟩, st77⟩ := Jvm.LawKit.callS X75 hx (y := (⟨"com/example/ongoing_grant/ongoinggrant/policy/TruthOrPinLaw", "pick", "(I)Lcom/example/ongoing_grant/ongoinggrant/policy/Truth;"⟩ : MethodName)) hown (mvT hZ (hw _ (List.mem_of_getElem? (i := 1) rfl))) (mvT hZ (hw _ (List.mem_of_getElem? (i := 2) rfl))) (mvT hZ (hw _ (List.mem_of_getElem? (i := 3) rfl))) (mvT hZ (hw _ (List.mem_of_getElem? (i := 4) rfl))) (by decide) (backOf (W := 0) (rm1 l Z a0 hw [] (0 : Int32) wFALSE wTRUE wUNKNOWN h0 n0 Z0 W0 ) hZ (hw _ (List.mem_of_getElem? (i := 4) rfl)) (hw _ (List.mem_of_getElem? (i := 3) rfl)) (by decide) (by decide)) (g := (mkF m 21 #[.val (.int p0), .val (.int p1), .val (.int (1 : Int32)), .val (.int (0 : Int32)), .val (.ref wUNKNOWN), .unset, .unset] [(.int (0 : Int32))])) rfl (by rw [hml]; rfl) (argsL := [(.int (0 : Int32))]) (rest := []) (lenOf pd_0 rfl) rfl (by show 2 * 0 + _ ≤ _; exact Nat.le_of_eq rfl) (hb hby at_21) (fun _ _ => ⟨rfl, e75, (by decide : 0 + 0 ≤ _), (by decide : 0 + 0 ≤ _)⟩)
      dsimp only [Pt.U, Pt.locs, Pt.cells, Pt.slots] at X77 l77 y77 z77 st77 hQ77
      subst l77 y77 z77
      unfold Q1 at hQ77
      have k78 : ∀ t, Steps p.tables e below (T75.setTop (mkF m 21 #[.val (.int p0), .val (.int p1), .val (.int (1 : Int32)), .val (.int (0 : Int32)), .val (.ref wUNKNOWN), .unset, .unset] [(.int (0 : Int32))])) t → Steps p.tables e below (s₁.setTop (entryFrame m #[(.int p0), (.int p1)] maxLocals)) t := fun t kt => k76 t (by
        show Steps p.tables e below (s₁.setTop (mkF m 15 #[.val (.int p0), .val (.int p1), .val (.int (1 : Int32)), .val (.int (0 : Int32)), .unset, .unset, .unset] [(.int (1 : Int32))])) _
        refine st75 _ ?_
        show Steps p.tables e below (T75.setTop (mkF m 18 #[.val (.int p0), .val (.int p1), .val (.int (1 : Int32)), .val (.int (0 : Int32)), .unset, .unset, .unset] [(.ref wUNKNOWN)])) _
        refine XS.astore X75.here hx rfl (hb hby at_18) rfl rfl (l' := #[.val (.int p0), .val (.int p1), .val (.int (1 : Int32)), .val (.int (0 : Int32)), .val (.ref wUNKNOWN), .unset, .unset]) rfl ?_
        show Steps p.tables e below (T75.setTop (mkF m 20 #[.val (.int p0), .val (.int p1), .val (.int (1 : Int32)), .val (.int (0 : Int32)), .val (.ref wUNKNOWN), .unset, .unset] [])) _
        refine XS.iloadN X75.here hx rfl (hb hby at_20) rfl ?_
        exact kt)
      rw [((by rw [f1, if_pos (rfl : (0 : Int32) = (0 : Int32))]) : (f1 (0 : Int32) wFALSE wTRUE wUNKNOWN) = wFALSE)] at hQ77
      obtain ⟨rfl, N77q, e77⟩ := hQ77
      have N77 := Fr.app N75 N77q
      obtain ⟨cq79, kq79, q79a, q79b, q79c⟩ := isOf hZ e77 EUNKNOWN
      obtain ⟨_, _, ⟨T79, L79, k79, n79⟩, -, X79, ⟨Lc79, hQ79, l79, y79, z79⟩, st79⟩ := X77.virtualBack hx (y := (⟨"com/example/ongoing_grant/ongoinggrant/policy/Truth", "or", "(Lcom/example/ongoing_grant/ongoinggrant/policy/Truth;)Lcom/example/ongoing_grant/ongoinggrant/policy/Truth;"⟩ : MethodName)) (z := (⟨"com/example/ongoing_grant/ongoinggrant/policy/Truth", "or", "(Lcom/example/ongoing_grant/ongoinggrant/policy/Truth;)Lcom/example/ongoing_grant/ongoinggrant/policy/Truth;"⟩ : MethodName)) hown (mvT hZ (hw _ (List.mem_of_getElem? (i := 8) rfl))) (mvT hZ (hw _ (List.mem_of_getElem? (i := 9) rfl))) (notFace_of_selects (args := #[]) (mvT hZ (hw _ (List.mem_of_getElem? (i := 11) rfl)))) (mvT hZ (hw _ (List.mem_of_getElem? (i := 11) rfl))) (mvT hZ (hw _ (List.mem_of_getElem? (i := 10) rfl))) (by decide) (backOf (W := 0) (rm4 l Z a0 hw [] wUNKNOWN wFALSE wFALSE wTRUE wUNKNOWN h0 n0 Z0 W0 ) hZ (hw _ (List.mem_of_getElem? (i := 12) rfl)) (hw _ (List.mem_of_getElem? (i := 6) rfl)) (by decide) (by decide)) q79a q79c (g := (mkF m 30 #[.val (.int p0), .val (.int p1), .val (.int (1 : Int32)), .val (.int (0 : Int32)), .val (.ref wUNKNOWN), .val (.ref wFALSE), .unset] [(.ref wFALSE), (.ref wUNKNOWN)])) rfl (by rw [hml]; rfl) (Steps.refl _) (argsL := [(.ref wFALSE)]) (rest := []) (lenOf pd_1 rfl) rfl (by show 2 * 0 + _ ≤ _; exact Nat.le_of_eq rfl) (hb hby at_30) (fun _ _ => ⟨rfl, e77, (by decide : 0 + 0 ≤ _), (by decide : 0 + 0 ≤ _)⟩)
      dsimp only [Pt.U, Pt.locs, Pt.cells, Pt.slots] at X79 l79 y79 z79 st79 hQ79
      subst l79 y79 z79
      unfold Q4 at hQ79
      have k80 : ∀ t, Steps p.tables e below (T77.setTop (mkF m 30 #[.val (.int p0), .val (.int p1), .val (.int (1 : Int32)), .val (.int (0 : Int32)), .val (.ref wUNKNOWN), .val (.ref wFALSE), .unset] [(.ref wFALSE), (.ref wUNKNOWN)])) t → Steps p.tables e below (s₁.setTop (entryFrame m #[(.int p0), (.int p1)] maxLocals)) t := fun t kt => k78 t (by
        show Steps p.tables e below (T75.setTop (mkF m 21 #[.val (.int p0), .val (.int p1), .val (.int (1 : Int32)), .val (.int (0 : Int32)), .val (.ref wUNKNOWN), .unset, .unset] [(.int (0 : Int32))])) _
        refine st77 _ ?_
        show Steps p.tables e below (T77.setTop (mkF m 24 #[.val (.int p0), .val (.int p1), .val (.int (1 : Int32)), .val (.int (0 : Int32)), .val (.ref wUNKNOWN), .unset, .unset] [(.ref wFALSE)])) _
        refine XS.astore X77.here hx rfl (hb hby at_24) rfl rfl (l' := #[.val (.int p0), .val (.int p1), .val (.int (1 : Int32)), .val (.int (0 : Int32)), .val (.ref wUNKNOWN), .val (.ref wFALSE), .unset]) rfl ?_
        show Steps p.tables e below (T77.setTop (mkF m 26 #[.val (.int p0), .val (.int p1), .val (.int (1 : Int32)), .val (.int (0 : Int32)), .val (.ref wUNKNOWN), .val (.ref wFALSE), .unset] [])) _
        refine XS.aload X77.here hx rfl (hb hby at_26) rfl rfl ?_
        show Steps p.tables e below (T77.setTop (mkF m 28 #[.val (.int p0), .val (.int p1), .val (.int (1 : Int32)), .val (.int (0 : Int32)), .val (.ref wUNKNOWN), .val (.ref wFALSE), .unset] [(.ref wUNKNOWN)])) _
        refine XS.aload X77.here hx rfl (hb hby at_28) rfl rfl ?_
        exact kt)
      rw [((by rw [f4, if_neg ((Fld.ne FUNKNOWN_ordinal FTRUE_ordinal (by decide)) : ¬ (wUNKNOWN = wTRUE)), if_neg ((Fld.ne FFALSE_ordinal FTRUE_ordinal (by decide)) : ¬ (wFALSE = wTRUE)), if_neg ((Fld.ne FUNKNOWN_ordinal FFALSE_ordinal (by decide)) : ¬ (wUNKNOWN = wFALSE))]) : (f4 wUNKNOWN wFALSE wFALSE wTRUE wUNKNOWN) = wUNKNOWN)] at hQ79
      obtain ⟨rfl, N79q, e79⟩ := hQ79
      have N79 := Fr.app N77 N79q
      obtain ⟨_, _, ⟨T81, L81, k81, n81⟩, -, X81, ⟨Lc81, hQ81, l81, y81, z81⟩, st81⟩ := Jvm.LawKit.callS X79 hx (y := (⟨"com/example/ongoing_grant/ongoinggrant/policy/TruthOrPinLaw", "rank", "(Lcom/example/ongoing_grant/ongoinggrant/policy/Truth;)I"⟩ : MethodName)) hown (mvT hZ (hw _ (List.mem_of_getElem? (i := 16) rfl))) (mvT hZ (hw _ (List.mem_of_getElem? (i := 17) rfl))) (mvT hZ (hw _ (List.mem_of_getElem? (i := 3) rfl))) (mvT hZ (hw _ (List.mem_of_getElem? (i := 18) rfl))) (by decide) (backOf (W := 0) (rm2 l Z a0 hw [] wUNKNOWN wFALSE wTRUE wUNKNOWN h0 n0 Z0 W0 ) hZ (hw _ (List.mem_of_getElem? (i := 18) rfl)) (hw _ (List.mem_of_getElem? (i := 3) rfl)) (by decide) (by decide)) (g := (mkF m 44 #[.val (.int p0), .val (.int p1), .val (.int (1 : Int32)), .val (.int (0 : Int32)), .val (.ref wUNKNOWN), .val (.ref wFALSE), .val (.ref wUNKNOWN)] [(.ref wUNKNOWN)])) rfl (by rw [hml]; rfl) (argsL := [(.ref wUNKNOWN)]) (rest := []) (lenOf pd_2 rfl) rfl (by show 2 * 0 + _ ≤ _; exact Nat.le_of_eq rfl) (hb hby at_44) (fun _ _ => ⟨rfl, e79, (by decide : 0 + 0 ≤ _), (by decide : 0 + 0 ≤ _)⟩)
      dsimp only [Pt.U, Pt.locs, Pt.cells, Pt.slots] at X81 l81 y81 z81 st81 hQ81
      subst l81 y81 z81
      unfold Q2 at hQ81
      have k82 : ∀ t, Steps p.tables e below (T79.setTop (mkF m 44 #[.val (.int p0), .val (.int p1), .val (.int (1 : Int32)), .val (.int (0 : Int32)), .val (.ref wUNKNOWN), .val (.ref wFALSE), .val (.ref wUNKNOWN)] [(.ref wUNKNOWN)])) t → Steps p.tables e below (s₁.setTop (entryFrame m #[(.int p0), (.int p1)] maxLocals)) t := fun t kt => k80 t (by
        show Steps p.tables e below (T77.setTop (mkF m 30 #[.val (.int p0), .val (.int p1), .val (.int (1 : Int32)), .val (.int (0 : Int32)), .val (.ref wUNKNOWN), .val (.ref wFALSE), .unset] [(.ref wFALSE), (.ref wUNKNOWN)])) _
        refine st79.trans ?_
        show Steps p.tables e below (T79.setTop (mkF m 33 #[.val (.int p0), .val (.int p1), .val (.int (1 : Int32)), .val (.int (0 : Int32)), .val (.ref wUNKNOWN), .val (.ref wFALSE), .unset] [(.ref wUNKNOWN)])) _
        refine XS.astore X79.here hx rfl (hb hby at_33) rfl rfl (l' := #[.val (.int p0), .val (.int p1), .val (.int (1 : Int32)), .val (.int (0 : Int32)), .val (.ref wUNKNOWN), .val (.ref wFALSE), .val (.ref wUNKNOWN)]) rfl ?_
        show Steps p.tables e below (T79.setTop (mkF m 35 #[.val (.int p0), .val (.int p1), .val (.int (1 : Int32)), .val (.int (0 : Int32)), .val (.ref wUNKNOWN), .val (.ref wFALSE), .val (.ref wUNKNOWN)] [])) _
        refine XS.aload X79.here hx rfl (hb hby at_35) rfl rfl ?_
        show Steps p.tables e below (T79.setTop (mkF m 37 #[.val (.int p0), .val (.int p1), .val (.int (1 : Int32)), .val (.int (0 : Int32)), .val (.ref wUNKNOWN), .val (.ref wFALSE), .val (.ref wUNKNOWN)] [(.ref wUNKNOWN)])) _
        refine XS.ifnonnullYes X79.here hx rfl (pc0 := 37) (pc' := 42) rfl (hb hby at_37) rfl (by decide) (by decide) ?_
        show Steps p.tables e below (T79.setTop (mkF m 42 #[.val (.int p0), .val (.int p1), .val (.int (1 : Int32)), .val (.int (0 : Int32)), .val (.ref wUNKNOWN), .val (.ref wFALSE), .val (.ref wUNKNOWN)] [])) _
        refine XS.aload X79.here hx rfl (hb hby at_42) rfl rfl ?_
        exact kt)
      rw [((by rw [f2, if_neg ((Fld.ne FUNKNOWN_ordinal FFALSE_ordinal (by decide)) : ¬ (wUNKNOWN = wFALSE)), if_pos (rfl : wUNKNOWN = wUNKNOWN)]) : (f2 wUNKNOWN wFALSE wTRUE wUNKNOWN) = (1 : Int32))] at hQ81
      obtain ⟨rfl, N81q, e81⟩ := hQ81
      have N81 := Fr.app N79 N81q
      obtain ⟨_, _, ⟨T83, L83, k83, n83⟩, -, X83, ⟨Lc83, hQ83, l83, y83, z83⟩, st83⟩ := Jvm.LawKit.callS X81 hx (y := (⟨"java/lang/Math", "max", "(II)I"⟩ : MethodName)) hown (mvT hZ (hw _ (List.mem_of_getElem? (i := 19) rfl))) (mvT hZ (hw _ (List.mem_of_getElem? (i := 20) rfl))) (mvT hZ (hw _ (List.mem_of_getElem? (i := 21) rfl))) (mvT hZ (hw _ (List.mem_of_getElem? (i := 22) rfl))) (by decide) (backOf (W := 1) (rm3 l Z a0 hw [] (1 : Int32) (0 : Int32) h0 n0 Z0 ) hZ (hw _ (List.mem_of_getElem? (i := 22) rfl)) (hw _ (List.mem_of_getElem? (i := 21) rfl)) (by decide) (by decide)) (g := (mkF m 49 #[.val (.int p0), .val (.int p1), .val (.int (1 : Int32)), .val (.int (0 : Int32)), .val (.ref wUNKNOWN), .val (.ref wFALSE), .val (.ref wUNKNOWN)] [(.int (0 : Int32)), (.int (1 : Int32)), (.int (1 : Int32))])) rfl (by rw [hml]; rfl) (argsL := [(.int (1 : Int32)), (.int (0 : Int32))]) (rest := [(.int (1 : Int32))]) (lenOf pd_3 rfl) rfl (by show 2 * 0 + _ ≤ _; exact Nat.le_of_eq rfl) (hb hby at_49) (fun _ _ => ⟨rfl, e81, (by decide : 0 + 0 ≤ _), (by decide : 0 + 0 ≤ _)⟩)
      dsimp only [Pt.U, Pt.locs, Pt.cells, Pt.slots] at X83 l83 y83 z83 st83 hQ83
      subst l83 y83 z83
      unfold Q3 at hQ83
      have k84 : ∀ t, Steps p.tables e below (T81.setTop (mkF m 49 #[.val (.int p0), .val (.int p1), .val (.int (1 : Int32)), .val (.int (0 : Int32)), .val (.ref wUNKNOWN), .val (.ref wFALSE), .val (.ref wUNKNOWN)] [(.int (0 : Int32)), (.int (1 : Int32)), (.int (1 : Int32))])) t → Steps p.tables e below (s₁.setTop (entryFrame m #[(.int p0), (.int p1)] maxLocals)) t := fun t kt => k82 t (by
        show Steps p.tables e below (T79.setTop (mkF m 44 #[.val (.int p0), .val (.int p1), .val (.int (1 : Int32)), .val (.int (0 : Int32)), .val (.ref wUNKNOWN), .val (.ref wFALSE), .val (.ref wUNKNOWN)] [(.ref wUNKNOWN)])) _
        refine st81 _ ?_
        show Steps p.tables e below (T81.setTop (mkF m 47 #[.val (.int p0), .val (.int p1), .val (.int (1 : Int32)), .val (.int (0 : Int32)), .val (.ref wUNKNOWN), .val (.ref wFALSE), .val (.ref wUNKNOWN)] [(.int (1 : Int32))])) _
        refine XS.iloadN X81.here hx rfl (hb hby at_47) rfl ?_
        show Steps p.tables e below (T81.setTop (mkF m 48 #[.val (.int p0), .val (.int p1), .val (.int (1 : Int32)), .val (.int (0 : Int32)), .val (.ref wUNKNOWN), .val (.ref wFALSE), .val (.ref wUNKNOWN)] [(.int (1 : Int32)), (.int (1 : Int32))])) _
        refine XS.iloadN X81.here hx rfl (hb hby at_48) rfl ?_
        exact kt)
      rw [((by rw [f3, if_neg ((by decide) : ¬ ((1 : Int32) < (0 : Int32)))]) : (f3 (1 : Int32) (0 : Int32)) = (1 : Int32))] at hQ83
      obtain ⟨rfl, N83q, e83⟩ := hQ83
      have N83 := Fr.app N81 N83q
      obtain ⟨fs, hr, hrun, hended, hW, hsame⟩ := X83.leave (v := some (.int (1 : Int32))) (fun h => by rw [Bd.returns] at h; cases h)
      refine ⟨_, _, k84 _ ?_, hrun, hended, _, _, rfl, ?_, ⟨_, rfl⟩, hW, hsame.mono (by decide) (by decide)⟩
      · show Steps p.tables e below (T81.setTop (mkF m 49 #[.val (.int p0), .val (.int p1), .val (.int (1 : Int32)), .val (.int (0 : Int32)), .val (.ref wUNKNOWN), .val (.ref wFALSE), .val (.ref wUNKNOWN)] [(.int (0 : Int32)), (.int (1 : Int32)), (.int (1 : Int32))])) _
        refine st83 _ ?_
        show Steps p.tables e below (T83.setTop (mkF m 52 #[.val (.int p0), .val (.int p1), .val (.int (1 : Int32)), .val (.int (0 : Int32)), .val (.ref wUNKNOWN), .val (.ref wFALSE), .val (.ref wUNKNOWN)] [(.int (1 : Int32)), (.int (1 : Int32))])) _
        refine XS.icmpNo X83.here hx rfl (hb hby at_52) rfl (teq (rfl : (1 : Int32) = (1 : Int32))).2 ?_
        show Steps p.tables e below (T83.setTop (mkF m 55 #[.val (.int p0), .val (.int p1), .val (.int (1 : Int32)), .val (.int (0 : Int32)), .val (.ref wUNKNOWN), .val (.ref wFALSE), .val (.ref wUNKNOWN)] [])) _
        refine XS.iconst X83.here hx rfl (hb hby at_55) ?_
        show Steps p.tables e below (T83.setTop (mkF m 56 #[.val (.int p0), .val (.int p1), .val (.int (1 : Int32)), .val (.int (0 : Int32)), .val (.ref wUNKNOWN), .val (.ref wFALSE), .val (.ref wUNKNOWN)] [(.int (1 : Int32))])) _
        refine XS.goto X83.here hx rfl (pc0 := 56) (pc' := 60) rfl (hb hby at_56) (by decide) (by decide) ?_
        show Steps p.tables e below (T83.setTop (mkF m 60 #[.val (.int p0), .val (.int p1), .val (.int (1 : Int32)), .val (.int (0 : Int32)), .val (.ref wUNKNOWN), .val (.ref wFALSE), .val (.ref wUNKNOWN)] [(.int (1 : Int32))])) _
        exact retN X83 hx (t := .boolean) Bd.returns (by simp) (hb hby at_60) hr
      · show Q0 Z p0 p1 wFALSE wTRUE wUNKNOWN h0 n0 _ T83.heap _
        rw [e83]
        exact ⟨rfl, N83⟩
    · subst hv74
      obtain ⟨_, _, ⟨T85, L85, k85, n85⟩, -, X85, ⟨Lc85, hQ85, l85, y85, z85⟩, st85⟩ := Jvm.LawKit.callS X0 hx (y := (⟨"com/example/ongoing_grant/ongoinggrant/policy/TruthOrPinLaw", "pick", "(I)Lcom/example/ongoing_grant/ongoinggrant/policy/Truth;"⟩ : MethodName)) hown (mvT hZ (hw _ (List.mem_of_getElem? (i := 1) rfl))) (mvT hZ (hw _ (List.mem_of_getElem? (i := 2) rfl))) (mvT hZ (hw _ (List.mem_of_getElem? (i := 3) rfl))) (mvT hZ (hw _ (List.mem_of_getElem? (i := 4) rfl))) (by decide) (backOf (W := 0) (rm1 l Z a0 hw [] (1 : Int32) wFALSE wTRUE wUNKNOWN h0 n0 Z0 W0 ) hZ (hw _ (List.mem_of_getElem? (i := 4) rfl)) (hw _ (List.mem_of_getElem? (i := 3) rfl)) (by decide) (by decide)) (g := (mkF m 15 #[.val (.int p0), .val (.int p1), .val (.int (1 : Int32)), .val (.int (1 : Int32)), .unset, .unset, .unset] [(.int (1 : Int32))])) rfl (by rw [hml]; rfl) (argsL := [(.int (1 : Int32))]) (rest := []) (lenOf pd_0 rfl) rfl (by show 2 * 0 + _ ≤ _; exact Nat.le_of_eq rfl) (hb hby at_15) (fun _ _ => ⟨rfl, e0, (by decide : 0 + 0 ≤ _), (by decide : 0 + 0 ≤ _)⟩)
      dsimp only [Pt.U, Pt.locs, Pt.cells, Pt.slots] at X85 l85 y85 z85 st85 hQ85
      subst l85 y85 z85
      unfold Q1 at hQ85
      have k86 : ∀ t, Steps p.tables e below (s₁.setTop (mkF m 15 #[.val (.int p0), .val (.int p1), .val (.int (1 : Int32)), .val (.int (1 : Int32)), .unset, .unset, .unset] [(.int (1 : Int32))])) t → Steps p.tables e below (s₁.setTop (entryFrame m #[(.int p0), (.int p1)] maxLocals)) t := fun t kt => k73 t (by
        show Steps p.tables e below (s₁.setTop (mkF m 14 #[.val (.int p0), .val (.int p1), .val (.int (1 : Int32)), .val (.int (1 : Int32)), .unset, .unset, .unset] [])) _
        refine XS.iloadN X0.here hx rfl (hb hby at_14) rfl ?_
        exact kt)
      rw [((by rw [f1, if_neg ((by decide) : ¬ ((1 : Int32) = (0 : Int32))), if_pos (rfl : (1 : Int32) = (1 : Int32))]) : (f1 (1 : Int32) wFALSE wTRUE wUNKNOWN) = wUNKNOWN)] at hQ85
      obtain ⟨rfl, N85q, e85⟩ := hQ85
      have N85 := Fr.app N0 N85q
      obtain ⟨_, _, ⟨T87, L87, k87, n87⟩, -, X87, ⟨Lc87, hQ87, l87, y87, z87⟩, st87⟩ := Jvm.LawKit.callS X85 hx (y := (⟨"com/example/ongoing_grant/ongoinggrant/policy/TruthOrPinLaw", "pick", "(I)Lcom/example/ongoing_grant/ongoinggrant/policy/Truth;"⟩ : MethodName)) hown (mvT hZ (hw _ (List.mem_of_getElem? (i := 1) rfl))) (mvT hZ (hw _ (List.mem_of_getElem? (i := 2) rfl))) (mvT hZ (hw _ (List.mem_of_getElem? (i := 3) rfl))) (mvT hZ (hw _ (List.mem_of_getElem? (i := 4) rfl))) (by decide) (backOf (W := 0) (rm1 l Z a0 hw [] (1 : Int32) wFALSE wTRUE wUNKNOWN h0 n0 Z0 W0 ) hZ (hw _ (List.mem_of_getElem? (i := 4) rfl)) (hw _ (List.mem_of_getElem? (i := 3) rfl)) (by decide) (by decide)) (g := (mkF m 21 #[.val (.int p0), .val (.int p1), .val (.int (1 : Int32)), .val (.int (1 : Int32)), .val (.ref wUNKNOWN), .unset, .unset] [(.int (1 : Int32))])) rfl (by rw [hml]; rfl) (argsL := [(.int (1 : Int32))]) (rest := []) (lenOf pd_0 rfl) rfl (by show 2 * 0 + _ ≤ _; exact Nat.le_of_eq rfl) (hb hby at_21) (fun _ _ => ⟨rfl, e85, (by decide : 0 + 0 ≤ _), (by decide : 0 + 0 ≤ _)⟩)
      dsimp only [Pt.U, Pt.locs, Pt.cells, Pt.slots] at X87 l87 y87 z87 st87 hQ87
      subst l87 y87 z87
      unfold Q1 at hQ87
      have k88 : ∀ t, Steps p.tables e below (T85.setTop (mkF m 21 #[.val (.int p0), .val (.int p1), .val (.int (1 : Int32)), .val (.int (1 : Int32)), .val (.ref wUNKNOWN), .unset, .unset] [(.int (1 : Int32))])) t → Steps p.tables e below (s₁.setTop (entryFrame m #[(.int p0), (.int p1)] maxLocals)) t := fun t kt => k86 t (by
        show Steps p.tables e below (s₁.setTop (mkF m 15 #[.val (.int p0), .val (.int p1), .val (.int (1 : Int32)), .val (.int (1 : Int32)), .unset, .unset, .unset] [(.int (1 : Int32))])) _
        refine st85 _ ?_
        show Steps p.tables e below (T85.setTop (mkF m 18 #[.val (.int p0), .val (.int p1), .val (.int (1 : Int32)), .val (.int (1 : Int32)), .unset, .unset, .unset] [(.ref wUNKNOWN)])) _
        refine XS.astore X85.here hx rfl (hb hby at_18) rfl rfl (l' := #[.val (.int p0), .val (.int p1), .val (.int (1 : Int32)), .val (.int (1 : Int32)), .val (.ref wUNKNOWN), .unset, .unset]) rfl ?_
        show Steps p.tables e below (T85.setTop (mkF m 20 #[.val (.int p0), .val (.int p1), .val (.int (1 : Int32)), .val (.int (1 : Int32)), .val (.ref wUNKNOWN), .unset, .unset] [])) _
        refine XS.iloadN X85.here hx rfl (hb hby at_20) rfl ?_
        exact kt)
      rw [((by rw [f1, if_neg ((by decide) : ¬ ((1 : Int32) = (0 : Int32))), if_pos (rfl : (1 : Int32) = (1 : Int32))]) : (f1 (1 : Int32) wFALSE wTRUE wUNKNOWN) = wUNKNOWN)] at hQ87
      obtain ⟨rfl, N87q, e87⟩ := hQ87
      have N87 := Fr.app N85 N87q
      obtain ⟨cq89, kq89, q89a, q89b, q89c⟩ := isOf hZ e87 EUNKNOWN
      obtain ⟨_, _, ⟨T89, L89, k89, n89⟩, -, X89, ⟨Lc89, hQ89, l89, y89, z89⟩, st89⟩ := X87.virtualBack hx (y := (⟨"com/example/ongoing_grant/ongoinggrant/policy/Truth", "or", "(Lcom/example/ongoing_grant/ongoinggrant/policy/Truth;)Lcom/example/ongoing_grant/ongoinggrant/policy/Truth;"⟩ : MethodName)) (z := (⟨"com/example/ongoing_grant/ongoinggrant/policy/Truth", "or", "(Lcom/example/ongoing_grant/ongoinggrant/policy/Truth;)Lcom/example/ongoing_grant/ongoinggrant/policy/Truth;"⟩ : MethodName)) hown (mvT hZ (hw _ (List.mem_of_getElem? (i := 8) rfl))) (mvT hZ (hw _ (List.mem_of_getElem? (i := 9) rfl))) (notFace_of_selects (args := #[]) (mvT hZ (hw _ (List.mem_of_getElem? (i := 11) rfl)))) (mvT hZ (hw _ (List.mem_of_getElem? (i := 11) rfl))) (mvT hZ (hw _ (List.mem_of_getElem? (i := 10) rfl))) (by decide) (backOf (W := 0) (rm4 l Z a0 hw [] wUNKNOWN wUNKNOWN wFALSE wTRUE wUNKNOWN h0 n0 Z0 W0 ) hZ (hw _ (List.mem_of_getElem? (i := 12) rfl)) (hw _ (List.mem_of_getElem? (i := 6) rfl)) (by decide) (by decide)) q89a q89c (g := (mkF m 30 #[.val (.int p0), .val (.int p1), .val (.int (1 : Int32)), .val (.int (1 : Int32)), .val (.ref wUNKNOWN), .val (.ref wUNKNOWN), .unset] [(.ref wUNKNOWN), (.ref wUNKNOWN)])) rfl (by rw [hml]; rfl) (Steps.refl _) (argsL := [(.ref wUNKNOWN)]) (rest := []) (lenOf pd_1 rfl) rfl (by show 2 * 0 + _ ≤ _; exact Nat.le_of_eq rfl) (hb hby at_30) (fun _ _ => ⟨rfl, e87, (by decide : 0 + 0 ≤ _), (by decide : 0 + 0 ≤ _)⟩)
      dsimp only [Pt.U, Pt.locs, Pt.cells, Pt.slots] at X89 l89 y89 z89 st89 hQ89
      subst l89 y89 z89
      unfold Q4 at hQ89
      have k90 : ∀ t, Steps p.tables e below (T87.setTop (mkF m 30 #[.val (.int p0), .val (.int p1), .val (.int (1 : Int32)), .val (.int (1 : Int32)), .val (.ref wUNKNOWN), .val (.ref wUNKNOWN), .unset] [(.ref wUNKNOWN), (.ref wUNKNOWN)])) t → Steps p.tables e below (s₁.setTop (entryFrame m #[(.int p0), (.int p1)] maxLocals)) t := fun t kt => k88 t (by
        show Steps p.tables e below (T85.setTop (mkF m 21 #[.val (.int p0), .val (.int p1), .val (.int (1 : Int32)), .val (.int (1 : Int32)), .val (.ref wUNKNOWN), .unset, .unset] [(.int (1 : Int32))])) _
        refine st87 _ ?_
        show Steps p.tables e below (T87.setTop (mkF m 24 #[.val (.int p0), .val (.int p1), .val (.int (1 : Int32)), .val (.int (1 : Int32)), .val (.ref wUNKNOWN), .unset, .unset] [(.ref wUNKNOWN)])) _
        refine XS.astore X87.here hx rfl (hb hby at_24) rfl rfl (l' := #[.val (.int p0), .val (.int p1), .val (.int (1 : Int32)), .val (.int (1 : Int32)), .val (.ref wUNKNOWN), .val (.ref wUNKNOWN), .unset]) rfl ?_
        show Steps p.tables e below (T87.setTop (mkF m 26 #[.val (.int p0), .val (.int p1), .val (.int (1 : Int32)), .val (.int (1 : Int32)), .val (.ref wUNKNOWN), .val (.ref wUNKNOWN), .unset] [])) _
        refine XS.aload X87.here hx rfl (hb hby at_26) rfl rfl ?_
        show Steps p.tables e below (T87.setTop (mkF m 28 #[.val (.int p0), .val (.int p1), .val (.int (1 : Int32)), .val (.int (1 : Int32)), .val (.ref wUNKNOWN), .val (.ref wUNKNOWN), .unset] [(.ref wUNKNOWN)])) _
        refine XS.aload X87.here hx rfl (hb hby at_28) rfl rfl ?_
        exact kt)
      rw [((by rw [f4, if_neg ((Fld.ne FUNKNOWN_ordinal FTRUE_ordinal (by decide)) : ¬ (wUNKNOWN = wTRUE)), if_neg ((Fld.ne FUNKNOWN_ordinal FTRUE_ordinal (by decide)) : ¬ (wUNKNOWN = wTRUE)), if_neg ((Fld.ne FUNKNOWN_ordinal FFALSE_ordinal (by decide)) : ¬ (wUNKNOWN = wFALSE))]) : (f4 wUNKNOWN wUNKNOWN wFALSE wTRUE wUNKNOWN) = wUNKNOWN)] at hQ89
      obtain ⟨rfl, N89q, e89⟩ := hQ89
      have N89 := Fr.app N87 N89q
      obtain ⟨_, _, ⟨T91, L91, k91, n91⟩, -, X91, ⟨Lc91, hQ91, l91, y91, z91⟩, st91⟩ := Jvm.LawKit.callS X89 hx (y := (⟨"com/example/ongoing_grant/ongoinggrant/policy/TruthOrPinLaw", "rank", "(Lcom/example/ongoing_grant/ongoinggrant/policy/Truth;)I"⟩ : MethodName)) hown (mvT hZ (hw _ (List.mem_of_getElem? (i := 16) rfl))) (mvT hZ (hw _ (List.mem_of_getElem? (i := 17) rfl))) (mvT hZ (hw _ (List.mem_of_getElem? (i := 3) rfl))) (mvT hZ (hw _ (List.mem_of_getElem? (i := 18) rfl))) (by decide) (backOf (W := 0) (rm2 l Z a0 hw [] wUNKNOWN wFALSE wTRUE wUNKNOWN h0 n0 Z0 W0 ) hZ (hw _ (List.mem_of_getElem? (i := 18) rfl)) (hw _ (List.mem_of_getElem? (i := 3) rfl)) (by decide) (by decide)) (g := (mkF m 44 #[.val (.int p0), .val (.int p1), .val (.int (1 : Int32)), .val (.int (1 : Int32)), .val (.ref wUNKNOWN), .val (.ref wUNKNOWN), .val (.ref wUNKNOWN)] [(.ref wUNKNOWN)])) rfl (by rw [hml]; rfl) (argsL := [(.ref wUNKNOWN)]) (rest := []) (lenOf pd_2 rfl) rfl (by show 2 * 0 + _ ≤ _; exact Nat.le_of_eq rfl) (hb hby at_44) (fun _ _ => ⟨rfl, e89, (by decide : 0 + 0 ≤ _), (by decide : 0 + 0 ≤ _)⟩)
      dsimp only [Pt.U, Pt.locs, Pt.cells, Pt.slots] at X91 l91 y91 z91 st91 hQ91
      subst l91 y91 z91
      unfold Q2 at hQ91
      have k92 : ∀ t, Steps p.tables e below (T89.setTop (mkF m 44 #[.val (.int p0), .val (.int p1), .val (.int (1 : Int32)), .val (.int (1 : Int32)), .val (.ref wUNKNOWN), .val (.ref wUNKNOWN), .val (.ref wUNKNOWN)] [(.ref wUNKNOWN)])) t → Steps p.tables e below (s₁.setTop (entryFrame m #[(.int p0), (.int p1)] maxLocals)) t := fun t kt => k90 t (by
        show Steps p.tables e below (T87.setTop (mkF m 30 #[.val (.int p0), .val (.int p1), .val (.int (1 : Int32)), .val (.int (1 : Int32)), .val (.ref wUNKNOWN), .val (.ref wUNKNOWN), .unset] [(.ref wUNKNOWN), (.ref wUNKNOWN)])) _
        refine st89.trans ?_
        show Steps p.tables e below (T89.setTop (mkF m 33 #[.val (.int p0), .val (.int p1), .val (.int (1 : Int32)), .val (.int (1 : Int32)), .val (.ref wUNKNOWN), .val (.ref wUNKNOWN), .unset] [(.ref wUNKNOWN)])) _
        refine XS.astore X89.here hx rfl (hb hby at_33) rfl rfl (l' := #[.val (.int p0), .val (.int p1), .val (.int (1 : Int32)), .val (.int (1 : Int32)), .val (.ref wUNKNOWN), .val (.ref wUNKNOWN), .val (.ref wUNKNOWN)]) rfl ?_
        show Steps p.tables e below (T89.setTop (mkF m 35 #[.val (.int p0), .val (.int p1), .val (.int (1 : Int32)), .val (.int (1 : Int32)), .val (.ref wUNKNOWN), .val (.ref wUNKNOWN), .val (.ref wUNKNOWN)] [])) _
        refine XS.aload X89.here hx rfl (hb hby at_35) rfl rfl ?_
        show Steps p.tables e below (T89.setTop (mkF m 37 #[.val (.int p0), .val (.int p1), .val (.int (1 : Int32)), .val (.int (1 : Int32)), .val (.ref wUNKNOWN), .val (.ref wUNKNOWN), .val (.ref wUNKNOWN)] [(.ref wUNKNOWN)])) _
        refine XS.ifnonnullYes X89.here hx rfl (pc0 := 37) (pc' := 42) rfl (hb hby at_37) rfl (by decide) (by decide) ?_
        show Steps p.tables e below (T89.setTop (mkF m 42 #[.val (.int p0), .val (.int p1), .val (.int (1 : Int32)), .val (.int (1 : Int32)), .val (.ref wUNKNOWN), .val (.ref wUNKNOWN), .val (.ref wUNKNOWN)] [])) _
        refine XS.aload X89.here hx rfl (hb hby at_42) rfl rfl ?_
        exact kt)
      rw [((by rw [f2, if_neg ((Fld.ne FUNKNOWN_ordinal FFALSE_ordinal (by decide)) : ¬ (wUNKNOWN = wFALSE)), if_pos (rfl : wUNKNOWN = wUNKNOWN)]) : (f2 wUNKNOWN wFALSE wTRUE wUNKNOWN) = (1 : Int32))] at hQ91
      obtain ⟨rfl, N91q, e91⟩ := hQ91
      have N91 := Fr.app N89 N91q
      obtain ⟨_, _, ⟨T93, L93, k93, n93⟩, -, X93, ⟨Lc93, hQ93, l93, y93, z93⟩, st93⟩ := Jvm.LawKit.callS X91 hx (y := (⟨"java/lang/Math", "max", "(II)I"⟩ : MethodName)) hown (mvT hZ (hw _ (List.mem_of_getElem? (i := 19) rfl))) (mvT hZ (hw _ (List.mem_of_getElem? (i := 20) rfl))) (mvT hZ (hw _ (List.mem_of_getElem? (i := 21) rfl))) (mvT hZ (hw _ (List.mem_of_getElem? (i := 22) rfl))) (by decide) (backOf (W := 1) (rm3 l Z a0 hw [] (1 : Int32) (1 : Int32) h0 n0 Z0 ) hZ (hw _ (List.mem_of_getElem? (i := 22) rfl)) (hw _ (List.mem_of_getElem? (i := 21) rfl)) (by decide) (by decide)) (g := (mkF m 49 #[.val (.int p0), .val (.int p1), .val (.int (1 : Int32)), .val (.int (1 : Int32)), .val (.ref wUNKNOWN), .val (.ref wUNKNOWN), .val (.ref wUNKNOWN)] [(.int (1 : Int32)), (.int (1 : Int32)), (.int (1 : Int32))])) rfl (by rw [hml]; rfl) (argsL := [(.int (1 : Int32)), (.int (1 : Int32))]) (rest := [(.int (1 : Int32))]) (lenOf pd_3 rfl) rfl (by show 2 * 0 + _ ≤ _; exact Nat.le_of_eq rfl) (hb hby at_49) (fun _ _ => ⟨rfl, e91, (by decide : 0 + 0 ≤ _), (by decide : 0 + 0 ≤ _)⟩)
      dsimp only [Pt.U, Pt.locs, Pt.cells, Pt.slots] at X93 l93 y93 z93 st93 hQ93
      subst l93 y93 z93
      unfold Q3 at hQ93
      have k94 : ∀ t, Steps p.tables e below (T91.setTop (mkF m 49 #[.val (.int p0), .val (.int p1), .val (.int (1 : Int32)), .val (.int (1 : Int32)), .val (.ref wUNKNOWN), .val (.ref wUNKNOWN), .val (.ref wUNKNOWN)] [(.int (1 : Int32)), (.int (1 : Int32)), (.int (1 : Int32))])) t → Steps p.tables e below (s₁.setTop (entryFrame m #[(.int p0), (.int p1)] maxLocals)) t := fun t kt => k92 t (by
        show Steps p.tables e below (T89.setTop (mkF m 44 #[.val (.int p0), .val (.int p1), .val (.int (1 : Int32)), .val (.int (1 : Int32)), .val (.ref wUNKNOWN), .val (.ref wUNKNOWN), .val (.ref wUNKNOWN)] [(.ref wUNKNOWN)])) _
        refine st91 _ ?_
        show Steps p.tables e below (T91.setTop (mkF m 47 #[.val (.int p0), .val (.int p1), .val (.int (1 : Int32)), .val (.int (1 : Int32)), .val (.ref wUNKNOWN), .val (.ref wUNKNOWN), .val (.ref wUNKNOWN)] [(.int (1 : Int32))])) _
        refine XS.iloadN X91.here hx rfl (hb hby at_47) rfl ?_
        show Steps p.tables e below (T91.setTop (mkF m 48 #[.val (.int p0), .val (.int p1), .val (.int (1 : Int32)), .val (.int (1 : Int32)), .val (.ref wUNKNOWN), .val (.ref wUNKNOWN), .val (.ref wUNKNOWN)] [(.int (1 : Int32)), (.int (1 : Int32))])) _
        refine XS.iloadN X91.here hx rfl (hb hby at_48) rfl ?_
        exact kt)
      rw [((by rw [f3, if_neg ((by first | exact Int32.lt_irrefl _ | decide) : ¬ ((1 : Int32) < (1 : Int32)))]) : (f3 (1 : Int32) (1 : Int32)) = (1 : Int32))] at hQ93
      obtain ⟨rfl, N93q, e93⟩ := hQ93
      have N93 := Fr.app N91 N93q
      obtain ⟨fs, hr, hrun, hended, hW, hsame⟩ := X93.leave (v := some (.int (1 : Int32))) (fun h => by rw [Bd.returns] at h; cases h)
      refine ⟨_, _, k94 _ ?_, hrun, hended, _, _, rfl, ?_, ⟨_, rfl⟩, hW, hsame.mono (by decide) (by decide)⟩
      · show Steps p.tables e below (T91.setTop (mkF m 49 #[.val (.int p0), .val (.int p1), .val (.int (1 : Int32)), .val (.int (1 : Int32)), .val (.ref wUNKNOWN), .val (.ref wUNKNOWN), .val (.ref wUNKNOWN)] [(.int (1 : Int32)), (.int (1 : Int32)), (.int (1 : Int32))])) _
        refine st93 _ ?_
        show Steps p.tables e below (T93.setTop (mkF m 52 #[.val (.int p0), .val (.int p1), .val (.int (1 : Int32)), .val (.int (1 : Int32)), .val (.ref wUNKNOWN), .val (.ref wUNKNOWN), .val (.ref wUNKNOWN)] [(.int (1 : Int32)), (.int (1 : Int32))])) _
        refine XS.icmpNo X93.here hx rfl (hb hby at_52) rfl (teq (rfl : (1 : Int32) = (1 : Int32))).2 ?_
        show Steps p.tables e below (T93.setTop (mkF m 55 #[.val (.int p0), .val (.int p1), .val (.int (1 : Int32)), .val (.int (1 : Int32)), .val (.ref wUNKNOWN), .val (.ref wUNKNOWN), .val (.ref wUNKNOWN)] [])) _
        refine XS.iconst X93.here hx rfl (hb hby at_55) ?_
        show Steps p.tables e below (T93.setTop (mkF m 56 #[.val (.int p0), .val (.int p1), .val (.int (1 : Int32)), .val (.int (1 : Int32)), .val (.ref wUNKNOWN), .val (.ref wUNKNOWN), .val (.ref wUNKNOWN)] [(.int (1 : Int32))])) _
        refine XS.goto X93.here hx rfl (pc0 := 56) (pc' := 60) rfl (hb hby at_56) (by decide) (by decide) ?_
        show Steps p.tables e below (T93.setTop (mkF m 60 #[.val (.int p0), .val (.int p1), .val (.int (1 : Int32)), .val (.int (1 : Int32)), .val (.ref wUNKNOWN), .val (.ref wUNKNOWN), .val (.ref wUNKNOWN)] [(.int (1 : Int32))])) _
        exact retN X93 hx (t := .boolean) Bd.returns (by simp) (hb hby at_60) hr
      · show Q0 Z p0 p1 wFALSE wTRUE wUNKNOWN h0 n0 _ T93.heap _
        rw [e93]
        exact ⟨rfl, N93⟩
    · subst hv74
      obtain ⟨_, _, ⟨T95, L95, k95, n95⟩, -, X95, ⟨Lc95, hQ95, l95, y95, z95⟩, st95⟩ := Jvm.LawKit.callS X0 hx (y := (⟨"com/example/ongoing_grant/ongoinggrant/policy/TruthOrPinLaw", "pick", "(I)Lcom/example/ongoing_grant/ongoinggrant/policy/Truth;"⟩ : MethodName)) hown (mvT hZ (hw _ (List.mem_of_getElem? (i := 1) rfl))) (mvT hZ (hw _ (List.mem_of_getElem? (i := 2) rfl))) (mvT hZ (hw _ (List.mem_of_getElem? (i := 3) rfl))) (mvT hZ (hw _ (List.mem_of_getElem? (i := 4) rfl))) (by decide) (backOf (W := 0) (rm1 l Z a0 hw [] (1 : Int32) wFALSE wTRUE wUNKNOWN h0 n0 Z0 W0 ) hZ (hw _ (List.mem_of_getElem? (i := 4) rfl)) (hw _ (List.mem_of_getElem? (i := 3) rfl)) (by decide) (by decide)) (g := (mkF m 15 #[.val (.int p0), .val (.int p1), .val (.int (1 : Int32)), .val (.int (2 : Int32)), .unset, .unset, .unset] [(.int (1 : Int32))])) rfl (by rw [hml]; rfl) (argsL := [(.int (1 : Int32))]) (rest := []) (lenOf pd_0 rfl) rfl (by show 2 * 0 + _ ≤ _; exact Nat.le_of_eq rfl) (hb hby at_15) (fun _ _ => ⟨rfl, e0, (by decide : 0 + 0 ≤ _), (by decide : 0 + 0 ≤ _)⟩)
      dsimp only [Pt.U, Pt.locs, Pt.cells, Pt.slots] at X95 l95 y95 z95 st95 hQ95
      subst l95 y95 z95
      unfold Q1 at hQ95
      have k96 : ∀ t, Steps p.tables e below (s₁.setTop (mkF m 15 #[.val (.int p0), .val (.int p1), .val (.int (1 : Int32)), .val (.int (2 : Int32)), .unset, .unset, .unset] [(.int (1 : Int32))])) t → Steps p.tables e below (s₁.setTop (entryFrame m #[(.int p0), (.int p1)] maxLocals)) t := fun t kt => k73 t (by
        show Steps p.tables e below (s₁.setTop (mkF m 14 #[.val (.int p0), .val (.int p1), .val (.int (1 : Int32)), .val (.int (2 : Int32)), .unset, .unset, .unset] [])) _
        refine XS.iloadN X0.here hx rfl (hb hby at_14) rfl ?_
        exact kt)
      rw [((by rw [f1, if_neg ((by decide) : ¬ ((1 : Int32) = (0 : Int32))), if_pos (rfl : (1 : Int32) = (1 : Int32))]) : (f1 (1 : Int32) wFALSE wTRUE wUNKNOWN) = wUNKNOWN)] at hQ95
      obtain ⟨rfl, N95q, e95⟩ := hQ95
      have N95 := Fr.app N0 N95q
      obtain ⟨_, _, ⟨T97, L97, k97, n97⟩, -, X97, ⟨Lc97, hQ97, l97, y97, z97⟩, st97⟩ := Jvm.LawKit.callS X95 hx (y := (⟨"com/example/ongoing_grant/ongoinggrant/policy/TruthOrPinLaw", "pick", "(I)Lcom/example/ongoing_grant/ongoinggrant/policy/Truth;"⟩ : MethodName)) hown (mvT hZ (hw _ (List.mem_of_getElem? (i := 1) rfl))) (mvT hZ (hw _ (List.mem_of_getElem? (i := 2) rfl))) (mvT hZ (hw _ (List.mem_of_getElem? (i := 3) rfl))) (mvT hZ (hw _ (List.mem_of_getElem? (i := 4) rfl))) (by decide) (backOf (W := 0) (rm1 l Z a0 hw [] (2 : Int32) wFALSE wTRUE wUNKNOWN h0 n0 Z0 W0 ) hZ (hw _ (List.mem_of_getElem? (i := 4) rfl)) (hw _ (List.mem_of_getElem? (i := 3) rfl)) (by decide) (by decide)) (g := (mkF m 21 #[.val (.int p0), .val (.int p1), .val (.int (1 : Int32)), .val (.int (2 : Int32)), .val (.ref wUNKNOWN), .unset, .unset] [(.int (2 : Int32))])) rfl (by rw [hml]; rfl) (argsL := [(.int (2 : Int32))]) (rest := []) (lenOf pd_0 rfl) rfl (by show 2 * 0 + _ ≤ _; exact Nat.le_of_eq rfl) (hb hby at_21) (fun _ _ => ⟨rfl, e95, (by decide : 0 + 0 ≤ _), (by decide : 0 + 0 ≤ _)⟩)
      dsimp only [Pt.U, Pt.locs, Pt.cells, Pt.slots] at X97 l97 y97 z97 st97 hQ97
      subst l97 y97 z97
      unfold Q1 at hQ97
      have k98 : ∀ t, Steps p.tables e below (T95.setTop (mkF m 21 #[.val (.int p0), .val (.int p1), .val (.int (1 : Int32)), .val (.int (2 : Int32)), .val (.ref wUNKNOWN), .unset, .unset] [(.int (2 : Int32))])) t → Steps p.tables e below (s₁.setTop (entryFrame m #[(.int p0), (.int p1)] maxLocals)) t := fun t kt => k96 t (by
        show Steps p.tables e below (s₁.setTop (mkF m 15 #[.val (.int p0), .val (.int p1), .val (.int (1 : Int32)), .val (.int (2 : Int32)), .unset, .unset, .unset] [(.int (1 : Int32))])) _
        refine st95 _ ?_
        show Steps p.tables e below (T95.setTop (mkF m 18 #[.val (.int p0), .val (.int p1), .val (.int (1 : Int32)), .val (.int (2 : Int32)), .unset, .unset, .unset] [(.ref wUNKNOWN)])) _
        refine XS.astore X95.here hx rfl (hb hby at_18) rfl rfl (l' := #[.val (.int p0), .val (.int p1), .val (.int (1 : Int32)), .val (.int (2 : Int32)), .val (.ref wUNKNOWN), .unset, .unset]) rfl ?_
        show Steps p.tables e below (T95.setTop (mkF m 20 #[.val (.int p0), .val (.int p1), .val (.int (1 : Int32)), .val (.int (2 : Int32)), .val (.ref wUNKNOWN), .unset, .unset] [])) _
        refine XS.iloadN X95.here hx rfl (hb hby at_20) rfl ?_
        exact kt)
      rw [((by rw [f1, if_neg ((by decide) : ¬ ((2 : Int32) = (0 : Int32))), if_neg ((by decide) : ¬ ((2 : Int32) = (1 : Int32)))]) : (f1 (2 : Int32) wFALSE wTRUE wUNKNOWN) = wTRUE)] at hQ97
      obtain ⟨rfl, N97q, e97⟩ := hQ97
      have N97 := Fr.app N95 N97q
      obtain ⟨cq99, kq99, q99a, q99b, q99c⟩ := isOf hZ e97 EUNKNOWN
      obtain ⟨_, _, ⟨T99, L99, k99, n99⟩, -, X99, ⟨Lc99, hQ99, l99, y99, z99⟩, st99⟩ := X97.virtualBack hx (y := (⟨"com/example/ongoing_grant/ongoinggrant/policy/Truth", "or", "(Lcom/example/ongoing_grant/ongoinggrant/policy/Truth;)Lcom/example/ongoing_grant/ongoinggrant/policy/Truth;"⟩ : MethodName)) (z := (⟨"com/example/ongoing_grant/ongoinggrant/policy/Truth", "or", "(Lcom/example/ongoing_grant/ongoinggrant/policy/Truth;)Lcom/example/ongoing_grant/ongoinggrant/policy/Truth;"⟩ : MethodName)) hown (mvT hZ (hw _ (List.mem_of_getElem? (i := 8) rfl))) (mvT hZ (hw _ (List.mem_of_getElem? (i := 9) rfl))) (notFace_of_selects (args := #[]) (mvT hZ (hw _ (List.mem_of_getElem? (i := 11) rfl)))) (mvT hZ (hw _ (List.mem_of_getElem? (i := 11) rfl))) (mvT hZ (hw _ (List.mem_of_getElem? (i := 10) rfl))) (by decide) (backOf (W := 0) (rm4 l Z a0 hw [] wUNKNOWN wTRUE wFALSE wTRUE wUNKNOWN h0 n0 Z0 W0 ) hZ (hw _ (List.mem_of_getElem? (i := 12) rfl)) (hw _ (List.mem_of_getElem? (i := 6) rfl)) (by decide) (by decide)) q99a q99c (g := (mkF m 30 #[.val (.int p0), .val (.int p1), .val (.int (1 : Int32)), .val (.int (2 : Int32)), .val (.ref wUNKNOWN), .val (.ref wTRUE), .unset] [(.ref wTRUE), (.ref wUNKNOWN)])) rfl (by rw [hml]; rfl) (Steps.refl _) (argsL := [(.ref wTRUE)]) (rest := []) (lenOf pd_1 rfl) rfl (by show 2 * 0 + _ ≤ _; exact Nat.le_of_eq rfl) (hb hby at_30) (fun _ _ => ⟨rfl, e97, (by decide : 0 + 0 ≤ _), (by decide : 0 + 0 ≤ _)⟩)
      dsimp only [Pt.U, Pt.locs, Pt.cells, Pt.slots] at X99 l99 y99 z99 st99 hQ99
      subst l99 y99 z99
      unfold Q4 at hQ99
      have k100 : ∀ t, Steps p.tables e below (T97.setTop (mkF m 30 #[.val (.int p0), .val (.int p1), .val (.int (1 : Int32)), .val (.int (2 : Int32)), .val (.ref wUNKNOWN), .val (.ref wTRUE), .unset] [(.ref wTRUE), (.ref wUNKNOWN)])) t → Steps p.tables e below (s₁.setTop (entryFrame m #[(.int p0), (.int p1)] maxLocals)) t := fun t kt => k98 t (by
        show Steps p.tables e below (T95.setTop (mkF m 21 #[.val (.int p0), .val (.int p1), .val (.int (1 : Int32)), .val (.int (2 : Int32)), .val (.ref wUNKNOWN), .unset, .unset] [(.int (2 : Int32))])) _
        refine st97 _ ?_
        show Steps p.tables e below (T97.setTop (mkF m 24 #[.val (.int p0), .val (.int p1), .val (.int (1 : Int32)), .val (.int (2 : Int32)), .val (.ref wUNKNOWN), .unset, .unset] [(.ref wTRUE)])) _
        refine XS.astore X97.here hx rfl (hb hby at_24) rfl rfl (l' := #[.val (.int p0), .val (.int p1), .val (.int (1 : Int32)), .val (.int (2 : Int32)), .val (.ref wUNKNOWN), .val (.ref wTRUE), .unset]) rfl ?_
        show Steps p.tables e below (T97.setTop (mkF m 26 #[.val (.int p0), .val (.int p1), .val (.int (1 : Int32)), .val (.int (2 : Int32)), .val (.ref wUNKNOWN), .val (.ref wTRUE), .unset] [])) _
        refine XS.aload X97.here hx rfl (hb hby at_26) rfl rfl ?_
        show Steps p.tables e below (T97.setTop (mkF m 28 #[.val (.int p0), .val (.int p1), .val (.int (1 : Int32)), .val (.int (2 : Int32)), .val (.ref wUNKNOWN), .val (.ref wTRUE), .unset] [(.ref wUNKNOWN)])) _
        refine XS.aload X97.here hx rfl (hb hby at_28) rfl rfl ?_
        exact kt)
      rw [((by rw [f4, if_neg ((Fld.ne FUNKNOWN_ordinal FTRUE_ordinal (by decide)) : ¬ (wUNKNOWN = wTRUE)), if_pos (rfl : wTRUE = wTRUE)]) : (f4 wUNKNOWN wTRUE wFALSE wTRUE wUNKNOWN) = wTRUE)] at hQ99
      obtain ⟨rfl, N99q, e99⟩ := hQ99
      have N99 := Fr.app N97 N99q
      obtain ⟨_, _, ⟨T101, L101, k101, n101⟩, -, X101, ⟨Lc101, hQ101, l101, y101, z101⟩, st101⟩ := Jvm.LawKit.callS X99 hx (y := (⟨"com/example/ongoing_grant/ongoinggrant/policy/TruthOrPinLaw", "rank", "(Lcom/example/ongoing_grant/ongoinggrant/policy/Truth;)I"⟩ : MethodName)) hown (mvT hZ (hw _ (List.mem_of_getElem? (i := 16) rfl))) (mvT hZ (hw _ (List.mem_of_getElem? (i := 17) rfl))) (mvT hZ (hw _ (List.mem_of_getElem? (i := 3) rfl))) (mvT hZ (hw _ (List.mem_of_getElem? (i := 18) rfl))) (by decide) (backOf (W := 0) (rm2 l Z a0 hw [] wTRUE wFALSE wTRUE wUNKNOWN h0 n0 Z0 W0 ) hZ (hw _ (List.mem_of_getElem? (i := 18) rfl)) (hw _ (List.mem_of_getElem? (i := 3) rfl)) (by decide) (by decide)) (g := (mkF m 44 #[.val (.int p0), .val (.int p1), .val (.int (1 : Int32)), .val (.int (2 : Int32)), .val (.ref wUNKNOWN), .val (.ref wTRUE), .val (.ref wTRUE)] [(.ref wTRUE)])) rfl (by rw [hml]; rfl) (argsL := [(.ref wTRUE)]) (rest := []) (lenOf pd_2 rfl) rfl (by show 2 * 0 + _ ≤ _; exact Nat.le_of_eq rfl) (hb hby at_44) (fun _ _ => ⟨rfl, e99, (by decide : 0 + 0 ≤ _), (by decide : 0 + 0 ≤ _)⟩)
      dsimp only [Pt.U, Pt.locs, Pt.cells, Pt.slots] at X101 l101 y101 z101 st101 hQ101
      subst l101 y101 z101
      unfold Q2 at hQ101
      have k102 : ∀ t, Steps p.tables e below (T99.setTop (mkF m 44 #[.val (.int p0), .val (.int p1), .val (.int (1 : Int32)), .val (.int (2 : Int32)), .val (.ref wUNKNOWN), .val (.ref wTRUE), .val (.ref wTRUE)] [(.ref wTRUE)])) t → Steps p.tables e below (s₁.setTop (entryFrame m #[(.int p0), (.int p1)] maxLocals)) t := fun t kt => k100 t (by
        show Steps p.tables e below (T97.setTop (mkF m 30 #[.val (.int p0), .val (.int p1), .val (.int (1 : Int32)), .val (.int (2 : Int32)), .val (.ref wUNKNOWN), .val (.ref wTRUE), .unset] [(.ref wTRUE), (.ref wUNKNOWN)])) _
        refine st99.trans ?_
        show Steps p.tables e below (T99.setTop (mkF m 33 #[.val (.int p0), .val (.int p1), .val (.int (1 : Int32)), .val (.int (2 : Int32)), .val (.ref wUNKNOWN), .val (.ref wTRUE), .unset] [(.ref wTRUE)])) _
        refine XS.astore X99.here hx rfl (hb hby at_33) rfl rfl (l' := #[.val (.int p0), .val (.int p1), .val (.int (1 : Int32)), .val (.int (2 : Int32)), .val (.ref wUNKNOWN), .val (.ref wTRUE), .val (.ref wTRUE)]) rfl ?_
        show Steps p.tables e below (T99.setTop (mkF m 35 #[.val (.int p0), .val (.int p1), .val (.int (1 : Int32)), .val (.int (2 : Int32)), .val (.ref wUNKNOWN), .val (.ref wTRUE), .val (.ref wTRUE)] [])) _
        refine XS.aload X99.here hx rfl (hb hby at_35) rfl rfl ?_
        show Steps p.tables e below (T99.setTop (mkF m 37 #[.val (.int p0), .val (.int p1), .val (.int (1 : Int32)), .val (.int (2 : Int32)), .val (.ref wUNKNOWN), .val (.ref wTRUE), .val (.ref wTRUE)] [(.ref wTRUE)])) _
        refine XS.ifnonnullYes X99.here hx rfl (pc0 := 37) (pc' := 42) rfl (hb hby at_37) rfl (by decide) (by decide) ?_
        show Steps p.tables e below (T99.setTop (mkF m 42 #[.val (.int p0), .val (.int p1), .val (.int (1 : Int32)), .val (.int (2 : Int32)), .val (.ref wUNKNOWN), .val (.ref wTRUE), .val (.ref wTRUE)] [])) _
        refine XS.aload X99.here hx rfl (hb hby at_42) rfl rfl ?_
        exact kt)
      rw [((by rw [f2, if_neg ((Fld.ne FTRUE_ordinal FFALSE_ordinal (by decide)) : ¬ (wTRUE = wFALSE)), if_neg ((Fld.ne FTRUE_ordinal FUNKNOWN_ordinal (by decide)) : ¬ (wTRUE = wUNKNOWN)), if_pos (rfl : wTRUE = wTRUE)]) : (f2 wTRUE wFALSE wTRUE wUNKNOWN) = (2 : Int32))] at hQ101
      obtain ⟨rfl, N101q, e101⟩ := hQ101
      have N101 := Fr.app N99 N101q
      obtain ⟨_, _, ⟨T103, L103, k103, n103⟩, -, X103, ⟨Lc103, hQ103, l103, y103, z103⟩, st103⟩ := Jvm.LawKit.callS X101 hx (y := (⟨"java/lang/Math", "max", "(II)I"⟩ : MethodName)) hown (mvT hZ (hw _ (List.mem_of_getElem? (i := 19) rfl))) (mvT hZ (hw _ (List.mem_of_getElem? (i := 20) rfl))) (mvT hZ (hw _ (List.mem_of_getElem? (i := 21) rfl))) (mvT hZ (hw _ (List.mem_of_getElem? (i := 22) rfl))) (by decide) (backOf (W := 1) (rm3 l Z a0 hw [] (1 : Int32) (2 : Int32) h0 n0 Z0 ) hZ (hw _ (List.mem_of_getElem? (i := 22) rfl)) (hw _ (List.mem_of_getElem? (i := 21) rfl)) (by decide) (by decide)) (g := (mkF m 49 #[.val (.int p0), .val (.int p1), .val (.int (1 : Int32)), .val (.int (2 : Int32)), .val (.ref wUNKNOWN), .val (.ref wTRUE), .val (.ref wTRUE)] [(.int (2 : Int32)), (.int (1 : Int32)), (.int (2 : Int32))])) rfl (by rw [hml]; rfl) (argsL := [(.int (1 : Int32)), (.int (2 : Int32))]) (rest := [(.int (2 : Int32))]) (lenOf pd_3 rfl) rfl (by show 2 * 0 + _ ≤ _; exact Nat.le_of_eq rfl) (hb hby at_49) (fun _ _ => ⟨rfl, e101, (by decide : 0 + 0 ≤ _), (by decide : 0 + 0 ≤ _)⟩)
      dsimp only [Pt.U, Pt.locs, Pt.cells, Pt.slots] at X103 l103 y103 z103 st103 hQ103
      subst l103 y103 z103
      unfold Q3 at hQ103
      have k104 : ∀ t, Steps p.tables e below (T101.setTop (mkF m 49 #[.val (.int p0), .val (.int p1), .val (.int (1 : Int32)), .val (.int (2 : Int32)), .val (.ref wUNKNOWN), .val (.ref wTRUE), .val (.ref wTRUE)] [(.int (2 : Int32)), (.int (1 : Int32)), (.int (2 : Int32))])) t → Steps p.tables e below (s₁.setTop (entryFrame m #[(.int p0), (.int p1)] maxLocals)) t := fun t kt => k102 t (by
        show Steps p.tables e below (T99.setTop (mkF m 44 #[.val (.int p0), .val (.int p1), .val (.int (1 : Int32)), .val (.int (2 : Int32)), .val (.ref wUNKNOWN), .val (.ref wTRUE), .val (.ref wTRUE)] [(.ref wTRUE)])) _
        refine st101 _ ?_
        show Steps p.tables e below (T101.setTop (mkF m 47 #[.val (.int p0), .val (.int p1), .val (.int (1 : Int32)), .val (.int (2 : Int32)), .val (.ref wUNKNOWN), .val (.ref wTRUE), .val (.ref wTRUE)] [(.int (2 : Int32))])) _
        refine XS.iloadN X101.here hx rfl (hb hby at_47) rfl ?_
        show Steps p.tables e below (T101.setTop (mkF m 48 #[.val (.int p0), .val (.int p1), .val (.int (1 : Int32)), .val (.int (2 : Int32)), .val (.ref wUNKNOWN), .val (.ref wTRUE), .val (.ref wTRUE)] [(.int (1 : Int32)), (.int (2 : Int32))])) _
        refine XS.iloadN X101.here hx rfl (hb hby at_48) rfl ?_
        exact kt)
      rw [((by rw [f3, if_pos ((by decide) : (1 : Int32) < (2 : Int32))]) : (f3 (1 : Int32) (2 : Int32)) = (2 : Int32))] at hQ103
      obtain ⟨rfl, N103q, e103⟩ := hQ103
      have N103 := Fr.app N101 N103q
      obtain ⟨fs, hr, hrun, hended, hW, hsame⟩ := X103.leave (v := some (.int (1 : Int32))) (fun h => by rw [Bd.returns] at h; cases h)
      refine ⟨_, _, k104 _ ?_, hrun, hended, _, _, rfl, ?_, ⟨_, rfl⟩, hW, hsame.mono (by decide) (by decide)⟩
      · show Steps p.tables e below (T101.setTop (mkF m 49 #[.val (.int p0), .val (.int p1), .val (.int (1 : Int32)), .val (.int (2 : Int32)), .val (.ref wUNKNOWN), .val (.ref wTRUE), .val (.ref wTRUE)] [(.int (2 : Int32)), (.int (1 : Int32)), (.int (2 : Int32))])) _
        refine st103 _ ?_
        show Steps p.tables e below (T103.setTop (mkF m 52 #[.val (.int p0), .val (.int p1), .val (.int (1 : Int32)), .val (.int (2 : Int32)), .val (.ref wUNKNOWN), .val (.ref wTRUE), .val (.ref wTRUE)] [(.int (2 : Int32)), (.int (2 : Int32))])) _
        refine XS.icmpNo X103.here hx rfl (hb hby at_52) rfl (teq (rfl : (2 : Int32) = (2 : Int32))).2 ?_
        show Steps p.tables e below (T103.setTop (mkF m 55 #[.val (.int p0), .val (.int p1), .val (.int (1 : Int32)), .val (.int (2 : Int32)), .val (.ref wUNKNOWN), .val (.ref wTRUE), .val (.ref wTRUE)] [])) _
        refine XS.iconst X103.here hx rfl (hb hby at_55) ?_
        show Steps p.tables e below (T103.setTop (mkF m 56 #[.val (.int p0), .val (.int p1), .val (.int (1 : Int32)), .val (.int (2 : Int32)), .val (.ref wUNKNOWN), .val (.ref wTRUE), .val (.ref wTRUE)] [(.int (1 : Int32))])) _
        refine XS.goto X103.here hx rfl (pc0 := 56) (pc' := 60) rfl (hb hby at_56) (by decide) (by decide) ?_
        show Steps p.tables e below (T103.setTop (mkF m 60 #[.val (.int p0), .val (.int p1), .val (.int (1 : Int32)), .val (.int (2 : Int32)), .val (.ref wUNKNOWN), .val (.ref wTRUE), .val (.ref wTRUE)] [(.int (1 : Int32))])) _
        exact retN X103 hx (t := .boolean) Bd.returns (by simp) (hb hby at_60) hr
      · show Q0 Z p0 p1 wFALSE wTRUE wUNKNOWN h0 n0 _ T103.heap _
        rw [e103]
        exact ⟨rfl, N103⟩
  · subst hv38
    obtain ⟨i105, hi105⟩ : ∃ z, z = ((p1 &&& (2147483647 : Int32)) % (3 : Int32)) := ⟨_, rfl⟩
    have k106 : ∀ t, Steps p.tables e below (s₁.setTop (mkF m 14 #[.val (.int p0), .val (.int p1), .val (.int (2 : Int32)), .val (.int i105), .unset, .unset, .unset] [])) t → Steps p.tables e below (s₁.setTop (entryFrame m #[(.int p0), (.int p1)] maxLocals)) t := fun t kt => k37 t (by
      show Steps p.tables e below (s₁.setTop (mkF m 7 #[.val (.int p0), .val (.int p1), .val (.int (2 : Int32)), .unset, .unset, .unset, .unset] [])) _
      refine XS.iloadN X0.here hx rfl (hb hby at_7) rfl ?_
      show Steps p.tables e below (s₁.setTop (mkF m 8 #[.val (.int p0), .val (.int p1), .val (.int (2 : Int32)), .unset, .unset, .unset, .unset] [(.int p1)])) _
      refine X0.ldcInt hx hown (mvT hZ (hw _ (List.mem_of_getElem? (i := 0) rfl))) (g := (mkF m 8 #[.val (.int p0), .val (.int p1), .val (.int (2 : Int32)), .unset, .unset, .unset, .unset] [(.int p1)])) rfl (hb hby at_8) _ ?_
      show Steps p.tables e below (s₁.setTop (mkF m 10 #[.val (.int p0), .val (.int p1), .val (.int (2 : Int32)), .unset, .unset, .unset, .unset] [(.int (2147483647 : Int32)), (.int p1)])) _
      refine XS.iand X0.here hx rfl (hb hby at_10) rfl ?_
      show Steps p.tables e below (s₁.setTop (mkF m 11 #[.val (.int p0), .val (.int p1), .val (.int (2 : Int32)), .unset, .unset, .unset, .unset] [(.int (p1 &&& (2147483647 : Int32)))])) _
      refine XS.iconst X0.here hx rfl (hb hby at_11) ?_
      show Steps p.tables e below (s₁.setTop (mkF m 12 #[.val (.int p0), .val (.int p1), .val (.int (2 : Int32)), .unset, .unset, .unset, .unset] [(.int (3 : Int32)), (.int (p1 &&& (2147483647 : Int32)))])) _
      refine iremM X0 hx rfl (hb hby at_12) rfl (by decide) ?_
      rw [← hi105]
      show Steps p.tables e below (s₁.setTop (mkF m 13 #[.val (.int p0), .val (.int p1), .val (.int (2 : Int32)), .unset, .unset, .unset, .unset] [(.int i105)])) _
      refine XS.istoreN X0.here hx rfl (hb hby at_13) rfl (l' := #[.val (.int p0), .val (.int p1), .val (.int (2 : Int32)), .val (.int i105), .unset, .unset, .unset]) rfl ?_
      exact kt)
    rcases own_cases3 hi105 with hv107 | hv107 | hv107
    · subst hv107
      obtain ⟨_, _, ⟨T108, L108, k108, n108⟩, -, X108, ⟨Lc108, hQ108, l108, y108, z108⟩, st108⟩ := Jvm.LawKit.callS X0 hx (y := (⟨"com/example/ongoing_grant/ongoinggrant/policy/TruthOrPinLaw", "pick", "(I)Lcom/example/ongoing_grant/ongoinggrant/policy/Truth;"⟩ : MethodName)) hown (mvT hZ (hw _ (List.mem_of_getElem? (i := 1) rfl))) (mvT hZ (hw _ (List.mem_of_getElem? (i := 2) rfl))) (mvT hZ (hw _ (List.mem_of_getElem? (i := 3) rfl))) (mvT hZ (hw _ (List.mem_of_getElem? (i := 4) rfl))) (by decide) (backOf (W := 0) (rm1 l Z a0 hw [] (2 : Int32) wFALSE wTRUE wUNKNOWN h0 n0 Z0 W0 ) hZ (hw _ (List.mem_of_getElem? (i := 4) rfl)) (hw _ (List.mem_of_getElem? (i := 3) rfl)) (by decide) (by decide)) (g := (mkF m 15 #[.val (.int p0), .val (.int p1), .val (.int (2 : Int32)), .val (.int (0 : Int32)), .unset, .unset, .unset] [(.int (2 : Int32))])) rfl (by rw [hml]; rfl) (argsL := [(.int (2 : Int32))]) (rest := []) (lenOf pd_0 rfl) rfl (by show 2 * 0 + _ ≤ _; exact Nat.le_of_eq rfl) (hb hby at_15) (fun _ _ => ⟨rfl, e0, (by decide : 0 + 0 ≤ _), (by decide : 0 + 0 ≤ _)⟩)
      dsimp only [Pt.U, Pt.locs, Pt.cells, Pt.slots] at X108 l108 y108 z108 st108 hQ108
      subst l108 y108 z108
      unfold Q1 at hQ108
      have k109 : ∀ t, Steps p.tables e below (s₁.setTop (mkF m 15 #[.val (.int p0), .val (.int p1), .val (.int (2 : Int32)), .val (.int (0 : Int32)), .unset, .unset, .unset] [(.int (2 : Int32))])) t → Steps p.tables e below (s₁.setTop (entryFrame m #[(.int p0), (.int p1)] maxLocals)) t := fun t kt => k106 t (by
        show Steps p.tables e below (s₁.setTop (mkF m 14 #[.val (.int p0), .val (.int p1), .val (.int (2 : Int32)), .val (.int (0 : Int32)), .unset, .unset, .unset] [])) _
        refine XS.iloadN X0.here hx rfl (hb hby at_14) rfl ?_
        exact kt)
      rw [((by rw [f1, if_neg ((by decide) : ¬ ((2 : Int32) = (0 : Int32))), if_neg ((by decide) : ¬ ((2 : Int32) = (1 : Int32)))]) : (f1 (2 : Int32) wFALSE wTRUE wUNKNOWN) = wTRUE)] at hQ108
      obtain ⟨rfl, N108q, e108⟩ := hQ108
      have N108 := Fr.app N0 N108q
      obtain ⟨_, _, ⟨T110, L110, k110, n110⟩, -, X110, ⟨Lc110, hQ110, l110, y110, z110⟩, st110⟩ := Jvm.LawKit.callS X108 hx (y := (⟨"com/example/ongoing_grant/ongoinggrant/policy/TruthOrPinLaw", "pick", "(I)Lcom/example/ongoing_grant/ongoinggrant/policy/Truth;"⟩ : MethodName)) hown (mvT hZ (hw _ (List.mem_of_getElem? (i := 1) rfl))) (mvT hZ (hw _ (List.mem_of_getElem? (i := 2) rfl))) (mvT hZ (hw _ (List.mem_of_getElem? (i := 3) rfl))) (mvT hZ (hw _ (List.mem_of_getElem? (i := 4) rfl))) (by decide) (backOf (W := 0) (rm1 l Z a0 hw [] (0 : Int32) wFALSE wTRUE wUNKNOWN h0 n0 Z0 W0 ) hZ (hw _ (List.mem_of_getElem? (i := 4) rfl)) (hw _ (List.mem_of_getElem? (i := 3) rfl)) (by decide) (by decide)) (g := (mkF m 21 #[.val (.int p0), .val (.int p1), .val (.int (2 : Int32)), .val (.int (0 : Int32)), .val (.ref wTRUE), .unset, .unset] [(.int (0 : Int32))])) rfl (by rw [hml]; rfl) (argsL := [(.int (0 : Int32))]) (rest := []) (lenOf pd_0 rfl) rfl (by show 2 * 0 + _ ≤ _; exact Nat.le_of_eq rfl) (hb hby at_21) (fun _ _ => ⟨rfl, e108, (by decide : 0 + 0 ≤ _), (by decide : 0 + 0 ≤ _)⟩)
      dsimp only [Pt.U, Pt.locs, Pt.cells, Pt.slots] at X110 l110 y110 z110 st110 hQ110
      subst l110 y110 z110
      unfold Q1 at hQ110
      have k111 : ∀ t, Steps p.tables e below (T108.setTop (mkF m 21 #[.val (.int p0), .val (.int p1), .val (.int (2 : Int32)), .val (.int (0 : Int32)), .val (.ref wTRUE), .unset, .unset] [(.int (0 : Int32))])) t → Steps p.tables e below (s₁.setTop (entryFrame m #[(.int p0), (.int p1)] maxLocals)) t := fun t kt => k109 t (by
        show Steps p.tables e below (s₁.setTop (mkF m 15 #[.val (.int p0), .val (.int p1), .val (.int (2 : Int32)), .val (.int (0 : Int32)), .unset, .unset, .unset] [(.int (2 : Int32))])) _
        refine st108 _ ?_
        show Steps p.tables e below (T108.setTop (mkF m 18 #[.val (.int p0), .val (.int p1), .val (.int (2 : Int32)), .val (.int (0 : Int32)), .unset, .unset, .unset] [(.ref wTRUE)])) _
        refine XS.astore X108.here hx rfl (hb hby at_18) rfl rfl (l' := #[.val (.int p0), .val (.int p1), .val (.int (2 : Int32)), .val (.int (0 : Int32)), .val (.ref wTRUE), .unset, .unset]) rfl ?_
        show Steps p.tables e below (T108.setTop (mkF m 20 #[.val (.int p0), .val (.int p1), .val (.int (2 : Int32)), .val (.int (0 : Int32)), .val (.ref wTRUE), .unset, .unset] [])) _
        refine XS.iloadN X108.here hx rfl (hb hby at_20) rfl ?_
        exact kt)
      rw [((by rw [f1, if_pos (rfl : (0 : Int32) = (0 : Int32))]) : (f1 (0 : Int32) wFALSE wTRUE wUNKNOWN) = wFALSE)] at hQ110
      obtain ⟨rfl, N110q, e110⟩ := hQ110
      have N110 := Fr.app N108 N110q
      obtain ⟨cq112, kq112, q112a, q112b, q112c⟩ := isOf hZ e110 ETRUE
      obtain ⟨_, _, ⟨T112, L112, k112, n112⟩, -, X112, ⟨Lc112, hQ112, l112, y112, z112⟩, st112⟩ := X110.virtualBack hx (y := (⟨"com/example/ongoing_grant/ongoinggrant/policy/Truth", "or", "(Lcom/example/ongoing_grant/ongoinggrant/policy/Truth;)Lcom/example/ongoing_grant/ongoinggrant/policy/Truth;"⟩ : MethodName)) (z := (⟨"com/example/ongoing_grant/ongoinggrant/policy/Truth", "or", "(Lcom/example/ongoing_grant/ongoinggrant/policy/Truth;)Lcom/example/ongoing_grant/ongoinggrant/policy/Truth;"⟩ : MethodName)) hown (mvT hZ (hw _ (List.mem_of_getElem? (i := 8) rfl))) (mvT hZ (hw _ (List.mem_of_getElem? (i := 9) rfl))) (notFace_of_selects (args := #[]) (mvT hZ (hw _ (List.mem_of_getElem? (i := 11) rfl)))) (mvT hZ (hw _ (List.mem_of_getElem? (i := 11) rfl))) (mvT hZ (hw _ (List.mem_of_getElem? (i := 10) rfl))) (by decide) (backOf (W := 0) (rm4 l Z a0 hw [] wTRUE wFALSE wFALSE wTRUE wUNKNOWN h0 n0 Z0 W0 ) hZ (hw _ (List.mem_of_getElem? (i := 12) rfl)) (hw _ (List.mem_of_getElem? (i := 6) rfl)) (by decide) (by decide)) q112a q112c (g := (mkF m 30 #[.val (.int p0), .val (.int p1), .val (.int (2 : Int32)), .val (.int (0 : Int32)), .val (.ref wTRUE), .val (.ref wFALSE), .unset] [(.ref wFALSE), (.ref wTRUE)])) rfl (by rw [hml]; rfl) (Steps.refl _) (argsL := [(.ref wFALSE)]) (rest := []) (lenOf pd_1 rfl) rfl (by show 2 * 0 + _ ≤ _; exact Nat.le_of_eq rfl) (hb hby at_30) (fun _ _ => ⟨rfl, e110, (by decide : 0 + 0 ≤ _), (by decide : 0 + 0 ≤ _)⟩)
      dsimp only [Pt.U, Pt.locs, Pt.cells, Pt.slots] at X112 l112 y112 z112 st112 hQ112
      subst l112 y112 z112
      unfold Q4 at hQ112
      have k113 : ∀ t, Steps p.tables e below (T110.setTop (mkF m 30 #[.val (.int p0), .val (.int p1), .val (.int (2 : Int32)), .val (.int (0 : Int32)), .val (.ref wTRUE), .val (.ref wFALSE), .unset] [(.ref wFALSE), (.ref wTRUE)])) t → Steps p.tables e below (s₁.setTop (entryFrame m #[(.int p0), (.int p1)] maxLocals)) t := fun t kt => k111 t (by
        show Steps p.tables e below (T108.setTop (mkF m 21 #[.val (.int p0), .val (.int p1), .val (.int (2 : Int32)), .val (.int (0 : Int32)), .val (.ref wTRUE), .unset, .unset] [(.int (0 : Int32))])) _
        refine st110 _ ?_
        show Steps p.tables e below (T110.setTop (mkF m 24 #[.val (.int p0), .val (.int p1), .val (.int (2 : Int32)), .val (.int (0 : Int32)), .val (.ref wTRUE), .unset, .unset] [(.ref wFALSE)])) _
        refine XS.astore X110.here hx rfl (hb hby at_24) rfl rfl (l' := #[.val (.int p0), .val (.int p1), .val (.int (2 : Int32)), .val (.int (0 : Int32)), .val (.ref wTRUE), .val (.ref wFALSE), .unset]) rfl ?_
        show Steps p.tables e below (T110.setTop (mkF m 26 #[.val (.int p0), .val (.int p1), .val (.int (2 : Int32)), .val (.int (0 : Int32)), .val (.ref wTRUE), .val (.ref wFALSE), .unset] [])) _
        refine XS.aload X110.here hx rfl (hb hby at_26) rfl rfl ?_
        show Steps p.tables e below (T110.setTop (mkF m 28 #[.val (.int p0), .val (.int p1), .val (.int (2 : Int32)), .val (.int (0 : Int32)), .val (.ref wTRUE), .val (.ref wFALSE), .unset] [(.ref wTRUE)])) _
        refine XS.aload X110.here hx rfl (hb hby at_28) rfl rfl ?_
        exact kt)
      rw [((by rw [f4, if_pos (rfl : wTRUE = wTRUE)]) : (f4 wTRUE wFALSE wFALSE wTRUE wUNKNOWN) = wTRUE)] at hQ112
      obtain ⟨rfl, N112q, e112⟩ := hQ112
      have N112 := Fr.app N110 N112q
      obtain ⟨_, _, ⟨T114, L114, k114, n114⟩, -, X114, ⟨Lc114, hQ114, l114, y114, z114⟩, st114⟩ := Jvm.LawKit.callS X112 hx (y := (⟨"com/example/ongoing_grant/ongoinggrant/policy/TruthOrPinLaw", "rank", "(Lcom/example/ongoing_grant/ongoinggrant/policy/Truth;)I"⟩ : MethodName)) hown (mvT hZ (hw _ (List.mem_of_getElem? (i := 16) rfl))) (mvT hZ (hw _ (List.mem_of_getElem? (i := 17) rfl))) (mvT hZ (hw _ (List.mem_of_getElem? (i := 3) rfl))) (mvT hZ (hw _ (List.mem_of_getElem? (i := 18) rfl))) (by decide) (backOf (W := 0) (rm2 l Z a0 hw [] wTRUE wFALSE wTRUE wUNKNOWN h0 n0 Z0 W0 ) hZ (hw _ (List.mem_of_getElem? (i := 18) rfl)) (hw _ (List.mem_of_getElem? (i := 3) rfl)) (by decide) (by decide)) (g := (mkF m 44 #[.val (.int p0), .val (.int p1), .val (.int (2 : Int32)), .val (.int (0 : Int32)), .val (.ref wTRUE), .val (.ref wFALSE), .val (.ref wTRUE)] [(.ref wTRUE)])) rfl (by rw [hml]; rfl) (argsL := [(.ref wTRUE)]) (rest := []) (lenOf pd_2 rfl) rfl (by show 2 * 0 + _ ≤ _; exact Nat.le_of_eq rfl) (hb hby at_44) (fun _ _ => ⟨rfl, e112, (by decide : 0 + 0 ≤ _), (by decide : 0 + 0 ≤ _)⟩)
      dsimp only [Pt.U, Pt.locs, Pt.cells, Pt.slots] at X114 l114 y114 z114 st114 hQ114
      subst l114 y114 z114
      unfold Q2 at hQ114
      have k115 : ∀ t, Steps p.tables e below (T112.setTop (mkF m 44 #[.val (.int p0), .val (.int p1), .val (.int (2 : Int32)), .val (.int (0 : Int32)), .val (.ref wTRUE), .val (.ref wFALSE), .val (.ref wTRUE)] [(.ref wTRUE)])) t → Steps p.tables e below (s₁.setTop (entryFrame m #[(.int p0), (.int p1)] maxLocals)) t := fun t kt => k113 t (by
        show Steps p.tables e below (T110.setTop (mkF m 30 #[.val (.int p0), .val (.int p1), .val (.int (2 : Int32)), .val (.int (0 : Int32)), .val (.ref wTRUE), .val (.ref wFALSE), .unset] [(.ref wFALSE), (.ref wTRUE)])) _
        refine st112.trans ?_
        show Steps p.tables e below (T112.setTop (mkF m 33 #[.val (.int p0), .val (.int p1), .val (.int (2 : Int32)), .val (.int (0 : Int32)), .val (.ref wTRUE), .val (.ref wFALSE), .unset] [(.ref wTRUE)])) _
        refine XS.astore X112.here hx rfl (hb hby at_33) rfl rfl (l' := #[.val (.int p0), .val (.int p1), .val (.int (2 : Int32)), .val (.int (0 : Int32)), .val (.ref wTRUE), .val (.ref wFALSE), .val (.ref wTRUE)]) rfl ?_
        show Steps p.tables e below (T112.setTop (mkF m 35 #[.val (.int p0), .val (.int p1), .val (.int (2 : Int32)), .val (.int (0 : Int32)), .val (.ref wTRUE), .val (.ref wFALSE), .val (.ref wTRUE)] [])) _
        refine XS.aload X112.here hx rfl (hb hby at_35) rfl rfl ?_
        show Steps p.tables e below (T112.setTop (mkF m 37 #[.val (.int p0), .val (.int p1), .val (.int (2 : Int32)), .val (.int (0 : Int32)), .val (.ref wTRUE), .val (.ref wFALSE), .val (.ref wTRUE)] [(.ref wTRUE)])) _
        refine XS.ifnonnullYes X112.here hx rfl (pc0 := 37) (pc' := 42) rfl (hb hby at_37) rfl (by decide) (by decide) ?_
        show Steps p.tables e below (T112.setTop (mkF m 42 #[.val (.int p0), .val (.int p1), .val (.int (2 : Int32)), .val (.int (0 : Int32)), .val (.ref wTRUE), .val (.ref wFALSE), .val (.ref wTRUE)] [])) _
        refine XS.aload X112.here hx rfl (hb hby at_42) rfl rfl ?_
        exact kt)
      rw [((by rw [f2, if_neg ((Fld.ne FTRUE_ordinal FFALSE_ordinal (by decide)) : ¬ (wTRUE = wFALSE)), if_neg ((Fld.ne FTRUE_ordinal FUNKNOWN_ordinal (by decide)) : ¬ (wTRUE = wUNKNOWN)), if_pos (rfl : wTRUE = wTRUE)]) : (f2 wTRUE wFALSE wTRUE wUNKNOWN) = (2 : Int32))] at hQ114
      obtain ⟨rfl, N114q, e114⟩ := hQ114
      have N114 := Fr.app N112 N114q
      obtain ⟨_, _, ⟨T116, L116, k116, n116⟩, -, X116, ⟨Lc116, hQ116, l116, y116, z116⟩, st116⟩ := Jvm.LawKit.callS X114 hx (y := (⟨"java/lang/Math", "max", "(II)I"⟩ : MethodName)) hown (mvT hZ (hw _ (List.mem_of_getElem? (i := 19) rfl))) (mvT hZ (hw _ (List.mem_of_getElem? (i := 20) rfl))) (mvT hZ (hw _ (List.mem_of_getElem? (i := 21) rfl))) (mvT hZ (hw _ (List.mem_of_getElem? (i := 22) rfl))) (by decide) (backOf (W := 1) (rm3 l Z a0 hw [] (2 : Int32) (0 : Int32) h0 n0 Z0 ) hZ (hw _ (List.mem_of_getElem? (i := 22) rfl)) (hw _ (List.mem_of_getElem? (i := 21) rfl)) (by decide) (by decide)) (g := (mkF m 49 #[.val (.int p0), .val (.int p1), .val (.int (2 : Int32)), .val (.int (0 : Int32)), .val (.ref wTRUE), .val (.ref wFALSE), .val (.ref wTRUE)] [(.int (0 : Int32)), (.int (2 : Int32)), (.int (2 : Int32))])) rfl (by rw [hml]; rfl) (argsL := [(.int (2 : Int32)), (.int (0 : Int32))]) (rest := [(.int (2 : Int32))]) (lenOf pd_3 rfl) rfl (by show 2 * 0 + _ ≤ _; exact Nat.le_of_eq rfl) (hb hby at_49) (fun _ _ => ⟨rfl, e114, (by decide : 0 + 0 ≤ _), (by decide : 0 + 0 ≤ _)⟩)
      dsimp only [Pt.U, Pt.locs, Pt.cells, Pt.slots] at X116 l116 y116 z116 st116 hQ116
      subst l116 y116 z116
      unfold Q3 at hQ116
      have k117 : ∀ t, Steps p.tables e below (T114.setTop (mkF m 49 #[.val (.int p0), .val (.int p1), .val (.int (2 : Int32)), .val (.int (0 : Int32)), .val (.ref wTRUE), .val (.ref wFALSE), .val (.ref wTRUE)] [(.int (0 : Int32)), (.int (2 : Int32)), (.int (2 : Int32))])) t → Steps p.tables e below (s₁.setTop (entryFrame m #[(.int p0), (.int p1)] maxLocals)) t := fun t kt => k115 t (by
        show Steps p.tables e below (T112.setTop (mkF m 44 #[.val (.int p0), .val (.int p1), .val (.int (2 : Int32)), .val (.int (0 : Int32)), .val (.ref wTRUE), .val (.ref wFALSE), .val (.ref wTRUE)] [(.ref wTRUE)])) _
        refine st114 _ ?_
        show Steps p.tables e below (T114.setTop (mkF m 47 #[.val (.int p0), .val (.int p1), .val (.int (2 : Int32)), .val (.int (0 : Int32)), .val (.ref wTRUE), .val (.ref wFALSE), .val (.ref wTRUE)] [(.int (2 : Int32))])) _
        refine XS.iloadN X114.here hx rfl (hb hby at_47) rfl ?_
        show Steps p.tables e below (T114.setTop (mkF m 48 #[.val (.int p0), .val (.int p1), .val (.int (2 : Int32)), .val (.int (0 : Int32)), .val (.ref wTRUE), .val (.ref wFALSE), .val (.ref wTRUE)] [(.int (2 : Int32)), (.int (2 : Int32))])) _
        refine XS.iloadN X114.here hx rfl (hb hby at_48) rfl ?_
        exact kt)
      rw [((by rw [f3, if_neg ((by decide) : ¬ ((2 : Int32) < (0 : Int32)))]) : (f3 (2 : Int32) (0 : Int32)) = (2 : Int32))] at hQ116
      obtain ⟨rfl, N116q, e116⟩ := hQ116
      have N116 := Fr.app N114 N116q
      obtain ⟨fs, hr, hrun, hended, hW, hsame⟩ := X116.leave (v := some (.int (1 : Int32))) (fun h => by rw [Bd.returns] at h; cases h)
      refine ⟨_, _, k117 _ ?_, hrun, hended, _, _, rfl, ?_, ⟨_, rfl⟩, hW, hsame.mono (by decide) (by decide)⟩
      · show Steps p.tables e below (T114.setTop (mkF m 49 #[.val (.int p0), .val (.int p1), .val (.int (2 : Int32)), .val (.int (0 : Int32)), .val (.ref wTRUE), .val (.ref wFALSE), .val (.ref wTRUE)] [(.int (0 : Int32)), (.int (2 : Int32)), (.int (2 : Int32))])) _
        refine st116 _ ?_
        show Steps p.tables e below (T116.setTop (mkF m 52 #[.val (.int p0), .val (.int p1), .val (.int (2 : Int32)), .val (.int (0 : Int32)), .val (.ref wTRUE), .val (.ref wFALSE), .val (.ref wTRUE)] [(.int (2 : Int32)), (.int (2 : Int32))])) _
        refine XS.icmpNo X116.here hx rfl (hb hby at_52) rfl (teq (rfl : (2 : Int32) = (2 : Int32))).2 ?_
        show Steps p.tables e below (T116.setTop (mkF m 55 #[.val (.int p0), .val (.int p1), .val (.int (2 : Int32)), .val (.int (0 : Int32)), .val (.ref wTRUE), .val (.ref wFALSE), .val (.ref wTRUE)] [])) _
        refine XS.iconst X116.here hx rfl (hb hby at_55) ?_
        show Steps p.tables e below (T116.setTop (mkF m 56 #[.val (.int p0), .val (.int p1), .val (.int (2 : Int32)), .val (.int (0 : Int32)), .val (.ref wTRUE), .val (.ref wFALSE), .val (.ref wTRUE)] [(.int (1 : Int32))])) _
        refine XS.goto X116.here hx rfl (pc0 := 56) (pc' := 60) rfl (hb hby at_56) (by decide) (by decide) ?_
        show Steps p.tables e below (T116.setTop (mkF m 60 #[.val (.int p0), .val (.int p1), .val (.int (2 : Int32)), .val (.int (0 : Int32)), .val (.ref wTRUE), .val (.ref wFALSE), .val (.ref wTRUE)] [(.int (1 : Int32))])) _
        exact retN X116 hx (t := .boolean) Bd.returns (by simp) (hb hby at_60) hr
      · show Q0 Z p0 p1 wFALSE wTRUE wUNKNOWN h0 n0 _ T116.heap _
        rw [e116]
        exact ⟨rfl, N116⟩
    · subst hv107
      obtain ⟨_, _, ⟨T118, L118, k118, n118⟩, -, X118, ⟨Lc118, hQ118, l118, y118, z118⟩, st118⟩ := Jvm.LawKit.callS X0 hx (y := (⟨"com/example/ongoing_grant/ongoinggrant/policy/TruthOrPinLaw", "pick", "(I)Lcom/example/ongoing_grant/ongoinggrant/policy/Truth;"⟩ : MethodName)) hown (mvT hZ (hw _ (List.mem_of_getElem? (i := 1) rfl))) (mvT hZ (hw _ (List.mem_of_getElem? (i := 2) rfl))) (mvT hZ (hw _ (List.mem_of_getElem? (i := 3) rfl))) (mvT hZ (hw _ (List.mem_of_getElem? (i := 4) rfl))) (by decide) (backOf (W := 0) (rm1 l Z a0 hw [] (2 : Int32) wFALSE wTRUE wUNKNOWN h0 n0 Z0 W0 ) hZ (hw _ (List.mem_of_getElem? (i := 4) rfl)) (hw _ (List.mem_of_getElem? (i := 3) rfl)) (by decide) (by decide)) (g := (mkF m 15 #[.val (.int p0), .val (.int p1), .val (.int (2 : Int32)), .val (.int (1 : Int32)), .unset, .unset, .unset] [(.int (2 : Int32))])) rfl (by rw [hml]; rfl) (argsL := [(.int (2 : Int32))]) (rest := []) (lenOf pd_0 rfl) rfl (by show 2 * 0 + _ ≤ _; exact Nat.le_of_eq rfl) (hb hby at_15) (fun _ _ => ⟨rfl, e0, (by decide : 0 + 0 ≤ _), (by decide : 0 + 0 ≤ _)⟩)
      dsimp only [Pt.U, Pt.locs, Pt.cells, Pt.slots] at X118 l118 y118 z118 st118 hQ118
      subst l118 y118 z118
      unfold Q1 at hQ118
      have k119 : ∀ t, Steps p.tables e below (s₁.setTop (mkF m 15 #[.val (.int p0), .val (.int p1), .val (.int (2 : Int32)), .val (.int (1 : Int32)), .unset, .unset, .unset] [(.int (2 : Int32))])) t → Steps p.tables e below (s₁.setTop (entryFrame m #[(.int p0), (.int p1)] maxLocals)) t := fun t kt => k106 t (by
        show Steps p.tables e below (s₁.setTop (mkF m 14 #[.val (.int p0), .val (.int p1), .val (.int (2 : Int32)), .val (.int (1 : Int32)), .unset, .unset, .unset] [])) _
        refine XS.iloadN X0.here hx rfl (hb hby at_14) rfl ?_
        exact kt)
      rw [((by rw [f1, if_neg ((by decide) : ¬ ((2 : Int32) = (0 : Int32))), if_neg ((by decide) : ¬ ((2 : Int32) = (1 : Int32)))]) : (f1 (2 : Int32) wFALSE wTRUE wUNKNOWN) = wTRUE)] at hQ118
      obtain ⟨rfl, N118q, e118⟩ := hQ118
      have N118 := Fr.app N0 N118q
      obtain ⟨_, _, ⟨T120, L120, k120, n120⟩, -, X120, ⟨Lc120, hQ120, l120, y120, z120⟩, st120⟩ := Jvm.LawKit.callS X118 hx (y := (⟨"com/example/ongoing_grant/ongoinggrant/policy/TruthOrPinLaw", "pick", "(I)Lcom/example/ongoing_grant/ongoinggrant/policy/Truth;"⟩ : MethodName)) hown (mvT hZ (hw _ (List.mem_of_getElem? (i := 1) rfl))) (mvT hZ (hw _ (List.mem_of_getElem? (i := 2) rfl))) (mvT hZ (hw _ (List.mem_of_getElem? (i := 3) rfl))) (mvT hZ (hw _ (List.mem_of_getElem? (i := 4) rfl))) (by decide) (backOf (W := 0) (rm1 l Z a0 hw [] (1 : Int32) wFALSE wTRUE wUNKNOWN h0 n0 Z0 W0 ) hZ (hw _ (List.mem_of_getElem? (i := 4) rfl)) (hw _ (List.mem_of_getElem? (i := 3) rfl)) (by decide) (by decide)) (g := (mkF m 21 #[.val (.int p0), .val (.int p1), .val (.int (2 : Int32)), .val (.int (1 : Int32)), .val (.ref wTRUE), .unset, .unset] [(.int (1 : Int32))])) rfl (by rw [hml]; rfl) (argsL := [(.int (1 : Int32))]) (rest := []) (lenOf pd_0 rfl) rfl (by show 2 * 0 + _ ≤ _; exact Nat.le_of_eq rfl) (hb hby at_21) (fun _ _ => ⟨rfl, e118, (by decide : 0 + 0 ≤ _), (by decide : 0 + 0 ≤ _)⟩)
      dsimp only [Pt.U, Pt.locs, Pt.cells, Pt.slots] at X120 l120 y120 z120 st120 hQ120
      subst l120 y120 z120
      unfold Q1 at hQ120
      have k121 : ∀ t, Steps p.tables e below (T118.setTop (mkF m 21 #[.val (.int p0), .val (.int p1), .val (.int (2 : Int32)), .val (.int (1 : Int32)), .val (.ref wTRUE), .unset, .unset] [(.int (1 : Int32))])) t → Steps p.tables e below (s₁.setTop (entryFrame m #[(.int p0), (.int p1)] maxLocals)) t := fun t kt => k119 t (by
        show Steps p.tables e below (s₁.setTop (mkF m 15 #[.val (.int p0), .val (.int p1), .val (.int (2 : Int32)), .val (.int (1 : Int32)), .unset, .unset, .unset] [(.int (2 : Int32))])) _
        refine st118 _ ?_
        show Steps p.tables e below (T118.setTop (mkF m 18 #[.val (.int p0), .val (.int p1), .val (.int (2 : Int32)), .val (.int (1 : Int32)), .unset, .unset, .unset] [(.ref wTRUE)])) _
        refine XS.astore X118.here hx rfl (hb hby at_18) rfl rfl (l' := #[.val (.int p0), .val (.int p1), .val (.int (2 : Int32)), .val (.int (1 : Int32)), .val (.ref wTRUE), .unset, .unset]) rfl ?_
        show Steps p.tables e below (T118.setTop (mkF m 20 #[.val (.int p0), .val (.int p1), .val (.int (2 : Int32)), .val (.int (1 : Int32)), .val (.ref wTRUE), .unset, .unset] [])) _
        refine XS.iloadN X118.here hx rfl (hb hby at_20) rfl ?_
        exact kt)
      rw [((by rw [f1, if_neg ((by decide) : ¬ ((1 : Int32) = (0 : Int32))), if_pos (rfl : (1 : Int32) = (1 : Int32))]) : (f1 (1 : Int32) wFALSE wTRUE wUNKNOWN) = wUNKNOWN)] at hQ120
      obtain ⟨rfl, N120q, e120⟩ := hQ120
      have N120 := Fr.app N118 N120q
      obtain ⟨cq122, kq122, q122a, q122b, q122c⟩ := isOf hZ e120 ETRUE
      obtain ⟨_, _, ⟨T122, L122, k122, n122⟩, -, X122, ⟨Lc122, hQ122, l122, y122, z122⟩, st122⟩ := X120.virtualBack hx (y := (⟨"com/example/ongoing_grant/ongoinggrant/policy/Truth", "or", "(Lcom/example/ongoing_grant/ongoinggrant/policy/Truth;)Lcom/example/ongoing_grant/ongoinggrant/policy/Truth;"⟩ : MethodName)) (z := (⟨"com/example/ongoing_grant/ongoinggrant/policy/Truth", "or", "(Lcom/example/ongoing_grant/ongoinggrant/policy/Truth;)Lcom/example/ongoing_grant/ongoinggrant/policy/Truth;"⟩ : MethodName)) hown (mvT hZ (hw _ (List.mem_of_getElem? (i := 8) rfl))) (mvT hZ (hw _ (List.mem_of_getElem? (i := 9) rfl))) (notFace_of_selects (args := #[]) (mvT hZ (hw _ (List.mem_of_getElem? (i := 11) rfl)))) (mvT hZ (hw _ (List.mem_of_getElem? (i := 11) rfl))) (mvT hZ (hw _ (List.mem_of_getElem? (i := 10) rfl))) (by decide) (backOf (W := 0) (rm4 l Z a0 hw [] wTRUE wUNKNOWN wFALSE wTRUE wUNKNOWN h0 n0 Z0 W0 ) hZ (hw _ (List.mem_of_getElem? (i := 12) rfl)) (hw _ (List.mem_of_getElem? (i := 6) rfl)) (by decide) (by decide)) q122a q122c (g := (mkF m 30 #[.val (.int p0), .val (.int p1), .val (.int (2 : Int32)), .val (.int (1 : Int32)), .val (.ref wTRUE), .val (.ref wUNKNOWN), .unset] [(.ref wUNKNOWN), (.ref wTRUE)])) rfl (by rw [hml]; rfl) (Steps.refl _) (argsL := [(.ref wUNKNOWN)]) (rest := []) (lenOf pd_1 rfl) rfl (by show 2 * 0 + _ ≤ _; exact Nat.le_of_eq rfl) (hb hby at_30) (fun _ _ => ⟨rfl, e120, (by decide : 0 + 0 ≤ _), (by decide : 0 + 0 ≤ _)⟩)
      dsimp only [Pt.U, Pt.locs, Pt.cells, Pt.slots] at X122 l122 y122 z122 st122 hQ122
      subst l122 y122 z122
      unfold Q4 at hQ122
      have k123 : ∀ t, Steps p.tables e below (T120.setTop (mkF m 30 #[.val (.int p0), .val (.int p1), .val (.int (2 : Int32)), .val (.int (1 : Int32)), .val (.ref wTRUE), .val (.ref wUNKNOWN), .unset] [(.ref wUNKNOWN), (.ref wTRUE)])) t → Steps p.tables e below (s₁.setTop (entryFrame m #[(.int p0), (.int p1)] maxLocals)) t := fun t kt => k121 t (by
        show Steps p.tables e below (T118.setTop (mkF m 21 #[.val (.int p0), .val (.int p1), .val (.int (2 : Int32)), .val (.int (1 : Int32)), .val (.ref wTRUE), .unset, .unset] [(.int (1 : Int32))])) _
        refine st120 _ ?_
        show Steps p.tables e below (T120.setTop (mkF m 24 #[.val (.int p0), .val (.int p1), .val (.int (2 : Int32)), .val (.int (1 : Int32)), .val (.ref wTRUE), .unset, .unset] [(.ref wUNKNOWN)])) _
        refine XS.astore X120.here hx rfl (hb hby at_24) rfl rfl (l' := #[.val (.int p0), .val (.int p1), .val (.int (2 : Int32)), .val (.int (1 : Int32)), .val (.ref wTRUE), .val (.ref wUNKNOWN), .unset]) rfl ?_
        show Steps p.tables e below (T120.setTop (mkF m 26 #[.val (.int p0), .val (.int p1), .val (.int (2 : Int32)), .val (.int (1 : Int32)), .val (.ref wTRUE), .val (.ref wUNKNOWN), .unset] [])) _
        refine XS.aload X120.here hx rfl (hb hby at_26) rfl rfl ?_
        show Steps p.tables e below (T120.setTop (mkF m 28 #[.val (.int p0), .val (.int p1), .val (.int (2 : Int32)), .val (.int (1 : Int32)), .val (.ref wTRUE), .val (.ref wUNKNOWN), .unset] [(.ref wTRUE)])) _
        refine XS.aload X120.here hx rfl (hb hby at_28) rfl rfl ?_
        exact kt)
      rw [((by rw [f4, if_pos (rfl : wTRUE = wTRUE)]) : (f4 wTRUE wUNKNOWN wFALSE wTRUE wUNKNOWN) = wTRUE)] at hQ122
      obtain ⟨rfl, N122q, e122⟩ := hQ122
      have N122 := Fr.app N120 N122q
      obtain ⟨_, _, ⟨T124, L124, k124, n124⟩, -, X124, ⟨Lc124, hQ124, l124, y124, z124⟩, st124⟩ := Jvm.LawKit.callS X122 hx (y := (⟨"com/example/ongoing_grant/ongoinggrant/policy/TruthOrPinLaw", "rank", "(Lcom/example/ongoing_grant/ongoinggrant/policy/Truth;)I"⟩ : MethodName)) hown (mvT hZ (hw _ (List.mem_of_getElem? (i := 16) rfl))) (mvT hZ (hw _ (List.mem_of_getElem? (i := 17) rfl))) (mvT hZ (hw _ (List.mem_of_getElem? (i := 3) rfl))) (mvT hZ (hw _ (List.mem_of_getElem? (i := 18) rfl))) (by decide) (backOf (W := 0) (rm2 l Z a0 hw [] wTRUE wFALSE wTRUE wUNKNOWN h0 n0 Z0 W0 ) hZ (hw _ (List.mem_of_getElem? (i := 18) rfl)) (hw _ (List.mem_of_getElem? (i := 3) rfl)) (by decide) (by decide)) (g := (mkF m 44 #[.val (.int p0), .val (.int p1), .val (.int (2 : Int32)), .val (.int (1 : Int32)), .val (.ref wTRUE), .val (.ref wUNKNOWN), .val (.ref wTRUE)] [(.ref wTRUE)])) rfl (by rw [hml]; rfl) (argsL := [(.ref wTRUE)]) (rest := []) (lenOf pd_2 rfl) rfl (by show 2 * 0 + _ ≤ _; exact Nat.le_of_eq rfl) (hb hby at_44) (fun _ _ => ⟨rfl, e122, (by decide : 0 + 0 ≤ _), (by decide : 0 + 0 ≤ _)⟩)
      dsimp only [Pt.U, Pt.locs, Pt.cells, Pt.slots] at X124 l124 y124 z124 st124 hQ124
      subst l124 y124 z124
      unfold Q2 at hQ124
      have k125 : ∀ t, Steps p.tables e below (T122.setTop (mkF m 44 #[.val (.int p0), .val (.int p1), .val (.int (2 : Int32)), .val (.int (1 : Int32)), .val (.ref wTRUE), .val (.ref wUNKNOWN), .val (.ref wTRUE)] [(.ref wTRUE)])) t → Steps p.tables e below (s₁.setTop (entryFrame m #[(.int p0), (.int p1)] maxLocals)) t := fun t kt => k123 t (by
        show Steps p.tables e below (T120.setTop (mkF m 30 #[.val (.int p0), .val (.int p1), .val (.int (2 : Int32)), .val (.int (1 : Int32)), .val (.ref wTRUE), .val (.ref wUNKNOWN), .unset] [(.ref wUNKNOWN), (.ref wTRUE)])) _
        refine st122.trans ?_
        show Steps p.tables e below (T122.setTop (mkF m 33 #[.val (.int p0), .val (.int p1), .val (.int (2 : Int32)), .val (.int (1 : Int32)), .val (.ref wTRUE), .val (.ref wUNKNOWN), .unset] [(.ref wTRUE)])) _
        refine XS.astore X122.here hx rfl (hb hby at_33) rfl rfl (l' := #[.val (.int p0), .val (.int p1), .val (.int (2 : Int32)), .val (.int (1 : Int32)), .val (.ref wTRUE), .val (.ref wUNKNOWN), .val (.ref wTRUE)]) rfl ?_
        show Steps p.tables e below (T122.setTop (mkF m 35 #[.val (.int p0), .val (.int p1), .val (.int (2 : Int32)), .val (.int (1 : Int32)), .val (.ref wTRUE), .val (.ref wUNKNOWN), .val (.ref wTRUE)] [])) _
        refine XS.aload X122.here hx rfl (hb hby at_35) rfl rfl ?_
        show Steps p.tables e below (T122.setTop (mkF m 37 #[.val (.int p0), .val (.int p1), .val (.int (2 : Int32)), .val (.int (1 : Int32)), .val (.ref wTRUE), .val (.ref wUNKNOWN), .val (.ref wTRUE)] [(.ref wTRUE)])) _
        refine XS.ifnonnullYes X122.here hx rfl (pc0 := 37) (pc' := 42) rfl (hb hby at_37) rfl (by decide) (by decide) ?_
        show Steps p.tables e below (T122.setTop (mkF m 42 #[.val (.int p0), .val (.int p1), .val (.int (2 : Int32)), .val (.int (1 : Int32)), .val (.ref wTRUE), .val (.ref wUNKNOWN), .val (.ref wTRUE)] [])) _
        refine XS.aload X122.here hx rfl (hb hby at_42) rfl rfl ?_
        exact kt)
      rw [((by rw [f2, if_neg ((Fld.ne FTRUE_ordinal FFALSE_ordinal (by decide)) : ¬ (wTRUE = wFALSE)), if_neg ((Fld.ne FTRUE_ordinal FUNKNOWN_ordinal (by decide)) : ¬ (wTRUE = wUNKNOWN)), if_pos (rfl : wTRUE = wTRUE)]) : (f2 wTRUE wFALSE wTRUE wUNKNOWN) = (2 : Int32))] at hQ124
      obtain ⟨rfl, N124q, e124⟩ := hQ124
      have N124 := Fr.app N122 N124q
      obtain ⟨_, _, ⟨T126, L126, k126, n126⟩, -, X126, ⟨Lc126, hQ126, l126, y126, z126⟩, st126⟩ := Jvm.LawKit.callS X124 hx (y := (⟨"java/lang/Math", "max", "(II)I"⟩ : MethodName)) hown (mvT hZ (hw _ (List.mem_of_getElem? (i := 19) rfl))) (mvT hZ (hw _ (List.mem_of_getElem? (i := 20) rfl))) (mvT hZ (hw _ (List.mem_of_getElem? (i := 21) rfl))) (mvT hZ (hw _ (List.mem_of_getElem? (i := 22) rfl))) (by decide) (backOf (W := 1) (rm3 l Z a0 hw [] (2 : Int32) (1 : Int32) h0 n0 Z0 ) hZ (hw _ (List.mem_of_getElem? (i := 22) rfl)) (hw _ (List.mem_of_getElem? (i := 21) rfl)) (by decide) (by decide)) (g := (mkF m 49 #[.val (.int p0), .val (.int p1), .val (.int (2 : Int32)), .val (.int (1 : Int32)), .val (.ref wTRUE), .val (.ref wUNKNOWN), .val (.ref wTRUE)] [(.int (1 : Int32)), (.int (2 : Int32)), (.int (2 : Int32))])) rfl (by rw [hml]; rfl) (argsL := [(.int (2 : Int32)), (.int (1 : Int32))]) (rest := [(.int (2 : Int32))]) (lenOf pd_3 rfl) rfl (by show 2 * 0 + _ ≤ _; exact Nat.le_of_eq rfl) (hb hby at_49) (fun _ _ => ⟨rfl, e124, (by decide : 0 + 0 ≤ _), (by decide : 0 + 0 ≤ _)⟩)
      dsimp only [Pt.U, Pt.locs, Pt.cells, Pt.slots] at X126 l126 y126 z126 st126 hQ126
      subst l126 y126 z126
      unfold Q3 at hQ126
      have k127 : ∀ t, Steps p.tables e below (T124.setTop (mkF m 49 #[.val (.int p0), .val (.int p1), .val (.int (2 : Int32)), .val (.int (1 : Int32)), .val (.ref wTRUE), .val (.ref wUNKNOWN), .val (.ref wTRUE)] [(.int (1 : Int32)), (.int (2 : Int32)), (.int (2 : Int32))])) t → Steps p.tables e below (s₁.setTop (entryFrame m #[(.int p0), (.int p1)] maxLocals)) t := fun t kt => k125 t (by
        show Steps p.tables e below (T122.setTop (mkF m 44 #[.val (.int p0), .val (.int p1), .val (.int (2 : Int32)), .val (.int (1 : Int32)), .val (.ref wTRUE), .val (.ref wUNKNOWN), .val (.ref wTRUE)] [(.ref wTRUE)])) _
        refine st124 _ ?_
        show Steps p.tables e below (T124.setTop (mkF m 47 #[.val (.int p0), .val (.int p1), .val (.int (2 : Int32)), .val (.int (1 : Int32)), .val (.ref wTRUE), .val (.ref wUNKNOWN), .val (.ref wTRUE)] [(.int (2 : Int32))])) _
        refine XS.iloadN X124.here hx rfl (hb hby at_47) rfl ?_
        show Steps p.tables e below (T124.setTop (mkF m 48 #[.val (.int p0), .val (.int p1), .val (.int (2 : Int32)), .val (.int (1 : Int32)), .val (.ref wTRUE), .val (.ref wUNKNOWN), .val (.ref wTRUE)] [(.int (2 : Int32)), (.int (2 : Int32))])) _
        refine XS.iloadN X124.here hx rfl (hb hby at_48) rfl ?_
        exact kt)
      rw [((by rw [f3, if_neg ((by decide) : ¬ ((2 : Int32) < (1 : Int32)))]) : (f3 (2 : Int32) (1 : Int32)) = (2 : Int32))] at hQ126
      obtain ⟨rfl, N126q, e126⟩ := hQ126
      have N126 := Fr.app N124 N126q
      obtain ⟨fs, hr, hrun, hended, hW, hsame⟩ := X126.leave (v := some (.int (1 : Int32))) (fun h => by rw [Bd.returns] at h; cases h)
      refine ⟨_, _, k127 _ ?_, hrun, hended, _, _, rfl, ?_, ⟨_, rfl⟩, hW, hsame.mono (by decide) (by decide)⟩
      · show Steps p.tables e below (T124.setTop (mkF m 49 #[.val (.int p0), .val (.int p1), .val (.int (2 : Int32)), .val (.int (1 : Int32)), .val (.ref wTRUE), .val (.ref wUNKNOWN), .val (.ref wTRUE)] [(.int (1 : Int32)), (.int (2 : Int32)), (.int (2 : Int32))])) _
        refine st126 _ ?_
        show Steps p.tables e below (T126.setTop (mkF m 52 #[.val (.int p0), .val (.int p1), .val (.int (2 : Int32)), .val (.int (1 : Int32)), .val (.ref wTRUE), .val (.ref wUNKNOWN), .val (.ref wTRUE)] [(.int (2 : Int32)), (.int (2 : Int32))])) _
        refine XS.icmpNo X126.here hx rfl (hb hby at_52) rfl (teq (rfl : (2 : Int32) = (2 : Int32))).2 ?_
        show Steps p.tables e below (T126.setTop (mkF m 55 #[.val (.int p0), .val (.int p1), .val (.int (2 : Int32)), .val (.int (1 : Int32)), .val (.ref wTRUE), .val (.ref wUNKNOWN), .val (.ref wTRUE)] [])) _
        refine XS.iconst X126.here hx rfl (hb hby at_55) ?_
        show Steps p.tables e below (T126.setTop (mkF m 56 #[.val (.int p0), .val (.int p1), .val (.int (2 : Int32)), .val (.int (1 : Int32)), .val (.ref wTRUE), .val (.ref wUNKNOWN), .val (.ref wTRUE)] [(.int (1 : Int32))])) _
        refine XS.goto X126.here hx rfl (pc0 := 56) (pc' := 60) rfl (hb hby at_56) (by decide) (by decide) ?_
        show Steps p.tables e below (T126.setTop (mkF m 60 #[.val (.int p0), .val (.int p1), .val (.int (2 : Int32)), .val (.int (1 : Int32)), .val (.ref wTRUE), .val (.ref wUNKNOWN), .val (.ref wTRUE)] [(.int (1 : Int32))])) _
        exact retN X126 hx (t := .boolean) Bd.returns (by simp) (hb hby at_60) hr
      · show Q0 Z p0 p1 wFALSE wTRUE wUNKNOWN h0 n0 _ T126.heap _
        rw [e126]
        exact ⟨rfl, N126⟩
    · subst hv107
      obtain ⟨_, _, ⟨T128, L128, k128, n128⟩, -, X128, ⟨Lc128, hQ128, l128, y128, z128⟩, st128⟩ := Jvm.LawKit.callS X0 hx (y := (⟨"com/example/ongoing_grant/ongoinggrant/policy/TruthOrPinLaw", "pick", "(I)Lcom/example/ongoing_grant/ongoinggrant/policy/Truth;"⟩ : MethodName)) hown (mvT hZ (hw _ (List.mem_of_getElem? (i := 1) rfl))) (mvT hZ (hw _ (List.mem_of_getElem? (i := 2) rfl))) (mvT hZ (hw _ (List.mem_of_getElem? (i := 3) rfl))) (mvT hZ (hw _ (List.mem_of_getElem? (i := 4) rfl))) (by decide) (backOf (W := 0) (rm1 l Z a0 hw [] (2 : Int32) wFALSE wTRUE wUNKNOWN h0 n0 Z0 W0 ) hZ (hw _ (List.mem_of_getElem? (i := 4) rfl)) (hw _ (List.mem_of_getElem? (i := 3) rfl)) (by decide) (by decide)) (g := (mkF m 15 #[.val (.int p0), .val (.int p1), .val (.int (2 : Int32)), .val (.int (2 : Int32)), .unset, .unset, .unset] [(.int (2 : Int32))])) rfl (by rw [hml]; rfl) (argsL := [(.int (2 : Int32))]) (rest := []) (lenOf pd_0 rfl) rfl (by show 2 * 0 + _ ≤ _; exact Nat.le_of_eq rfl) (hb hby at_15) (fun _ _ => ⟨rfl, e0, (by decide : 0 + 0 ≤ _), (by decide : 0 + 0 ≤ _)⟩)
      dsimp only [Pt.U, Pt.locs, Pt.cells, Pt.slots] at X128 l128 y128 z128 st128 hQ128
      subst l128 y128 z128
      unfold Q1 at hQ128
      have k129 : ∀ t, Steps p.tables e below (s₁.setTop (mkF m 15 #[.val (.int p0), .val (.int p1), .val (.int (2 : Int32)), .val (.int (2 : Int32)), .unset, .unset, .unset] [(.int (2 : Int32))])) t → Steps p.tables e below (s₁.setTop (entryFrame m #[(.int p0), (.int p1)] maxLocals)) t := fun t kt => k106 t (by
        show Steps p.tables e below (s₁.setTop (mkF m 14 #[.val (.int p0), .val (.int p1), .val (.int (2 : Int32)), .val (.int (2 : Int32)), .unset, .unset, .unset] [])) _
        refine XS.iloadN X0.here hx rfl (hb hby at_14) rfl ?_
        exact kt)
      rw [((by rw [f1, if_neg ((by decide) : ¬ ((2 : Int32) = (0 : Int32))), if_neg ((by decide) : ¬ ((2 : Int32) = (1 : Int32)))]) : (f1 (2 : Int32) wFALSE wTRUE wUNKNOWN) = wTRUE)] at hQ128
      obtain ⟨rfl, N128q, e128⟩ := hQ128
      have N128 := Fr.app N0 N128q
      obtain ⟨_, _, ⟨T130, L130, k130, n130⟩, -, X130, ⟨Lc130, hQ130, l130, y130, z130⟩, st130⟩ := Jvm.LawKit.callS X128 hx (y := (⟨"com/example/ongoing_grant/ongoinggrant/policy/TruthOrPinLaw", "pick", "(I)Lcom/example/ongoing_grant/ongoinggrant/policy/Truth;"⟩ : MethodName)) hown (mvT hZ (hw _ (List.mem_of_getElem? (i := 1) rfl))) (mvT hZ (hw _ (List.mem_of_getElem? (i := 2) rfl))) (mvT hZ (hw _ (List.mem_of_getElem? (i := 3) rfl))) (mvT hZ (hw _ (List.mem_of_getElem? (i := 4) rfl))) (by decide) (backOf (W := 0) (rm1 l Z a0 hw [] (2 : Int32) wFALSE wTRUE wUNKNOWN h0 n0 Z0 W0 ) hZ (hw _ (List.mem_of_getElem? (i := 4) rfl)) (hw _ (List.mem_of_getElem? (i := 3) rfl)) (by decide) (by decide)) (g := (mkF m 21 #[.val (.int p0), .val (.int p1), .val (.int (2 : Int32)), .val (.int (2 : Int32)), .val (.ref wTRUE), .unset, .unset] [(.int (2 : Int32))])) rfl (by rw [hml]; rfl) (argsL := [(.int (2 : Int32))]) (rest := []) (lenOf pd_0 rfl) rfl (by show 2 * 0 + _ ≤ _; exact Nat.le_of_eq rfl) (hb hby at_21) (fun _ _ => ⟨rfl, e128, (by decide : 0 + 0 ≤ _), (by decide : 0 + 0 ≤ _)⟩)
      dsimp only [Pt.U, Pt.locs, Pt.cells, Pt.slots] at X130 l130 y130 z130 st130 hQ130
      subst l130 y130 z130
      unfold Q1 at hQ130
      have k131 : ∀ t, Steps p.tables e below (T128.setTop (mkF m 21 #[.val (.int p0), .val (.int p1), .val (.int (2 : Int32)), .val (.int (2 : Int32)), .val (.ref wTRUE), .unset, .unset] [(.int (2 : Int32))])) t → Steps p.tables e below (s₁.setTop (entryFrame m #[(.int p0), (.int p1)] maxLocals)) t := fun t kt => k129 t (by
        show Steps p.tables e below (s₁.setTop (mkF m 15 #[.val (.int p0), .val (.int p1), .val (.int (2 : Int32)), .val (.int (2 : Int32)), .unset, .unset, .unset] [(.int (2 : Int32))])) _
        refine st128 _ ?_
        show Steps p.tables e below (T128.setTop (mkF m 18 #[.val (.int p0), .val (.int p1), .val (.int (2 : Int32)), .val (.int (2 : Int32)), .unset, .unset, .unset] [(.ref wTRUE)])) _
        refine XS.astore X128.here hx rfl (hb hby at_18) rfl rfl (l' := #[.val (.int p0), .val (.int p1), .val (.int (2 : Int32)), .val (.int (2 : Int32)), .val (.ref wTRUE), .unset, .unset]) rfl ?_
        show Steps p.tables e below (T128.setTop (mkF m 20 #[.val (.int p0), .val (.int p1), .val (.int (2 : Int32)), .val (.int (2 : Int32)), .val (.ref wTRUE), .unset, .unset] [])) _
        refine XS.iloadN X128.here hx rfl (hb hby at_20) rfl ?_
        exact kt)
      rw [((by rw [f1, if_neg ((by decide) : ¬ ((2 : Int32) = (0 : Int32))), if_neg ((by decide) : ¬ ((2 : Int32) = (1 : Int32)))]) : (f1 (2 : Int32) wFALSE wTRUE wUNKNOWN) = wTRUE)] at hQ130
      obtain ⟨rfl, N130q, e130⟩ := hQ130
      have N130 := Fr.app N128 N130q
      obtain ⟨cq132, kq132, q132a, q132b, q132c⟩ := isOf hZ e130 ETRUE
      obtain ⟨_, _, ⟨T132, L132, k132, n132⟩, -, X132, ⟨Lc132, hQ132, l132, y132, z132⟩, st132⟩ := X130.virtualBack hx (y := (⟨"com/example/ongoing_grant/ongoinggrant/policy/Truth", "or", "(Lcom/example/ongoing_grant/ongoinggrant/policy/Truth;)Lcom/example/ongoing_grant/ongoinggrant/policy/Truth;"⟩ : MethodName)) (z := (⟨"com/example/ongoing_grant/ongoinggrant/policy/Truth", "or", "(Lcom/example/ongoing_grant/ongoinggrant/policy/Truth;)Lcom/example/ongoing_grant/ongoinggrant/policy/Truth;"⟩ : MethodName)) hown (mvT hZ (hw _ (List.mem_of_getElem? (i := 8) rfl))) (mvT hZ (hw _ (List.mem_of_getElem? (i := 9) rfl))) (notFace_of_selects (args := #[]) (mvT hZ (hw _ (List.mem_of_getElem? (i := 11) rfl)))) (mvT hZ (hw _ (List.mem_of_getElem? (i := 11) rfl))) (mvT hZ (hw _ (List.mem_of_getElem? (i := 10) rfl))) (by decide) (backOf (W := 0) (rm4 l Z a0 hw [] wTRUE wTRUE wFALSE wTRUE wUNKNOWN h0 n0 Z0 W0 ) hZ (hw _ (List.mem_of_getElem? (i := 12) rfl)) (hw _ (List.mem_of_getElem? (i := 6) rfl)) (by decide) (by decide)) q132a q132c (g := (mkF m 30 #[.val (.int p0), .val (.int p1), .val (.int (2 : Int32)), .val (.int (2 : Int32)), .val (.ref wTRUE), .val (.ref wTRUE), .unset] [(.ref wTRUE), (.ref wTRUE)])) rfl (by rw [hml]; rfl) (Steps.refl _) (argsL := [(.ref wTRUE)]) (rest := []) (lenOf pd_1 rfl) rfl (by show 2 * 0 + _ ≤ _; exact Nat.le_of_eq rfl) (hb hby at_30) (fun _ _ => ⟨rfl, e130, (by decide : 0 + 0 ≤ _), (by decide : 0 + 0 ≤ _)⟩)
      dsimp only [Pt.U, Pt.locs, Pt.cells, Pt.slots] at X132 l132 y132 z132 st132 hQ132
      subst l132 y132 z132
      unfold Q4 at hQ132
      have k133 : ∀ t, Steps p.tables e below (T130.setTop (mkF m 30 #[.val (.int p0), .val (.int p1), .val (.int (2 : Int32)), .val (.int (2 : Int32)), .val (.ref wTRUE), .val (.ref wTRUE), .unset] [(.ref wTRUE), (.ref wTRUE)])) t → Steps p.tables e below (s₁.setTop (entryFrame m #[(.int p0), (.int p1)] maxLocals)) t := fun t kt => k131 t (by
        show Steps p.tables e below (T128.setTop (mkF m 21 #[.val (.int p0), .val (.int p1), .val (.int (2 : Int32)), .val (.int (2 : Int32)), .val (.ref wTRUE), .unset, .unset] [(.int (2 : Int32))])) _
        refine st130 _ ?_
        show Steps p.tables e below (T130.setTop (mkF m 24 #[.val (.int p0), .val (.int p1), .val (.int (2 : Int32)), .val (.int (2 : Int32)), .val (.ref wTRUE), .unset, .unset] [(.ref wTRUE)])) _
        refine XS.astore X130.here hx rfl (hb hby at_24) rfl rfl (l' := #[.val (.int p0), .val (.int p1), .val (.int (2 : Int32)), .val (.int (2 : Int32)), .val (.ref wTRUE), .val (.ref wTRUE), .unset]) rfl ?_
        show Steps p.tables e below (T130.setTop (mkF m 26 #[.val (.int p0), .val (.int p1), .val (.int (2 : Int32)), .val (.int (2 : Int32)), .val (.ref wTRUE), .val (.ref wTRUE), .unset] [])) _
        refine XS.aload X130.here hx rfl (hb hby at_26) rfl rfl ?_
        show Steps p.tables e below (T130.setTop (mkF m 28 #[.val (.int p0), .val (.int p1), .val (.int (2 : Int32)), .val (.int (2 : Int32)), .val (.ref wTRUE), .val (.ref wTRUE), .unset] [(.ref wTRUE)])) _
        refine XS.aload X130.here hx rfl (hb hby at_28) rfl rfl ?_
        exact kt)
      rw [((by rw [f4, if_pos (rfl : wTRUE = wTRUE)]) : (f4 wTRUE wTRUE wFALSE wTRUE wUNKNOWN) = wTRUE)] at hQ132
      obtain ⟨rfl, N132q, e132⟩ := hQ132
      have N132 := Fr.app N130 N132q
      obtain ⟨_, _, ⟨T134, L134, k134, n134⟩, -, X134, ⟨Lc134, hQ134, l134, y134, z134⟩, st134⟩ := Jvm.LawKit.callS X132 hx (y := (⟨"com/example/ongoing_grant/ongoinggrant/policy/TruthOrPinLaw", "rank", "(Lcom/example/ongoing_grant/ongoinggrant/policy/Truth;)I"⟩ : MethodName)) hown (mvT hZ (hw _ (List.mem_of_getElem? (i := 16) rfl))) (mvT hZ (hw _ (List.mem_of_getElem? (i := 17) rfl))) (mvT hZ (hw _ (List.mem_of_getElem? (i := 3) rfl))) (mvT hZ (hw _ (List.mem_of_getElem? (i := 18) rfl))) (by decide) (backOf (W := 0) (rm2 l Z a0 hw [] wTRUE wFALSE wTRUE wUNKNOWN h0 n0 Z0 W0 ) hZ (hw _ (List.mem_of_getElem? (i := 18) rfl)) (hw _ (List.mem_of_getElem? (i := 3) rfl)) (by decide) (by decide)) (g := (mkF m 44 #[.val (.int p0), .val (.int p1), .val (.int (2 : Int32)), .val (.int (2 : Int32)), .val (.ref wTRUE), .val (.ref wTRUE), .val (.ref wTRUE)] [(.ref wTRUE)])) rfl (by rw [hml]; rfl) (argsL := [(.ref wTRUE)]) (rest := []) (lenOf pd_2 rfl) rfl (by show 2 * 0 + _ ≤ _; exact Nat.le_of_eq rfl) (hb hby at_44) (fun _ _ => ⟨rfl, e132, (by decide : 0 + 0 ≤ _), (by decide : 0 + 0 ≤ _)⟩)
      dsimp only [Pt.U, Pt.locs, Pt.cells, Pt.slots] at X134 l134 y134 z134 st134 hQ134
      subst l134 y134 z134
      unfold Q2 at hQ134
      have k135 : ∀ t, Steps p.tables e below (T132.setTop (mkF m 44 #[.val (.int p0), .val (.int p1), .val (.int (2 : Int32)), .val (.int (2 : Int32)), .val (.ref wTRUE), .val (.ref wTRUE), .val (.ref wTRUE)] [(.ref wTRUE)])) t → Steps p.tables e below (s₁.setTop (entryFrame m #[(.int p0), (.int p1)] maxLocals)) t := fun t kt => k133 t (by
        show Steps p.tables e below (T130.setTop (mkF m 30 #[.val (.int p0), .val (.int p1), .val (.int (2 : Int32)), .val (.int (2 : Int32)), .val (.ref wTRUE), .val (.ref wTRUE), .unset] [(.ref wTRUE), (.ref wTRUE)])) _
        refine st132.trans ?_
        show Steps p.tables e below (T132.setTop (mkF m 33 #[.val (.int p0), .val (.int p1), .val (.int (2 : Int32)), .val (.int (2 : Int32)), .val (.ref wTRUE), .val (.ref wTRUE), .unset] [(.ref wTRUE)])) _
        refine XS.astore X132.here hx rfl (hb hby at_33) rfl rfl (l' := #[.val (.int p0), .val (.int p1), .val (.int (2 : Int32)), .val (.int (2 : Int32)), .val (.ref wTRUE), .val (.ref wTRUE), .val (.ref wTRUE)]) rfl ?_
        show Steps p.tables e below (T132.setTop (mkF m 35 #[.val (.int p0), .val (.int p1), .val (.int (2 : Int32)), .val (.int (2 : Int32)), .val (.ref wTRUE), .val (.ref wTRUE), .val (.ref wTRUE)] [])) _
        refine XS.aload X132.here hx rfl (hb hby at_35) rfl rfl ?_
        show Steps p.tables e below (T132.setTop (mkF m 37 #[.val (.int p0), .val (.int p1), .val (.int (2 : Int32)), .val (.int (2 : Int32)), .val (.ref wTRUE), .val (.ref wTRUE), .val (.ref wTRUE)] [(.ref wTRUE)])) _
        refine XS.ifnonnullYes X132.here hx rfl (pc0 := 37) (pc' := 42) rfl (hb hby at_37) rfl (by decide) (by decide) ?_
        show Steps p.tables e below (T132.setTop (mkF m 42 #[.val (.int p0), .val (.int p1), .val (.int (2 : Int32)), .val (.int (2 : Int32)), .val (.ref wTRUE), .val (.ref wTRUE), .val (.ref wTRUE)] [])) _
        refine XS.aload X132.here hx rfl (hb hby at_42) rfl rfl ?_
        exact kt)
      rw [((by rw [f2, if_neg ((Fld.ne FTRUE_ordinal FFALSE_ordinal (by decide)) : ¬ (wTRUE = wFALSE)), if_neg ((Fld.ne FTRUE_ordinal FUNKNOWN_ordinal (by decide)) : ¬ (wTRUE = wUNKNOWN)), if_pos (rfl : wTRUE = wTRUE)]) : (f2 wTRUE wFALSE wTRUE wUNKNOWN) = (2 : Int32))] at hQ134
      obtain ⟨rfl, N134q, e134⟩ := hQ134
      have N134 := Fr.app N132 N134q
      obtain ⟨_, _, ⟨T136, L136, k136, n136⟩, -, X136, ⟨Lc136, hQ136, l136, y136, z136⟩, st136⟩ := Jvm.LawKit.callS X134 hx (y := (⟨"java/lang/Math", "max", "(II)I"⟩ : MethodName)) hown (mvT hZ (hw _ (List.mem_of_getElem? (i := 19) rfl))) (mvT hZ (hw _ (List.mem_of_getElem? (i := 20) rfl))) (mvT hZ (hw _ (List.mem_of_getElem? (i := 21) rfl))) (mvT hZ (hw _ (List.mem_of_getElem? (i := 22) rfl))) (by decide) (backOf (W := 1) (rm3 l Z a0 hw [] (2 : Int32) (2 : Int32) h0 n0 Z0 ) hZ (hw _ (List.mem_of_getElem? (i := 22) rfl)) (hw _ (List.mem_of_getElem? (i := 21) rfl)) (by decide) (by decide)) (g := (mkF m 49 #[.val (.int p0), .val (.int p1), .val (.int (2 : Int32)), .val (.int (2 : Int32)), .val (.ref wTRUE), .val (.ref wTRUE), .val (.ref wTRUE)] [(.int (2 : Int32)), (.int (2 : Int32)), (.int (2 : Int32))])) rfl (by rw [hml]; rfl) (argsL := [(.int (2 : Int32)), (.int (2 : Int32))]) (rest := [(.int (2 : Int32))]) (lenOf pd_3 rfl) rfl (by show 2 * 0 + _ ≤ _; exact Nat.le_of_eq rfl) (hb hby at_49) (fun _ _ => ⟨rfl, e134, (by decide : 0 + 0 ≤ _), (by decide : 0 + 0 ≤ _)⟩)
      dsimp only [Pt.U, Pt.locs, Pt.cells, Pt.slots] at X136 l136 y136 z136 st136 hQ136
      subst l136 y136 z136
      unfold Q3 at hQ136
      have k137 : ∀ t, Steps p.tables e below (T134.setTop (mkF m 49 #[.val (.int p0), .val (.int p1), .val (.int (2 : Int32)), .val (.int (2 : Int32)), .val (.ref wTRUE), .val (.ref wTRUE), .val (.ref wTRUE)] [(.int (2 : Int32)), (.int (2 : Int32)), (.int (2 : Int32))])) t → Steps p.tables e below (s₁.setTop (entryFrame m #[(.int p0), (.int p1)] maxLocals)) t := fun t kt => k135 t (by
        show Steps p.tables e below (T132.setTop (mkF m 44 #[.val (.int p0), .val (.int p1), .val (.int (2 : Int32)), .val (.int (2 : Int32)), .val (.ref wTRUE), .val (.ref wTRUE), .val (.ref wTRUE)] [(.ref wTRUE)])) _
        refine st134 _ ?_
        show Steps p.tables e below (T134.setTop (mkF m 47 #[.val (.int p0), .val (.int p1), .val (.int (2 : Int32)), .val (.int (2 : Int32)), .val (.ref wTRUE), .val (.ref wTRUE), .val (.ref wTRUE)] [(.int (2 : Int32))])) _
        refine XS.iloadN X134.here hx rfl (hb hby at_47) rfl ?_
        show Steps p.tables e below (T134.setTop (mkF m 48 #[.val (.int p0), .val (.int p1), .val (.int (2 : Int32)), .val (.int (2 : Int32)), .val (.ref wTRUE), .val (.ref wTRUE), .val (.ref wTRUE)] [(.int (2 : Int32)), (.int (2 : Int32))])) _
        refine XS.iloadN X134.here hx rfl (hb hby at_48) rfl ?_
        exact kt)
      rw [((by rw [f3, if_neg ((by first | exact Int32.lt_irrefl _ | decide) : ¬ ((2 : Int32) < (2 : Int32)))]) : (f3 (2 : Int32) (2 : Int32)) = (2 : Int32))] at hQ136
      obtain ⟨rfl, N136q, e136⟩ := hQ136
      have N136 := Fr.app N134 N136q
      obtain ⟨fs, hr, hrun, hended, hW, hsame⟩ := X136.leave (v := some (.int (1 : Int32))) (fun h => by rw [Bd.returns] at h; cases h)
      refine ⟨_, _, k137 _ ?_, hrun, hended, _, _, rfl, ?_, ⟨_, rfl⟩, hW, hsame.mono (by decide) (by decide)⟩
      · show Steps p.tables e below (T134.setTop (mkF m 49 #[.val (.int p0), .val (.int p1), .val (.int (2 : Int32)), .val (.int (2 : Int32)), .val (.ref wTRUE), .val (.ref wTRUE), .val (.ref wTRUE)] [(.int (2 : Int32)), (.int (2 : Int32)), (.int (2 : Int32))])) _
        refine st136 _ ?_
        show Steps p.tables e below (T136.setTop (mkF m 52 #[.val (.int p0), .val (.int p1), .val (.int (2 : Int32)), .val (.int (2 : Int32)), .val (.ref wTRUE), .val (.ref wTRUE), .val (.ref wTRUE)] [(.int (2 : Int32)), (.int (2 : Int32))])) _
        refine XS.icmpNo X136.here hx rfl (hb hby at_52) rfl (teq (rfl : (2 : Int32) = (2 : Int32))).2 ?_
        show Steps p.tables e below (T136.setTop (mkF m 55 #[.val (.int p0), .val (.int p1), .val (.int (2 : Int32)), .val (.int (2 : Int32)), .val (.ref wTRUE), .val (.ref wTRUE), .val (.ref wTRUE)] [])) _
        refine XS.iconst X136.here hx rfl (hb hby at_55) ?_
        show Steps p.tables e below (T136.setTop (mkF m 56 #[.val (.int p0), .val (.int p1), .val (.int (2 : Int32)), .val (.int (2 : Int32)), .val (.ref wTRUE), .val (.ref wTRUE), .val (.ref wTRUE)] [(.int (1 : Int32))])) _
        refine XS.goto X136.here hx rfl (pc0 := 56) (pc' := 60) rfl (hb hby at_56) (by decide) (by decide) ?_
        show Steps p.tables e below (T136.setTop (mkF m 60 #[.val (.int p0), .val (.int p1), .val (.int (2 : Int32)), .val (.int (2 : Int32)), .val (.ref wTRUE), .val (.ref wTRUE), .val (.ref wTRUE)] [(.int (1 : Int32))])) _
        exact retN X136 hx (t := .boolean) Bd.returns (by simp) (hb hby at_60) hr
      · show Q0 Z p0 p1 wFALSE wTRUE wUNKNOWN h0 n0 _ T136.heap _
        rw [e136]
        exact ⟨rfl, N136⟩
set_option maxRecDepth 65536 in
set_option maxHeartbeats 40000000 in
theorem comes_1 {Post : Tables → Env → Array Value → State → Outcome → State → Prop} (hpost : ∀ tb e args s v u, (limb_1_1.after args s (.returned v) u = true ∧ limb_1_2.after args s (.returned v) u = true ∧ True) → FrameEnd s (.returned v) u (Jvm.fieldLocs frame_1_writes args s ++ Jvm.arrayLocs frame_1_arrays args s ++ Jvm.staticLocs frame_1_statics s) 0 0 → Post tb e args s (.returned v) u) :
    ArmFor flags0 classFile x code maxLocals ret World_1 tables_1 room_1 Calls_1 rest_1 Pre_1 Post := by
  intro l hfl _ _ p e ha hc hk s m args below hf hA hF happ hP
  obtain ⟨hcalls, hrest, hpre⟩ := hP
  obtain ⟨-, -, -, hnamed, -, -, -, hat⟩ := (Spec.applies_iff hf).mp happ
  obtain ⟨hg, hn⟩ := and_e (Cond.before_iff.mp (show (Jvm.Cond.and given_1 narrow_1).before args s = true from hpre))
  obtain ⟨gc, gr0⟩ := and_e hg
  obtain ⟨ga0, ga1⟩ := and_e gr0
  obtain ⟨w0, w1, rfl⟩ : ∃ w0 w1 : Value, args = #[w0, w1] := by
    have hs : args.size = 2 := by simpa [Cond.value, given_1] using gc
    obtain ⟨L⟩ := args
    match L, hs with
    | [w0, w1], _ => exact ⟨w0, w1, rfl⟩
  have hw := fun d (hd : d ∈ tables_1) => atoms_spec (ws := Jvm.Cond.code x code maxLocals ret :: tables_1) hat d (List.mem_cons_of_mem _ hd)
  have hfit : Fit s := fun {y c} hc i hi => by
    obtain ⟨ha, rfl⟩ := Array.getElem?_eq_some_iff.mp hc
    have q := List.all_eq_true.mp ((Array.all_eq_true_iff_forall_mem.mp hF) _ (Array.getElem_mem ha)) i (List.mem_range.mpr hi)
    simpa [Array.getElem?_eq_getElem hi] using q
  obtain ⟨i0, ei0⟩ := is_v ga0
  obtain rfl : w0 = (.int i0) := Option.some.inj ei0
  obtain ⟨i1, ei1⟩ := is_v ga1
  obtain rfl : w1 = (.int i1) := Option.some.inj ei1
  obtain ⟨nr0, hn0⟩ := and_e hn
  obtain ⟨nr1, hn1⟩ := and_e hn0
  obtain ⟨nr2, hn2⟩ := and_e hn1
  obtain ⟨nr3, hn3⟩ := and_e hn2
  obtain ⟨nr4, nr5⟩ := and_e hn3
  obtain ⟨wFALSE, evwFALSE⟩ := exa_v nr0
  have SFALSE : Sta s s.heap "com/example/ongoing_grant/ongoinggrant/policy/Truth" "FALSE" "Lcom/example/ongoing_grant/ongoinggrant/policy/Truth;" (.ref wFALSE) := Sta.start evwFALSE (Or.inr ⟨(hw _ (List.mem_of_getElem? (i := 6) rfl)), (hw _ (List.mem_of_getElem? (i := 7) rfl))⟩)
  obtain ⟨wTRUE, evwTRUE⟩ := exa_v nr1
  have STRUE : Sta s s.heap "com/example/ongoing_grant/ongoinggrant/policy/Truth" "TRUE" "Lcom/example/ongoing_grant/ongoinggrant/policy/Truth;" (.ref wTRUE) := Sta.start evwTRUE (Or.inr ⟨(hw _ (List.mem_of_getElem? (i := 6) rfl)), (hw _ (List.mem_of_getElem? (i := 14) rfl))⟩)
  obtain ⟨wUNKNOWN, evwUNKNOWN⟩ := exa_v nr4
  have SUNKNOWN : Sta s s.heap "com/example/ongoing_grant/ongoinggrant/policy/Truth" "UNKNOWN" "Lcom/example/ongoing_grant/ongoinggrant/policy/Truth;" (.ref wUNKNOWN) := Sta.start evwUNKNOWN (Or.inr ⟨(hw _ (List.mem_of_getElem? (i := 6) rfl)), (hw _ (List.mem_of_getElem? (i := 25) rfl))⟩)
  have EFALSE : Exa s s.heap wFALSE "com/example/ongoing_grant/ongoinggrant/policy/Truth" := Exa.start evwFALSE nr0
  have ETRUE : Exa s s.heap wTRUE "com/example/ongoing_grant/ongoinggrant/policy/Truth" := Exa.start evwTRUE nr1
  have FFALSE_ordinal : Fld s s.heap wFALSE "java/lang/Enum" "ordinal" "I" (.int (1 : Int32)) := own_fldI evwFALSE nr2
  have FTRUE_ordinal : Fld s s.heap wTRUE "java/lang/Enum" "ordinal" "I" (.int (0 : Int32)) := own_fldI evwTRUE nr3
  have EUNKNOWN : Exa s s.heap wUNKNOWN "com/example/ongoing_grant/ongoinggrant/policy/Truth" := Exa.start evwUNKNOWN nr4
  have FUNKNOWN_ordinal : Fld s s.heap wUNKNOWN "java/lang/Enum" "ordinal" "I" (.int (2 : Int32)) := own_fldI evwUNKNOWN nr5
  obtain ⟨n, o, h1, h2, h3, _, L, rfl, ⟨rfl, N⟩, hq⟩ := rm0 l s _ hw tables_1 i0 i1 wFALSE wTRUE wUNKNOWN s.heap s.heap.size (Nat.le_refl _) ⟨SFALSE, EFALSE, STRUE, ETRUE, FFALSE_ordinal, FTRUE_ordinal, SUNKNOWN, EUNKNOWN, FUNKNOWN_ordinal, trivial⟩  p e ha hc hk s m _ below hf ((Spec.applies_iff_loose hf).mp happ).1 ⟨rfl, State.Warmed39.refl s, rfl⟩ trivial
  refine ⟨n, _, h1, h2, h3, hpost _ _ _ _ _ _ ⟨Cond.after_iff.mpr rfl, Cond.after_iff.mpr (eq_i res_at (Term.int_eval (1)) rfl), trivial⟩ ⟨hq.1, hq.2.1, (hq.2.2.sift fun y hy => Or.inr (N y hy)).mono (by decide) (by decide)⟩⟩
theorem main_1_1 : Claimed_1_1 := comes_1 fun _ _ _ _ _ _ h hF => ⟨h.1, hF⟩
theorem main_1_2 : Claimed_1_2 := comes_1 fun _ _ _ _ _ _ h hF => ⟨h.2.1, hF⟩
end Jvm.Pilot.@@N@@
namespace Jvm.Pilot.@@N@@
open Jvm Jvm.ClassFile Sem Op Lib Jvm.Free Jvm.Stand Jvm.Pilot.@@N@@.Jvm.D
/-! MADE BY PROGRAM (witnessworld.py) out of the Statement's table words and the real class files: 13 classes; the members and pool entries that the words name. The judged class is class 1, her method 3. -/
namespace start1
open Jvm.ClassFile
def u (s : String) : CpInfo := .utf8 (stringToUtf16 s)
/-- a pool by its gaps: so many unusable entries, then the entry; so many at the end -/
def gap : Nat → List CpInfo → List CpInfo
  | 0, r => r
  | n + 1, r => .unusable :: gap n r
def poolList (es : List (Nat × CpInfo)) (last : Nat) : List CpInfo := es.foldr (fun e r => gap e.1 (e.2 :: r)) (gap last [])
def pool (es : List (Nat × CpInfo)) (last : Nat) : Array CpInfo := ⟨poolList es last⟩
def fileOf (pool : Array CpInfo) (this : Nat) (attrs : Array Attribute := #[]) (ms : Array MethodInfo := #[]) (fl : Nat := 33) (sup : Nat := 0) (ifs : Array Nat := #[]) (fds : Array FieldInfo := #[]) : ClassFile where
  minorVersion := 0
  majorVersion := 65
  constantPool := pool
  accessFlags := fl
  thisClass := this
  superClass := sup
  interfaces := ifs
  fields := fds
  methods := ms
  attributes := attrs
def plain (name : String) (sup : Option ClassId) : Class where
  name := name
  kind := .ordinary
  loader := none
  accessFlags := 33
  super := sup
  interfaces := #[]
  cf := none
  fields := #[]
  methods := #[]
  instanceTypes := #[]
  staticTypes := #[]
  resolved := #[]
  callSites := []
  init := .initialized
  statics := none
  mirror := none

def pool0 : Array CpInfo := pool [(5, u "<init>"), (0, u "()V"), (1, .class_ 10), (1, u "java/lang/Object")] 113

def k0m0 : Method := { name := "<init>", desc := "()V", sig := { parameters := [], returnType := none }, accessFlags := 1, code := none }
/-- java/lang/Object -/
def k0 : Class := { plain "java/lang/Object" none with
  accessFlags := 33
  interfaces := #[]
  cf := some (fileOf pool0 8 #[] #[{ accessFlags := 1, nameIndex := 5, descriptorIndex := 6, attributes := #[] }] 33 0 #[] #[])
  fields := #[]
  methods := #[k0m0]
  instanceTypes := #[]
  staticTypes := #[]
  resolved := Array.replicate 124 none
  statics := none }

def pool1 : Array CpInfo := pool [(2, .class_ 4), (1, u "java/lang/Object"), (0, u "<init>"), (0, u "()V"), (0, .fieldref 8 9), (0, .class_ 10), (0, .nameAndType 11 12), (0, u "com/example/ongoing_grant/ongoinggrant/policy/Truth"), (0, u "FALSE"), (0, u "Lcom/example/ongoing_grant/ongoinggrant/policy/Truth;"), (0, .fieldref 8 14), (0, .nameAndType 15 12), (0, u "UNKNOWN"), (0, .fieldref 8 17), (0, .nameAndType 18 12), (0, u "TRUE"), (0, .integer 2147483647), (0, .methodref 21 22), (0, .class_ 23), (0, .nameAndType 24 25), (0, u "com/example/ongoing_grant/ongoinggrant/policy/TruthOrPinLaw"), (0, u "pick"), (0, u "(I)Lcom/example/ongoing_grant/ongoinggrant/policy/Truth;"), (0, .methodref 8 27), (0, .nameAndType 28 29), (0, u "or"), (0, u "(Lcom/example/ongoing_grant/ongoinggrant/policy/Truth;)Lcom/example/ongoing_grant/ongoinggrant/policy/Truth;"), (0, .methodref 21 31), (0, .nameAndType 32 33), (0, u "rank"), (0, u "(Lcom/example/ongoing_grant/ongoinggrant/policy/Truth;)I"), (0, .methodref 35 36), (0, .class_ 37), (0, .nameAndType 38 39), (0, u "java/lang/Math"), (0, u "max"), (0, u "(II)I"), (3, u "law"), (0, u "(II)Z")] 2

def k1m0 : Method := { name := "<init>", desc := "()V", sig := { parameters := [], returnType := none }, accessFlags := 1, code := none }
def k1c1 : Code := { maxStack := 2, maxLocals := 1, code := method_2_code, exceptionTable := #[], attributes := #[] }
def k1m1 : Method := { name := "pick", desc := "(I)Lcom/example/ongoing_grant/ongoinggrant/policy/Truth;", sig := { parameters := [.int], returnType := some (.object "com/example/ongoing_grant/ongoinggrant/policy/Truth") }, accessFlags := 10, code := some k1c1 }
def k1c2 : Code := { maxStack := 2, maxLocals := 1, code := method_3_code, exceptionTable := #[], attributes := #[] }
def k1m2 : Method := { name := "rank", desc := "(Lcom/example/ongoing_grant/ongoinggrant/policy/Truth;)I", sig := { parameters := [(.object "com/example/ongoing_grant/ongoinggrant/policy/Truth")], returnType := some .int }, accessFlags := 10, code := some k1c2 }
def k1c3 : Code := { maxStack := 3, maxLocals := 7, code := code, exceptionTable := #[], attributes := #[] }
def k1m3 : Method := { name := "law", desc := "(II)Z", sig := { parameters := [.int, .int], returnType := some .boolean }, accessFlags := 9, code := some k1c3 }
/-- com/example/ongoing_grant/ongoinggrant/policy/TruthOrPinLaw -/
def k1 : Class := { plain "com/example/ongoing_grant/ongoinggrant/policy/TruthOrPinLaw" (some 0) with
  accessFlags := 49
  interfaces := #[]
  cf := some (fileOf pool1 21 #[] #[{ accessFlags := 1, nameIndex := 5, descriptorIndex := 6, attributes := #[] }, { accessFlags := 10, nameIndex := 24, descriptorIndex := 25, attributes := #[] }, { accessFlags := 10, nameIndex := 32, descriptorIndex := 33, attributes := #[] }, { accessFlags := 9, nameIndex := 43, descriptorIndex := 44, attributes := #[] }] 49 2 #[] #[])
  fields := #[]
  methods := #[k1m0, k1m1, k1m2, k1m3]
  instanceTypes := #[]
  staticTypes := #[]
  resolved := Array.replicate 47 none
  statics := none }

def pool2 : Array CpInfo := pool [(1, .class_ 2), (0, u "java/lang/constant/Constable"), (0, .class_ 4), (0, u "java/lang/Object")] 6

/-- java/lang/constant/Constable -/
def k2 : Class := { plain "java/lang/constant/Constable" (some 0) with
  accessFlags := 1537
  interfaces := #[]
  cf := some (fileOf pool2 1 #[] #[] 1537 3 #[] #[])
  fields := #[]
  methods := #[]
  instanceTypes := #[]
  staticTypes := #[]
  resolved := Array.replicate 11 none
  statics := none }

def pool3 : Array CpInfo := pool [(1, .class_ 2), (0, u "java/lang/Comparable"), (0, .class_ 4), (0, u "java/lang/Object")] 7

/-- java/lang/Comparable -/
def k3 : Class := { plain "java/lang/Comparable" (some 0) with
  accessFlags := 1537
  interfaces := #[]
  cf := some (fileOf pool3 1 #[] #[] 1537 3 #[] #[])
  fields := #[]
  methods := #[]
  instanceTypes := #[]
  staticTypes := #[]
  resolved := Array.replicate 12 none
  statics := none }

def pool4 : Array CpInfo := pool [(1, .class_ 2), (0, u "java/io/Serializable"), (0, .class_ 4), (0, u "java/lang/Object")] 2

/-- java/io/Serializable -/
def k4 : Class := { plain "java/io/Serializable" (some 0) with
  accessFlags := 1537
  interfaces := #[]
  cf := some (fileOf pool4 1 #[] #[] 1537 3 #[] #[])
  fields := #[]
  methods := #[]
  instanceTypes := #[]
  staticTypes := #[]
  resolved := Array.replicate 7 none
  statics := none }

def pool5 : Array CpInfo := pool [(2, .class_ 4), (1, u "java/lang/Enum"), (0, u "name"), (0, u "Ljava/lang/String;"), (2, u "ordinal"), (0, u "I"), (1, .class_ 14), (1, u "java/lang/Object"), (4, u "hash"), (86, .class_ 108), (1, u "java/lang/Enum$EnumDesc"), (2, .class_ 112), (0, u "java/lang/constant/Constable"), (0, .class_ 114), (0, u "java/lang/Comparable"), (0, .class_ 116), (0, u "java/io/Serializable")] 87

/-- java/lang/Enum -/
def k5 : Class := { plain "java/lang/Enum" (some 0) with
  accessFlags := 1057
  interfaces := #[2, 3, 4]
  cf := some (fileOf pool5 2 #[.nestMembers #[106]] #[] 1057 12 #[111, 113, 115] #[{ accessFlags := 18, nameIndex := 5, descriptorIndex := 6, attributes := #[] }, { accessFlags := 18, nameIndex := 9, descriptorIndex := 10, attributes := #[] }, { accessFlags := 2, nameIndex := 19, descriptorIndex := 10, attributes := #[] }])
  fields := #[{ name := "name", type := (.object "java/lang/String"), accessFlags := 18, slot := 0, constantValue := 0 }, { name := "ordinal", type := .int, accessFlags := 18, slot := 1, constantValue := 0 }, { name := "hash", type := .int, accessFlags := 2, slot := 2, constantValue := 0 }]
  methods := #[]
  instanceTypes := #[(.object "java/lang/String"), .int, .int]
  staticTypes := #[]
  resolved := Array.replicate 204 none
  statics := none }

def pool6 : Array CpInfo := pool [(1, .class_ 2), (0, u "com/example/ongoing_grant/ongoinggrant/policy/Truth"), (0, .fieldref 1 4), (0, .nameAndType 5 6), (0, u "TRUE"), (0, u "Lcom/example/ongoing_grant/ongoinggrant/policy/Truth;"), (0, .fieldref 1 8), (0, .nameAndType 9 6), (0, u "FALSE"), (0, .fieldref 1 11), (0, .nameAndType 12 6), (0, u "UNKNOWN"), (2, u "$VALUES"), (0, u "[Lcom/example/ongoing_grant/ongoinggrant/policy/Truth;"), (6, .class_ 25), (1, u "java/lang/Enum"), (34, u "(Lcom/example/ongoing_grant/ongoinggrant/policy/Truth;)Lcom/example/ongoing_grant/ongoinggrant/policy/Truth;"), (0, u "or")] 6

def k6c0 : Code := { maxStack := 2, maxLocals := 3, code := prog_86_method_6_code, exceptionTable := #[], attributes := #[] }
def k6m0 : Method := { name := "or", desc := "(Lcom/example/ongoing_grant/ongoinggrant/policy/Truth;)Lcom/example/ongoing_grant/ongoinggrant/policy/Truth;", sig := { parameters := [(.object "com/example/ongoing_grant/ongoinggrant/policy/Truth")], returnType := some (.object "com/example/ongoing_grant/ongoinggrant/policy/Truth") }, accessFlags := 1, code := some k6c0 }
/-- com/example/ongoing_grant/ongoinggrant/policy/Truth -/
def k6 : Class := { plain "com/example/ongoing_grant/ongoinggrant/policy/Truth" (some 5) with
  accessFlags := 16433
  interfaces := #[]
  cf := some (fileOf pool6 1 #[] #[{ accessFlags := 1, nameIndex := 61, descriptorIndex := 60, attributes := #[] }] 16433 23 #[] #[{ accessFlags := 16409, nameIndex := 5, descriptorIndex := 6, attributes := #[] }, { accessFlags := 16409, nameIndex := 9, descriptorIndex := 6, attributes := #[] }, { accessFlags := 16409, nameIndex := 12, descriptorIndex := 6, attributes := #[] }, { accessFlags := 4122, nameIndex := 15, descriptorIndex := 16, attributes := #[] }])
  fields := #[{ name := "TRUE", type := (.object "com/example/ongoing_grant/ongoinggrant/policy/Truth"), accessFlags := 16409, slot := 0, constantValue := 0 }, { name := "FALSE", type := (.object "com/example/ongoing_grant/ongoinggrant/policy/Truth"), accessFlags := 16409, slot := 1, constantValue := 0 }, { name := "UNKNOWN", type := (.object "com/example/ongoing_grant/ongoinggrant/policy/Truth"), accessFlags := 16409, slot := 2, constantValue := 0 }, { name := "$VALUES", type := (.array (.object "com/example/ongoing_grant/ongoinggrant/policy/Truth")), accessFlags := 4122, slot := 3, constantValue := 0 }]
  methods := #[k6m0]
  instanceTypes := #[(.object "java/lang/String"), .int, .int]
  staticTypes := #[(.object "com/example/ongoing_grant/ongoinggrant/policy/Truth"), (.object "com/example/ongoing_grant/ongoinggrant/policy/Truth"), (.object "com/example/ongoing_grant/ongoinggrant/policy/Truth"), (.array (.object "com/example/ongoing_grant/ongoinggrant/policy/Truth"))]
  resolved := Array.replicate 68 none
  statics := some 0 }

def pool7 : Array CpInfo := pool [(1, .class_ 2), (0, u "java/lang/Math"), (1, .class_ 6), (1, u "java/lang/Object"), (0, u "<init>"), (0, u "()V"), (89, .class_ 100), (1, u "java/lang/Math$RandomNumberGeneratorHolder"), (71, u "negativeZeroFloatBits"), (0, u "J"), (2, u "negativeZeroDoubleBits"), (21, u "max"), (46, u "$assertionsDisabled"), (0, u "Z"), (88, u "(II)I"), (2, u "twoToTheDoubleScaleDown"), (0, u "D"), (4, u "twoToTheDoubleScaleUp"), (9, u "E"), (3, u "PI"), (2, u "TAU"), (2, u "DEGREES_TO_RADIANS"), (0, u "RADIANS_TO_DEGREES")] 94

def k7m0 : Method := { name := "<init>", desc := "()V", sig := { parameters := [], returnType := none }, accessFlags := 2, code := none }
def k7c1 : Code := { maxStack := 2, maxLocals := 2, code := jdk_29_method_65_code, exceptionTable := #[], attributes := #[] }
def k7m1 : Method := { name := "max", desc := "(II)I", sig := { parameters := [.int, .int], returnType := some .int }, accessFlags := 9, code := some k7c1 }
/-- java/lang/Math -/
def k7 : Class := { plain "java/lang/Math" (some 0) with
  accessFlags := 49
  interfaces := #[]
  cf := some (fileOf pool7 1 #[.nestMembers #[98]] #[{ accessFlags := 2, nameIndex := 7, descriptorIndex := 8, attributes := #[] }, { accessFlags := 9, nameIndex := 198, descriptorIndex := 335, attributes := #[] }] 49 4 #[] #[{ accessFlags := 25, nameIndex := 354, descriptorIndex := 339, attributes := #[] }, { accessFlags := 25, nameIndex := 358, descriptorIndex := 339, attributes := #[] }, { accessFlags := 25, nameIndex := 361, descriptorIndex := 339, attributes := #[] }, { accessFlags := 26, nameIndex := 364, descriptorIndex := 339, attributes := #[] }, { accessFlags := 26, nameIndex := 365, descriptorIndex := 339, attributes := #[] }, { accessFlags := 26, nameIndex := 172, descriptorIndex := 173, attributes := #[] }, { accessFlags := 26, nameIndex := 176, descriptorIndex := 173, attributes := #[] }, { accessFlags := 8, nameIndex := 344, descriptorIndex := 339, attributes := #[] }, { accessFlags := 8, nameIndex := 338, descriptorIndex := 339, attributes := #[] }, { accessFlags := 4120, nameIndex := 245, descriptorIndex := 246, attributes := #[] }])
  fields := #[{ name := "E", type := .double, accessFlags := 25, slot := 0, constantValue := 0 }, { name := "PI", type := .double, accessFlags := 25, slot := 1, constantValue := 0 }, { name := "TAU", type := .double, accessFlags := 25, slot := 2, constantValue := 0 }, { name := "DEGREES_TO_RADIANS", type := .double, accessFlags := 26, slot := 3, constantValue := 0 }, { name := "RADIANS_TO_DEGREES", type := .double, accessFlags := 26, slot := 4, constantValue := 0 }, { name := "negativeZeroFloatBits", type := .long, accessFlags := 26, slot := 5, constantValue := 0 }, { name := "negativeZeroDoubleBits", type := .long, accessFlags := 26, slot := 6, constantValue := 0 }, { name := "twoToTheDoubleScaleUp", type := .double, accessFlags := 8, slot := 7, constantValue := 0 }, { name := "twoToTheDoubleScaleDown", type := .double, accessFlags := 8, slot := 8, constantValue := 0 }, { name := "$assertionsDisabled", type := .boolean, accessFlags := 4120, slot := 9, constantValue := 0 }]
  methods := #[k7m0, k7m1]
  instanceTypes := #[]
  staticTypes := #[.double, .double, .double, .double, .double, .long, .long, .double, .double, .boolean]
  resolved := Array.replicate 460 none
  statics := none }

def pool8 : Array CpInfo := pool [(1, u "java/lang/Cloneable"), (0, .class_ 1), (0, u "java/lang/Object"), (0, .class_ 3)] 3

/-- java/lang/Cloneable -/
def k8 : Class := { plain "java/lang/Cloneable" (some 0) with
  accessFlags := 1537
  interfaces := #[]
  cf := some (fileOf pool8 2 #[] #[] 1537 4 #[] #[])
  fields := #[]
  methods := #[]
  instanceTypes := #[]
  staticTypes := #[]
  resolved := Array.replicate 8 none
  statics := none }

/-- the primitive byte -/
def k9 : Class := { plain "byte" none with kind := .primitive 'B', accessFlags := 0x411 }
/-- [B -/
def k10 : Class := { plain "[B" (some 0) with kind := .array 9 .byte, interfaces := #[8, 4], accessFlags := 1041 }

/-- the primitive int -/
def k11 : Class := { plain "int" none with kind := .primitive 'I', accessFlags := 0x411 }
/-- [I -/
def k12 : Class := { plain "[I" (some 0) with kind := .array 11 .int, interfaces := #[8, 4], accessFlags := 1041 }

def heap : Heap := #[{ cls := 6, slots := #[.ref 2, .ref 1, .ref 3, .null], vm := .statics 6 },
  { cls := 6, slots := #[.null, .int 1, .int 0], vm := .none },
  { cls := 6, slots := #[.null, .int 0, .int 0], vm := .none },
  { cls := 6, slots := #[.null, .int 2, .int 0], vm := .none }]
def classes : Array Class := #[k0, k1, k2, k3, k4, k5, k6, k7, k8, k9, k10, k11, k12]
def interned : List (Array UInt16 × Addr) := []
def slotsUsed : Nat := 13
def theMethod : MethodId := ⟨1, 3⟩
def args0 : Array Value := #[.int 5, .int 7]
def aboutOver (below : List Frame) : State where
  vm := { classes := classes, interned := interned.toArray }
  heap := heap
  slotsUsed := slotsUsed
  threads := #[{ frames := .invoking theMethod args0 :: below }]
def below0 : List Frame := [.native { method := ⟨0, 0⟩, args := #[] }]
def about1 : State := aboutOver below0
def p0 : Program := .bare "" "" ""
def e0 : Env := launch0.env 0 0 0
theorem w_frames : about1.frames = Frame.invoking theMethod args0 :: below0 := rfl
set_option maxRecDepth 65536 in
theorem w_args : argsFit about1.vm theMethod args0 = true := by decide +kernel
set_option maxRecDepth 65536 in
theorem w_heap : heapFits about1 = true := by decide +kernel
set_option maxRecDepth 65536 in
theorem w_runnable : about1.curStatus? = some .runnable := by decide +kernel
set_option maxRecDepth 65536 in
theorem w_alone : about1.alone = true := by decide +kernel
set_option maxRecDepth 65536 in
theorem w_named : about1.methodNamed? x = some theMethod := by decide +kernel
set_option maxRecDepth 65536 in
theorem w_hears : about1.hears theMethod below0 = true := by decide +kernel
set_option maxRecDepth 65536 in
theorem w_ripe : about1.ripe theMethod args0 below0 = true := by decide +kernel
theorem w_running : about1.status = .running := rfl
set_option maxRecDepth 65536 in
theorem w_room : about1.hasRoom e0.platform room_1 = true :=
  launch0.hasRoom_least _ room_1 (by decide +kernel) (by decide +kernel) (by decide +kernel) (by decide +kernel) (by decide +kernel) (by decide +kernel)
theorem allAtoms_all (ts : List Jvm.Cond) (a : Array Jvm.Value) (st : Jvm.State) : (allAtoms ts).before a st = ts.all (fun c => c.before a st) := by
  induction ts with
  | nil => rfl
  | cons c t ih =>
    show (Jvm.Cond.and c (allAtoms t)).before a st = _
    rw [Jvm.Cond.before_and, ih, List.all_cons]
def words1 : List Jvm.Cond := Jvm.Cond.code x code maxLocals ret :: tables_1
/-- a 'code' word, met by the world's own term for the bytes: nothing is compared byte by byte -/
theorem code_word {y : MethodName} {bytes : ByteArray} {mx : Nat} {rt : Option FieldType} {a : Array Value} {s : State} {m : MethodId} {meth : Method} {c : Code} (h1 : s.methodNamed? y = some m) (h2 : s.vm.method? m = some meth) (h3 : meth.code = some c) (h4 : c.code = bytes)
    (h5 : (c.maxLocals == mx && c.exceptionTable.isEmpty && decide (c.maxStack ≤ mostOperands) && decide (meth.sig.returnType = rt) && !meth.locks && decide (parseMethodDescriptor y.desc = some meth.sig)) = true) : (Jvm.Cond.code y bytes mx rt).before a s = true := by
  simp only [Bool.and_eq_true, beq_iff_eq, Bool.not_eq_true', decide_eq_true_eq] at h5
  obtain ⟨⟨⟨⟨⟨g1, g2⟩, g3⟩, g4⟩, g5⟩, g6⟩ := h5
  simp [Cond.before, Cond.holds, Cond.value, h1, h2, h3, h4, g1, g2, g3, g4, g5, g6]
def isCode : Jvm.Cond → Bool
  | .code _ _ _ _ => true
  | _ => false
theorem all_split {L : List Jvm.Cond} {P : Jvm.Cond → Bool} (h1 : L.all (fun c => isCode c || P c) = true) (h2 : ∀ c ∈ L.filter isCode, P c = true) : L.all P = true := by
  refine List.all_eq_true.mpr fun c hc => ?_
  have h := List.all_eq_true.mp h1 c hc
  rcases Bool.eq_false_or_eq_true (isCode c) with hi | hi
  · exact h2 c (List.mem_filter.mpr ⟨hc, hi⟩)
  · simpa [hi] using h
set_option maxRecDepth 65536 in
theorem w_c0 : (Jvm.Cond.code x code maxLocals ret).before args0 about1 = true := code_word (m := ⟨1, 3⟩) (meth := k1m3) (c := k1c3) (by decide +kernel) rfl rfl rfl (by decide +kernel)
set_option maxRecDepth 65536 in
theorem w_c1 : (Jvm.Cond.code ({ cls := "com/example/ongoing_grant/ongoinggrant/policy/TruthOrPinLaw", name := "pick", desc := "(I)Lcom/example/ongoing_grant/ongoinggrant/policy/Truth;" } : Jvm.MethodName) method_2_code (1 : Nat) (Option.some (Jvm.ClassFile.FieldType.object "com/example/ongoing_grant/ongoinggrant/policy/Truth"))).before args0 about1 = true := code_word (m := ⟨1, 1⟩) (meth := k1m1) (c := k1c1) (by decide +kernel) rfl rfl rfl (by decide +kernel)
set_option maxRecDepth 65536 in
theorem w_c2 : (Jvm.Cond.code ({ cls := "com/example/ongoing_grant/ongoinggrant/policy/Truth", name := "or", desc := "(Lcom/example/ongoing_grant/ongoinggrant/policy/Truth;)Lcom/example/ongoing_grant/ongoinggrant/policy/Truth;" } : Jvm.MethodName) prog_86_method_6_code (3 : Nat) (Option.some (Jvm.ClassFile.FieldType.object "com/example/ongoing_grant/ongoinggrant/policy/Truth"))).before args0 about1 = true := code_word (m := ⟨6, 0⟩) (meth := k6m0) (c := k6c0) (by decide +kernel) rfl rfl rfl (by decide +kernel)
set_option maxRecDepth 65536 in
theorem w_c3 : (Jvm.Cond.code ({ cls := "com/example/ongoing_grant/ongoinggrant/policy/TruthOrPinLaw", name := "rank", desc := "(Lcom/example/ongoing_grant/ongoinggrant/policy/Truth;)I" } : Jvm.MethodName) method_3_code (1 : Nat) (Option.some Jvm.ClassFile.FieldType.int)).before args0 about1 = true := code_word (m := ⟨1, 2⟩) (meth := k1m2) (c := k1c2) (by decide +kernel) rfl rfl rfl (by decide +kernel)
set_option maxRecDepth 65536 in
theorem w_c4 : (Jvm.Cond.code ({ cls := "java/lang/Math", name := "max", desc := "(II)I" } : Jvm.MethodName) jdk_29_method_65_code (2 : Nat) (Option.some Jvm.ClassFile.FieldType.int)).before args0 about1 = true := code_word (m := ⟨7, 1⟩) (meth := k7m1) (c := k7c1) (by decide +kernel) rfl rfl rfl (by decide +kernel)
def codes1 : List Jvm.Cond := [Jvm.Cond.code x code maxLocals ret, Jvm.Cond.code ({ cls := "com/example/ongoing_grant/ongoinggrant/policy/TruthOrPinLaw", name := "pick", desc := "(I)Lcom/example/ongoing_grant/ongoinggrant/policy/Truth;" } : Jvm.MethodName) method_2_code (1 : Nat) (Option.some (Jvm.ClassFile.FieldType.object "com/example/ongoing_grant/ongoinggrant/policy/Truth")), Jvm.Cond.code ({ cls := "com/example/ongoing_grant/ongoinggrant/policy/Truth", name := "or", desc := "(Lcom/example/ongoing_grant/ongoinggrant/policy/Truth;)Lcom/example/ongoing_grant/ongoinggrant/policy/Truth;" } : Jvm.MethodName) prog_86_method_6_code (3 : Nat) (Option.some (Jvm.ClassFile.FieldType.object "com/example/ongoing_grant/ongoinggrant/policy/Truth")), Jvm.Cond.code ({ cls := "com/example/ongoing_grant/ongoinggrant/policy/TruthOrPinLaw", name := "rank", desc := "(Lcom/example/ongoing_grant/ongoinggrant/policy/Truth;)I" } : Jvm.MethodName) method_3_code (1 : Nat) (Option.some Jvm.ClassFile.FieldType.int), Jvm.Cond.code ({ cls := "java/lang/Math", name := "max", desc := "(II)I" } : Jvm.MethodName) jdk_29_method_65_code (2 : Nat) (Option.some Jvm.ClassFile.FieldType.int)]
set_option maxRecDepth 65536 in
theorem codes_eq : words1.filter isCode = codes1 := rfl
theorem w_codes : ∀ c ∈ words1.filter isCode, c.before args0 about1 = true := by
  rw [codes_eq]
  intro c hc
  simp only [codes1, List.mem_cons, List.not_mem_nil, or_false] at hc
  rcases hc with rfl | rfl | rfl | rfl | rfl
  · exact w_c0
  · exact w_c1
  · exact w_c2
  · exact w_c3
  · exact w_c4
set_option maxRecDepth 65536 in
theorem w_t1 : (words1.take 24).all (fun c => isCode c || c.before args0 about1) = true := by decide +kernel
set_option maxRecDepth 65536 in
theorem w_t2 : (words1.drop 24).all (fun c => isCode c || c.before args0 about1) = true := by decide +kernel
theorem w_tables : (allAtoms (Jvm.Cond.code x code maxLocals ret :: tables_1)).before args0 about1 = true := by
  rw [allAtoms_all]
  show words1.all (fun c => c.before args0 about1) = true
  refine all_split ?_ w_codes
  rw [← List.take_append_drop 24 words1, List.all_append, w_t1, w_t2]
  rfl
set_option maxRecDepth 65536 in
theorem w_case : (Jvm.Cond.and given_1 narrow_1).before args0 about1 = true := by decide +kernel
theorem w_applies : (headSpec (Jvm.Cond.code x code maxLocals ret :: tables_1) room_1).applies x e0.platform about1 = true :=
  (Spec.applies_iff w_frames).mpr ⟨w_running, w_runnable, w_alone, w_named, w_hears, w_ripe, w_room, w_tables⟩
theorem atStart : AtStart classFile x code maxLocals ret World_1 tables_1 room_1 Calls_1 rest_1 Pre_1 launch0 p0 e0 about1 theMethod args0 below0 :=
  ⟨lists_1, trivial, launch0.admits_env _ _ _, launch0.least_env, fairChoices_fair.cas, fairChoices_fair.clock, w_frames, w_args, w_heap, w_applies, trivial, trivial, w_case⟩
end start1
theorem witness_1 : WitnessClaimed_1 := ⟨start1.p0, start1.e0, start1.about1, start1.theMethod, start1.args0, start1.below0, start1.atStart⟩
end Jvm.Pilot.@@N@@
