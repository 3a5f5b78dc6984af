import JvmDerived
import JvmDerived.Pilot.@@N@@Statement
import JvmDerived.Pilot.@@N@@Code
set_option linter.unusedVariables false
set_option linter.unusedSimpArgs false
namespace Jvm.RoadKit
open Sem ClassFile Op Lib Jvm.Stand Jvm.Free Jvm.LawKit
section New
variable {p : Program} {l : Launch} {e : Env} {R : Room} {s : State} {m : MethodId} {args : Array Value} {below : List Frame} {meth : Method} {c : Code} {T : State} {locs : List Loc} {cells slots : Nat}
theorem own_retI (X : Stand p l e R s m args below meth c T locs cells slots) (hx : p.tables.exec = Jvm.exec) {pc : Nat} {Ls : Array Slot} {z : Int32} {rest : List Value} (hret : meth.sig.returnType = some .int) (hd : decode c.code pc = .ok (.ireturn, 1)) {fs : List Frame}
    (hl : ∀ (f : JFrame) (acts : List Action), f.method = m → f.locked = none → f.entered = [] → (doReturn e (T.setTop f) acts (some (.int z))).1 = T.setFrames fs) : Steps p.tables e below (T.setTop (mkF m pc Ls (.int z :: rest))) (T.setFrames fs) :=
  retOut X hx hret rfl (Or.inl ⟨rfl, Or.inl rfl, z, rfl⟩) hd hl
theorem own_retL (X : Stand p l e R s m args below meth c T locs cells slots) (hx : p.tables.exec = Jvm.exec) {pc : Nat} {Ls : Array Slot} {z : Int64} {rest : List Value} (hret : meth.sig.returnType = some .long) (hd : decode c.code pc = .ok (.lreturn, 1)) {fs : List Frame}
    (hl : ∀ (f : JFrame) (acts : List Action), f.method = m → f.locked = none → f.entered = [] → (doReturn e (T.setTop f) acts (some (.long z))).1 = T.setFrames fs) : Steps p.tables e below (T.setTop (mkF m pc Ls (.long z :: rest))) (T.setFrames fs) :=
  retOut X hx hret rfl (Or.inr (Or.inl ⟨rfl, rfl, z, rfl⟩)) hd hl
theorem own_retA (X : Stand p l e R s m args below meth c T locs cells slots) (hx : p.tables.exec = Jvm.exec) {pc : Nat} {Ls : Array Slot} {w : Value} {t : FieldType} {rest : List Value} (hret : meth.sig.returnType = some t) (ht : t.isReference = true) (hw : w.isRef = true) (hd : decode c.code pc = .ok (.areturn, 1)) {fs : List Frame}
    (hl : ∀ (f : JFrame) (acts : List Action), f.method = m → f.locked = none → f.entered = [] → (doReturn e (T.setTop f) acts (some w)).1 = T.setFrames fs) : Steps p.tables e below (T.setTop (mkF m pc Ls (w :: rest))) (T.setFrames fs) :=
  retOut X hx hret (by cases t <;> cases w <;> simp_all [narrow, Value.isRef, FieldType.isReference]) (Or.inr (Or.inr (Or.inr (Or.inr ⟨rfl, ht, hw⟩)))) hd hl
end New
end Jvm.RoadKit
namespace Jvm.Pilot.@@N@@
open Jvm Jvm.ClassFile Sem Op Lib Jvm.Free Jvm.Stand Jvm.LawKit Jvm.RoadKit Bundle Jvm.Pilot.@@N@@.Jvm.D
theorem own_lcEt {x y : Int64} (h : x = y) : lcmpW x y = (0 : Int32) := by rw [lcW]; exact (lc_eq x y).mpr h
theorem own_lcEf {x y : Int64} (h : ¬ (x = y)) : ¬ (lcmpW x y = (0 : Int32)) := by rw [lcW]; exact fun q => h ((lc_eq x y).mp q)
theorem own_lcLt {x y : Int64} (h : x < y) : lcmpW x y < (0 : Int32) := by rw [lcW]; exact (lc_lt x y).mpr h
theorem own_lcLf {x y : Int64} (h : ¬ (x < y)) : ¬ (lcmpW x y < (0 : Int32)) := by rw [lcW]; exact fun q => h ((lc_lt x y).mp q)
theorem own_lcGt {x y : Int64} (h : y < x) : (0 : Int32) < lcmpW x y := by rw [lcW]; exact (lc_gt x y).mpr h
theorem own_lcGf {x y : Int64} (h : ¬ (y < x)) : ¬ ((0 : Int32) < lcmpW x y) := by rw [lcW]; exact fun q => h ((lc_gt x y).mp q)
theorem own_ext_refl (h : Heap) : Ext h h := ⟨Nat.le_refl _, fun _ _ q => q⟩
theorem own_ext_trans {h h' h'' : Heap} (E : Ext h h') (F : Ext h' h'') : Ext h h'' := ⟨Nat.le_trans E.1 F.1, fun a c q => F.2 a c (E.2 a c q)⟩
theorem own_ext_wr {h h' h'' : Heap} {a : Addr} {sl : Nat} {v : Value} (E : Ext h h') (W : Wr h' h'' a sl v) (q : h.size ≤ a) : Ext h h'' := by
  obtain ⟨cell, -, -, -, rfl⟩ := W
  refine ⟨by simpa using E.1, fun b c r => ?_⟩
  have hb : b < h.size := (Array.getElem?_eq_some_iff.mp r).1
  rw [Array.getElem?_setIfInBounds_ne (Nat.ne_of_gt (Nat.lt_of_lt_of_le hb q))]
  exact E.2 b c r
theorem own_fldI {args : Array Value} {s : State} {t : Term} {a : Addr} {C n d : String} {k : Int32} (ev : t.eval args s none [] s = some (.ref a)) (h : (Cond.eq (.field t C n d) (.int k)).value args s none s [] = some true) : Fld s s.heap a C n d (.int k) := by
  obtain ⟨u, v, h1, h2, -, k2⟩ := cmp_v (Or.inl h)
  have e2 : (Term.int k).eval args s none [] s = some (.int k) := rfl
  cases e2.symm.trans h2
  obtain ⟨z, rfl⟩ := k2
  have q : z = k := by simpa [Cond.value, h1, e2] using h
  subst q
  exact Fld.start ((fld_at ev).symm.trans h1)
theorem own_fldJ {args : Array Value} {s : State} {t : Term} {a : Addr} {C n d : String} {k : Int64} (ev : t.eval args s none [] s = some (.ref a)) (h : (Cond.eq (.field t C n d) (.long k)).value args s none s [] = some true) : Fld s s.heap a C n d (.long k) := by
  obtain ⟨u, v, h1, h2, -, k2⟩ := cmp_v (Or.inl h)
  have e2 : (Term.long k).eval args s none [] s = some (.long k) := rfl
  cases e2.symm.trans h2
  obtain ⟨z, rfl⟩ := k2
  have q : z = k := by simpa [Cond.value, h1, e2] using h
  subst q
  exact Fld.start ((fld_at ev).symm.trans h1)
theorem own_fldN {args : Array Value} {s : State} {t : Term} {a : Addr} {C n d : String} (ev : t.eval args s none [] s = some (.ref a)) (h : (Cond.eq (.field t C n d) .null).value args s none s [] = some true) : Fld s s.heap a C n d .null :=
  Fld.start ((fld_at ev).symm.trans (null_v h))
theorem own_eqR {args : Array Value} {s : State} {t u : Term} {b : Addr} (eu : u.eval args s none [] s = some (.ref b)) (h : (Cond.eq t u).value args s none s [] = some true) : t.eval args s none [] s = some (.ref b) := by
  obtain ⟨x, y, h1, h2, k1, k2⟩ := cmp_v (Or.inl h)
  cases eu.symm.trans h2
  have hx : x.isRef = true := k2.2
  have q := gotT (eq_R h1 h2 hx rfl) h
  rw [h1, q]
theorem own_fldR {args : Array Value} {s : State} {t u : Term} {a b : Addr} {C n d : String} (ev : t.eval args s none [] s = some (.ref a)) (eu : u.eval args s none [] s = some (.ref b)) (h : (Cond.eq (.field t C n d) u).value args s none s [] = some true) : Fld s s.heap a C n d (.ref b) :=
  Fld.start ((fld_at ev).symm.trans (own_eqR eu h))
theorem own_elI {args : Array Value} {s : State} {t : Term} {a : Addr} {cl : Cell} {j k : Int32} {i : Nat} (ev : t.eval args s none [] s = some (.ref a)) (hc : s.heap[a]? = some cl) (h : (Cond.eq (.elem t (.int j)) (.int k)).value args s none s [] = some true) (hj : j.toNatClampNeg = i) : cl.slots[i]? = some (.int k) := by
  obtain ⟨u, v, h1, h2, -, k2⟩ := cmp_v (Or.inl h)
  have e2 : (Term.int k).eval args s none [] s = some (.int k) := rfl
  cases e2.symm.trans h2
  obtain ⟨z, rfl⟩ := k2
  have q : z = k := by simpa [Cond.value, h1, e2] using h
  subst q hj
  exact (elem_in h1 ev (rfl : (Term.int j).eval args s none [] s = some (.int j)) hc).2
theorem own_elR {args : Array Value} {s : State} {t u : Term} {a b : Addr} {cl : Cell} {j : Int32} {i : Nat} (ev : t.eval args s none [] s = some (.ref a)) (eu : u.eval args s none [] s = some (.ref b)) (hc : s.heap[a]? = some cl) (h : (Cond.eq (.elem t (.int j)) u).value args s none s [] = some true) (hj : j.toNatClampNeg = i) : cl.slots[i]? = some (.ref b) := by
  subst hj
  exact (elem_in (own_eqR eu h) ev (rfl : (Term.int j).eval args s none [] s = some (.int j)) hc).2
theorem own_len {args : Array Value} {s : State} {t : Term} {a : Addr} {cl : Cell} {ty : FieldType} {k : Int32} (ev : t.eval args s none [] s = some (.ref a)) (A : Arr s s.heap a cl ty) (h : (Cond.eq (.length t) (.int k)).value args s none s [] = some true) : cl.slots.size < 2 ^ 31 ∧ cl.slots.size.toInt32 = k := by
  obtain ⟨u, v, h1, h2, -, k2⟩ := cmp_v (Or.inl h)
  have e2 : (Term.int k).eval args s none [] s = some (.int k) := rfl
  cases e2.symm.trans h2
  obtain ⟨z, rfl⟩ := k2
  have q : z = k := by simpa [Cond.value, h1, e2] using h
  subst q
  have ha := A.fin (Vm.Alike.refl _)
  simp only [Term.eval, ev, ha, Option.bind_eq_bind, Option.bind_some] at h1
  split at h1
  · rename_i q
    exact ⟨q, by simpa using h1⟩
  · cases h1
def World (Z : State) (h : Heap) (wDEBIT : Addr) (wCREDIT : Addr) : Prop := Sta Z h "com/example/rialto/rialto/ledger/Direction" "DEBIT" "Lcom/example/rialto/rialto/ledger/Direction;" (.ref wDEBIT) ∧ Exa Z h wDEBIT "com/example/rialto/rialto/ledger/Direction" ∧ Sta Z h "com/example/rialto/rialto/ledger/Direction" "CREDIT" "Lcom/example/rialto/rialto/ledger/Direction;" (.ref wCREDIT) ∧ Exa Z h wCREDIT "com/example/rialto/rialto/ledger/Direction" ∧ Fld Z h wDEBIT "java/lang/Enum" "ordinal" "I" (.int (1 : Int32)) ∧ Fld Z h wCREDIT "java/lang/Enum" "ordinal" "I" (.int (0 : Int32)) ∧ True
theorem World.ext {Z : State} {h h' : Heap} {wDEBIT : Addr} {wCREDIT : Addr} (W : World Z h wDEBIT wCREDIT) (E : Ext h h') : World Z h' wDEBIT wCREDIT := by
  obtain ⟨SDEBIT, EDEBIT, SCREDIT, ECREDIT, FDEBIT_ordinal, FCREDIT_ordinal, -⟩ := W
  exact ⟨SDEBIT.ext E, EDEBIT.ext E, SCREDIT.ext E, ECREDIT.ext E, FDEBIT_ordinal.ext E, FCREDIT_ordinal.ext E, trivial⟩
theorem d1_0 : decode prog_17_method_6_code 0 = .ok (.aload_n 0, 1) := by decide +kernel
theorem d1_1 : decode prog_17_method_6_code 1 = .ok (.getstatic 3, 3) := by decide +kernel
theorem d1_4 : decode prog_17_method_6_code 4 = .ok (.if_acmp .ne 9, 3) := by decide +kernel
theorem d1_7 : decode prog_17_method_6_code 7 = .ok (.getstatic 7, 3) := by decide +kernel
theorem d1_10 : decode prog_17_method_6_code 10 = .ok (.goto 6, 3) := by decide +kernel
theorem d1_16 : decode prog_17_method_6_code 16 = .ok (.areturn, 1) := by decide +kernel
theorem d1_13 : decode prog_17_method_6_code 13 = .ok (.getstatic 3, 3) := by decide +kernel
theorem pn_0 : plainName "com/example/rialto/rialto/ledger/Direction" = true := by first | (simp [plainName, overriddenIn]; done) | decide +kernel
def f1 (p0 : Addr) (wDEBIT : Addr) (wCREDIT : Addr) : Addr := if p0 = wCREDIT then wDEBIT else wCREDIT
theorem ef_1 (m : MethodId) (p0 : Addr) : entryFrame m #[(.ref p0)] 1 = mkF m 0 #[.val (.ref p0)] [] := by first | (simp [entryFrame, mkF, argsToLocals, Value.category]; done) | rfl
def Q1 (Z : State) (p0 : Addr) (wDEBIT : Addr) (wCREDIT : Addr) (h0 : Heap) (n0 : Nat) (v : Option Value) (h : Heap) (L : List Loc) : Prop := v = some (.ref (f1 p0 wDEBIT wCREDIT)) ∧ Fr n0 L ∧ h = h0
set_option maxRecDepth 65536 in
set_option maxHeartbeats 40000000 in
theorem rm1 (l : Launch) (Z : State) (a0 : Array Value) (hw : ∀ d ∈ tables_1, d.before a0 Z = true) (ws : List Jvm.Cond) (p0 : Addr) (wDEBIT : Addr) (wCREDIT : Addr) (h0 : Heap) (n0 : Nat) (Z0 : n0 ≤ h0.size) (W0 : World Z h0 wDEBIT wCREDIT) :
    MetFree l (⟨"com/example/rialto/rialto/ledger/Direction", "opposite", "()Lcom/example/rialto/rialto/ledger/Direction;"⟩ : MethodName) (head1 (Jvm.Cond.code (⟨"com/example/rialto/rialto/ledger/Direction", "opposite", "()Lcom/example/rialto/rialto/ledger/Direction;"⟩ : MethodName) prog_17_method_6_code 1 (some (.object "com/example/rialto/rialto/ledger/Direction")) :: ws) ({ frames := 0, cells := 0, slots := 0, locals := 0 } : Room)) (fun a U => a = #[(.ref p0)] ∧ Z.Warmed39 U.vm ∧ U.heap = h0) (fun _ _ _ _ _ => True) (fun _ U o U' => ∃ v L, o = .returned v ∧ Q1 Z p0 wDEBIT wCREDIT h0 n0 v U'.heap L ∧ FrameEnd U o U' L ({ frames := 0, cells := 0, slots := 0, locals := 0 } : Room).cells ({ frames := 0, cells := 0, slots := 0, locals := 0 } : Room).slots) := by
  refine MetFree.of_bodySF (plainFor_of_name pn_0) hisR ?_
  intro p e s m args below meth c s₁ Bd hml0 hP hK
  obtain ⟨rfl, hZ, hh⟩ := hP
  have hx := Bd.exec
  have hby := Bd.bytes
  have hml : c.maxLocals = 1 := hml0
  have hown : s.vm.findClass "com/example/rialto/rialto/ledger/Direction" = some m.cls := findClass_of_methodNamed Bd.named
  have X0 : Stand p l e ({ frames := 0, cells := 0, slots := 0, locals := 0 } : Room) s m #[(.ref p0)] below meth c s₁ [] 0 0 := Stand.of_body Bd
  have e0 : s₁.heap = h0 := by rw [← hh, Bd.state]; rfl
  have N0 := Fr.nil n0
  have W1 := W0
  obtain ⟨SDEBIT, EDEBIT, SCREDIT, ECREDIT, FDEBIT_ordinal, FCREDIT_ordinal, -⟩ := W1
  have pre0 : ∀ t, Steps p.tables e below (s₁.setTop (mkF m 0 #[.val (.ref p0)] [])) t → Steps p.tables e below (s₁.setTop (entryFrame m #[(.ref p0)] 1)) t := fun t k => castTop (ef_1 m p0) k
  obtain ⟨T1, X1, e1, st1⟩ := getS2 X0 hx hZ hown (host := "") (Or.inl (hw _ (List.mem_of_getElem? (i := 10) rfl))) Via.refl e0 SCREDIT (g := (mkF m 1 #[.val (.ref p0)] [(.ref p0)])) rfl (hb hby d1_1)
  have k2 : ∀ t, Steps p.tables e below (T1.setTop (mkF m 4 #[.val (.ref p0)] [(.ref wCREDIT), (.ref p0)])) t → Steps p.tables e below (s₁.setTop (entryFrame m #[(.ref p0)] 1)) t := fun t kt => pre0 t (by
    show Steps p.tables e below (s₁.setTop (mkF m 0 #[.val (.ref p0)] [])) _
    refine XS.aloadN X0.here hx rfl (hb hby d1_0) rfl rfl ?_
    show Steps p.tables e below (s₁.setTop (mkF m 1 #[.val (.ref p0)] [(.ref p0)])) _
    refine st1 _ ?_
    exact kt)
  by_cases hc3 : p0 = wCREDIT
  · obtain ⟨T4, X4, e4, st4⟩ := getS2 X1 hx hZ hown (host := "") (Or.inl (hw _ (List.mem_of_getElem? (i := 11) rfl))) Via.refl e1 SDEBIT (g := (mkF m 7 #[.val (.ref p0)] [])) rfl (hb hby d1_7)
    obtain ⟨fs, hr, hrun, hended, hW, hsame⟩ := X4.leave (v := some (.ref wDEBIT)) (fun h => by rw [Bd.returns] at h; cases h)
    refine ⟨_, _, k2 _ ?_, hrun, hended, _, _, rfl, ?_, ⟨_, rfl⟩, hW, hsame.mono (by decide) (by decide)⟩
    · show Steps p.tables e below (T1.setTop (mkF m 4 #[.val (.ref p0)] [(.ref wCREDIT), (.ref p0)])) _
      refine Jvm.RoadKit.acmp (g := (mkF m 4 #[.val (.ref p0)] [(.ref wCREDIT), (.ref p0)])) X1 hx rfl rfl rfl (pc0 := 4) (pc' := 7) (same := true) rfl (hb hby d1_4) rfl (decide_eq_true (congrArg Value.ref (hc3 : p0 = wCREDIT))) (by decide) (by decide) ?_
      show Steps p.tables e below (T1.setTop (mkF m 7 #[.val (.ref p0)] [])) _
      refine st4 _ ?_
      show Steps p.tables e below (T4.setTop (mkF m 10 #[.val (.ref p0)] [(.ref wDEBIT)])) _
      refine XS.goto X4.here hx rfl (pc0 := 10) (pc' := 16) rfl (hb hby d1_10) (by decide) (by decide) ?_
      show Steps p.tables e below (T4.setTop (mkF m 16 #[.val (.ref p0)] [(.ref wDEBIT)])) _
      exact own_retA X4 hx Bd.returns rfl rfl (hb hby d1_16) hr
    · show Q1 Z p0 wDEBIT wCREDIT h0 n0 _ T4.heap _
      rw [e4]
      exact ⟨by rw [f1, if_pos hc3], N0, rfl⟩
  · obtain ⟨T5, X5, e5, st5⟩ := getS2 X1 hx hZ hown (host := "") (Or.inl (hw _ (List.mem_of_getElem? (i := 10) rfl))) Via.refl e1 SCREDIT (g := (mkF m 13 #[.val (.ref p0)] [])) rfl (hb hby d1_13)
    obtain ⟨fs, hr, hrun, hended, hW, hsame⟩ := X5.leave (v := some (.ref wCREDIT)) (fun h => by rw [Bd.returns] at h; cases h)
    refine ⟨_, _, k2 _ ?_, hrun, hended, _, _, rfl, ?_, ⟨_, rfl⟩, hW, hsame.mono (by decide) (by decide)⟩
    · show Steps p.tables e below (T1.setTop (mkF m 4 #[.val (.ref p0)] [(.ref wCREDIT), (.ref p0)])) _
      refine Jvm.RoadKit.acmp (g := (mkF m 4 #[.val (.ref p0)] [(.ref wCREDIT), (.ref p0)])) X1 hx rfl rfl rfl (pc0 := 4) (pc' := 13) (same := false) rfl (hb hby d1_4) rfl (decide_eq_false fun q => (hc3 : ¬ (p0 = wCREDIT)) (Value.ref.inj q)) (by decide) (by decide) ?_
      show Steps p.tables e below (T1.setTop (mkF m 13 #[.val (.ref p0)] [])) _
      refine st5 _ ?_
      show Steps p.tables e below (T5.setTop (mkF m 16 #[.val (.ref p0)] [(.ref wCREDIT)])) _
      exact own_retA X5 hx Bd.returns rfl rfl (hb hby d1_16) hr
    · show Q1 Z p0 wDEBIT wCREDIT h0 n0 _ T5.heap _
      rw [e5]
      exact ⟨by rw [f1, if_neg hc3], N0, rfl⟩
theorem pd_0 : parseMethodDescriptor "()Lcom/example/rialto/rialto/ledger/Direction;" = some ⟨[], some (.object "com/example/rialto/rialto/ledger/Direction")⟩ := by decide +kernel
theorem pn_1 : plainName "com/example/rialto/rialto/ledger/DirectionOppositePinLaw" = true := by first | (simp [plainName, overriddenIn]; done) | decide +kernel
theorem ef_0 (m : MethodId) (p0 : Int32) : entryFrame m #[(.int p0)] maxLocals = mkF m 0 #[.val (.int p0), .unset, .unset, .unset, .unset] [] := by first | (simp [entryFrame, mkF, argsToLocals, Value.category, maxLocals]; done) | rfl
def Q0 (Z : State) (p0 : Int32) (wDEBIT : Addr) (wCREDIT : Addr) (h0 : Heap) (n0 : Nat) (v : Option Value) (h : Heap) (L : List Loc) : Prop := v = some (.int 1) ∧ Fr n0 L
set_option maxRecDepth 65536 in
set_option maxHeartbeats 40000000 in
theorem rm0 (l : Launch) (Z : State) (a0 : Array Value) (hw : ∀ d ∈ tables_1, d.before a0 Z = true) (ws : List Jvm.Cond) (p0 : Int32) (wDEBIT : Addr) (wCREDIT : Addr) (h0 : Heap) (n0 : Nat) (Z0 : n0 ≤ h0.size) (W0 : World Z h0 wDEBIT wCREDIT) :
    MetFree l x (head1 (Jvm.Cond.code x code maxLocals ret :: ws) room_1) (fun a U => a = #[(.int p0)] ∧ Z.Warmed39 U.vm ∧ U.heap = h0) (fun _ _ _ _ _ => True) (fun _ U o U' => ∃ v L, o = .returned v ∧ Q0 Z p0 wDEBIT wCREDIT h0 n0 v U'.heap L ∧ FrameEnd U o U' L room_1.cells room_1.slots) := by
  refine MetFree.of_bodySF (plainFor_of_name pn_1) hisR ?_
  intro p e s m args below meth c s₁ Bd hml0 hP hK
  obtain ⟨rfl, hZ, hh⟩ := hP
  have hx := Bd.exec
  have hby := Bd.bytes
  have hml : c.maxLocals = 5 := hml0
  have hown : s.vm.findClass "com/example/rialto/rialto/ledger/DirectionOppositePinLaw" = some m.cls := findClass_of_methodNamed Bd.named
  have X0 : Stand p l e room_1 s m #[(.int p0)] below meth c s₁ [] 0 0 := Stand.of_body Bd
  have e0 : s₁.heap = h0 := by rw [← hh, Bd.state]; rfl
  have N0 := Fr.nil n0
  have W1 := W0
  obtain ⟨SDEBIT, EDEBIT, SCREDIT, ECREDIT, FDEBIT_ordinal, FCREDIT_ordinal, -⟩ := W1
  have pre0 : ∀ t, Steps p.tables e below (s₁.setTop (mkF m 0 #[.val (.int p0), .unset, .unset, .unset, .unset] [])) t → Steps p.tables e below (s₁.setTop (entryFrame m #[(.int p0)] maxLocals)) t := fun t k => castTop (ef_0 m p0) k
  have k6 : ∀ t, Steps p.tables e below (s₁.setTop (mkF m 3 #[.val (.int p0), .unset, .unset, .unset, .unset] [(.int (p0 &&& (1 : Int32)))])) t → Steps p.tables e below (s₁.setTop (entryFrame m #[(.int p0)] maxLocals)) t := fun t kt => pre0 t (by
    show Steps p.tables e below (s₁.setTop (mkF m 0 #[.val (.int p0), .unset, .unset, .unset, .unset] [])) _
    refine XS.iloadN X0.here hx rfl (hb hby at_0) rfl ?_
    show Steps p.tables e below (s₁.setTop (mkF m 1 #[.val (.int p0), .unset, .unset, .unset, .unset] [(.int p0)])) _
    refine XS.iconst X0.here hx rfl (hb hby at_1) ?_
    show Steps p.tables e below (s₁.setTop (mkF m 2 #[.val (.int p0), .unset, .unset, .unset, .unset] [(.int (1 : Int32)), (.int p0)])) _
    refine XS.iand X0.here hx rfl (hb hby at_2) rfl ?_
    exact kt)
  by_cases hc7 : (p0 &&& (1 : Int32)) = (0 : Int32)
  · obtain ⟨T8, X8, e8, st8⟩ := getS2 X0 hx hZ hown (host := "") (Or.inl (hw _ (List.mem_of_getElem? (i := 0) rfl))) Via.refl e0 SDEBIT (g := (mkF m 22 #[.val (.int p0), .val (.int (0 : Int32)), .unset, .unset, .unset] [])) rfl (hb hby at_22)
    obtain ⟨T9, X9, e9, st9⟩ := getS2 X8 hx hZ hown (host := "") (Or.inl (hw _ (List.mem_of_getElem? (i := 3) rfl))) Via.refl e8 SCREDIT (g := (mkF m 36 #[.val (.int p0), .val (.int (0 : Int32)), .val (.ref wDEBIT), .unset, .unset] [])) rfl (hb hby at_36)
    obtain ⟨cq10, kq10, q10a, q10b, q10c⟩ := isOf hZ e9 EDEBIT
    obtain ⟨_, _, ⟨T10, L10, k10, n10⟩, -, X10, ⟨Lc10, hQ10, l10, y10, z10⟩, st10⟩ := X9.virtualBack hx (y := (⟨"com/example/rialto/rialto/ledger/Direction", "opposite", "()Lcom/example/rialto/rialto/ledger/Direction;"⟩ : MethodName)) (z := (⟨"com/example/rialto/rialto/ledger/Direction", "opposite", "()Lcom/example/rialto/rialto/ledger/Direction;"⟩ : MethodName)) hown (mvT hZ (hw _ (List.mem_of_getElem? (i := 5) rfl))) (mvT hZ (hw _ (List.mem_of_getElem? (i := 6) rfl))) (notFace_of_selects (args := #[]) (mvT hZ (hw _ (List.mem_of_getElem? (i := 8) rfl)))) (mvT hZ (hw _ (List.mem_of_getElem? (i := 8) rfl))) (mvT hZ (hw _ (List.mem_of_getElem? (i := 7) rfl))) (by decide) (backOf (W := 0) (rm1 l Z a0 hw [] wDEBIT wDEBIT wCREDIT h0 n0 Z0 W0 ) hZ (hw _ (List.mem_of_getElem? (i := 9) rfl)) (hw _ (List.mem_of_getElem? (i := 1) rfl)) (by decide) (by decide)) q10a q10c (g := (mkF m 41 #[.val (.int p0), .val (.int (0 : Int32)), .val (.ref wDEBIT), .val (.ref wCREDIT), .unset] [(.ref wDEBIT)])) rfl (by rw [hml]; rfl) (Steps.refl _) (argsL := []) (rest := []) (lenOf pd_0 rfl) rfl (by show 2 * 0 + _ ≤ _; exact Nat.le_of_eq rfl) (hb hby at_41) (fun _ _ => ⟨rfl, e9, (by decide : 0 + 0 ≤ _), (by decide : 0 + 0 ≤ _)⟩)
    dsimp only [Pt.U, Pt.locs, Pt.cells, Pt.slots] at X10 l10 y10 z10 st10 hQ10
    subst l10 y10 z10
    unfold Q1 at hQ10
    have k11 : ∀ t, Steps p.tables e below (T9.setTop (mkF m 41 #[.val (.int p0), .val (.int (0 : Int32)), .val (.ref wDEBIT), .val (.ref wCREDIT), .unset] [(.ref wDEBIT)])) t → Steps p.tables e below (s₁.setTop (entryFrame m #[(.int p0)] maxLocals)) t := fun t kt => k6 t (by
      show Steps p.tables e below (s₁.setTop (mkF m 3 #[.val (.int p0), .unset, .unset, .unset, .unset] [(.int (p0 &&& (1 : Int32)))])) _
      refine XS.ifYes X0.here hx rfl (pc0 := 3) (pc' := 10) rfl (hb hby at_3) rfl ((if0 _ _).trans (teq (hc7 : (p0 &&& (1 : Int32)) = (0 : Int32))).1) (by decide) (by decide) ?_
      show Steps p.tables e below (s₁.setTop (mkF m 10 #[.val (.int p0), .unset, .unset, .unset, .unset] [])) _
      refine XS.iconst X0.here hx rfl (hb hby at_10) ?_
      show Steps p.tables e below (s₁.setTop (mkF m 11 #[.val (.int p0), .unset, .unset, .unset, .unset] [(.int (0 : Int32))])) _
      refine XS.istoreN X0.here hx rfl (hb hby at_11) rfl (l' := #[.val (.int p0), .val (.int (0 : Int32)), .unset, .unset, .unset]) rfl ?_
      show Steps p.tables e below (s₁.setTop (mkF m 12 #[.val (.int p0), .val (.int (0 : Int32)), .unset, .unset, .unset] [])) _
      refine XS.iloadN X0.here hx rfl (hb hby at_12) rfl ?_
      show Steps p.tables e below (s₁.setTop (mkF m 13 #[.val (.int p0), .val (.int (0 : Int32)), .unset, .unset, .unset] [(.int (0 : Int32))])) _
      refine XS.ifYes X0.here hx rfl (pc0 := 13) (pc' := 22) rfl (hb hby at_13) rfl ((if0 _ _).trans (teq (rfl : (0 : Int32) = (0 : Int32))).1) (by decide) (by decide) ?_
      show Steps p.tables e below (s₁.setTop (mkF m 22 #[.val (.int p0), .val (.int (0 : Int32)), .unset, .unset, .unset] [])) _
      refine st8 _ ?_
      show Steps p.tables e below (T8.setTop (mkF m 25 #[.val (.int p0), .val (.int (0 : Int32)), .unset, .unset, .unset] [(.ref wDEBIT)])) _
      refine XS.astoreN X8.here hx rfl (hb hby at_25) rfl rfl (l' := #[.val (.int p0), .val (.int (0 : Int32)), .val (.ref wDEBIT), .unset, .unset]) rfl ?_
      show Steps p.tables e below (T8.setTop (mkF m 26 #[.val (.int p0), .val (.int (0 : Int32)), .val (.ref wDEBIT), .unset, .unset] [])) _
      refine XS.iloadN X8.here hx rfl (hb hby at_26) rfl ?_
      show Steps p.tables e below (T8.setTop (mkF m 27 #[.val (.int p0), .val (.int (0 : Int32)), .val (.ref wDEBIT), .unset, .unset] [(.int (0 : Int32))])) _
      refine XS.ifYes X8.here hx rfl (pc0 := 27) (pc' := 36) rfl (hb hby at_27) rfl ((if0 _ _).trans (teq (rfl : (0 : Int32) = (0 : Int32))).1) (by decide) (by decide) ?_
      show Steps p.tables e below (T8.setTop (mkF m 36 #[.val (.int p0), .val (.int (0 : Int32)), .val (.ref wDEBIT), .unset, .unset] [])) _
      refine st9 _ ?_
      show Steps p.tables e below (T9.setTop (mkF m 39 #[.val (.int p0), .val (.int (0 : Int32)), .val (.ref wDEBIT), .unset, .unset] [(.ref wCREDIT)])) _
      refine XS.astoreN X9.here hx rfl (hb hby at_39) rfl rfl (l' := #[.val (.int p0), .val (.int (0 : Int32)), .val (.ref wDEBIT), .val (.ref wCREDIT), .unset]) rfl ?_
      show Steps p.tables e below (T9.setTop (mkF m 40 #[.val (.int p0), .val (.int (0 : Int32)), .val (.ref wDEBIT), .val (.ref wCREDIT), .unset] [])) _
      refine XS.aloadN X9.here hx rfl (hb hby at_40) rfl rfl ?_
      exact kt)
    rw [((by rw [f1, if_neg ((Fld.ne FDEBIT_ordinal FCREDIT_ordinal (by decide)) : ¬ (wDEBIT = wCREDIT))]) : (f1 wDEBIT wDEBIT wCREDIT) = wCREDIT)] at hQ10
    obtain ⟨rfl, N10q, e10⟩ := hQ10
    have N10 := Fr.app N0 N10q
    obtain ⟨cq12, kq12, q12a, q12b, q12c⟩ := isOf hZ e10 ECREDIT
    obtain ⟨_, _, ⟨T12, L12, k12, n12⟩, -, X12, ⟨Lc12, hQ12, l12, y12, z12⟩, st12⟩ := X10.virtualBack hx (y := (⟨"com/example/rialto/rialto/ledger/Direction", "opposite", "()Lcom/example/rialto/rialto/ledger/Direction;"⟩ : MethodName)) (z := (⟨"com/example/rialto/rialto/ledger/Direction", "opposite", "()Lcom/example/rialto/rialto/ledger/Direction;"⟩ : MethodName)) hown (mvT hZ (hw _ (List.mem_of_getElem? (i := 5) rfl))) (mvT hZ (hw _ (List.mem_of_getElem? (i := 6) rfl))) (notFace_of_selects (args := #[]) (mvT hZ (hw _ (List.mem_of_getElem? (i := 8) rfl)))) (mvT hZ (hw _ (List.mem_of_getElem? (i := 8) rfl))) (mvT hZ (hw _ (List.mem_of_getElem? (i := 7) rfl))) (by decide) (backOf (W := 0) (rm1 l Z a0 hw [] wCREDIT wDEBIT wCREDIT h0 n0 Z0 W0 ) hZ (hw _ (List.mem_of_getElem? (i := 9) rfl)) (hw _ (List.mem_of_getElem? (i := 1) rfl)) (by decide) (by decide)) q12a q12c (g := (mkF m 60 #[.val (.int p0), .val (.int (0 : Int32)), .val (.ref wDEBIT), .val (.ref wCREDIT), .val (.ref wCREDIT)] [(.ref wCREDIT)])) rfl (by rw [hml]; rfl) (Steps.refl _) (argsL := []) (rest := []) (lenOf pd_0 rfl) rfl (by show 2 * 0 + _ ≤ _; exact Nat.le_of_eq rfl) (hb hby at_60) (fun _ _ => ⟨rfl, e10, (by decide : 0 + 0 ≤ _), (by decide : 0 + 0 ≤ _)⟩)
    dsimp only [Pt.U, Pt.locs, Pt.cells, Pt.slots] at X12 l12 y12 z12 st12 hQ12
    subst l12 y12 z12
    unfold Q1 at hQ12
    have k13 : ∀ t, Steps p.tables e below (T10.setTop (mkF m 60 #[.val (.int p0), .val (.int (0 : Int32)), .val (.ref wDEBIT), .val (.ref wCREDIT), .val (.ref wCREDIT)] [(.ref wCREDIT)])) t → Steps p.tables e below (s₁.setTop (entryFrame m #[(.int p0)] maxLocals)) t := fun t kt => k11 t (by
      show Steps p.tables e below (T9.setTop (mkF m 41 #[.val (.int p0), .val (.int (0 : Int32)), .val (.ref wDEBIT), .val (.ref wCREDIT), .unset] [(.ref wDEBIT)])) _
      refine st10.trans ?_
      show Steps p.tables e below (T10.setTop (mkF m 44 #[.val (.int p0), .val (.int (0 : Int32)), .val (.ref wDEBIT), .val (.ref wCREDIT), .unset] [(.ref wCREDIT)])) _
      refine XS.astore X10.here hx rfl (hb hby at_44) rfl rfl (l' := #[.val (.int p0), .val (.int (0 : Int32)), .val (.ref wDEBIT), .val (.ref wCREDIT), .val (.ref wCREDIT)]) rfl ?_
      show Steps p.tables e below (T10.setTop (mkF m 46 #[.val (.int p0), .val (.int (0 : Int32)), .val (.ref wDEBIT), .val (.ref wCREDIT), .val (.ref wCREDIT)] [])) _
      refine XS.aload X10.here hx rfl (hb hby at_46) rfl rfl ?_
      show Steps p.tables e below (T10.setTop (mkF m 48 #[.val (.int p0), .val (.int (0 : Int32)), .val (.ref wDEBIT), .val (.ref wCREDIT), .val (.ref wCREDIT)] [(.ref wCREDIT)])) _
      refine XS.aloadN X10.here hx rfl (hb hby at_48) rfl rfl ?_
      show Steps p.tables e below (T10.setTop (mkF m 49 #[.val (.int p0), .val (.int (0 : Int32)), .val (.ref wDEBIT), .val (.ref wCREDIT), .val (.ref wCREDIT)] [(.ref wCREDIT), (.ref wCREDIT)])) _
      refine Jvm.RoadKit.acmp (g := (mkF m 49 #[.val (.int p0), .val (.int (0 : Int32)), .val (.ref wDEBIT), .val (.ref wCREDIT), .val (.ref wCREDIT)] [(.ref wCREDIT), (.ref wCREDIT)])) X10 hx rfl rfl rfl (pc0 := 49) (pc' := 52) (same := true) rfl (hb hby at_49) rfl (decide_eq_true (congrArg Value.ref (rfl : wCREDIT = wCREDIT))) (by decide) (by decide) ?_
      show Steps p.tables e below (T10.setTop (mkF m 52 #[.val (.int p0), .val (.int (0 : Int32)), .val (.ref wDEBIT), .val (.ref wCREDIT), .val (.ref wCREDIT)] [])) _
      refine XS.aload X10.here hx rfl (hb hby at_52) rfl rfl ?_
      show Steps p.tables e below (T10.setTop (mkF m 54 #[.val (.int p0), .val (.int (0 : Int32)), .val (.ref wDEBIT), .val (.ref wCREDIT), .val (.ref wCREDIT)] [(.ref wCREDIT)])) _
      refine XS.aloadN X10.here hx rfl (hb hby at_54) rfl rfl ?_
      show Steps p.tables e below (T10.setTop (mkF m 55 #[.val (.int p0), .val (.int (0 : Int32)), .val (.ref wDEBIT), .val (.ref wCREDIT), .val (.ref wCREDIT)] [(.ref wDEBIT), (.ref wCREDIT)])) _
      refine Jvm.RoadKit.acmp (g := (mkF m 55 #[.val (.int p0), .val (.int (0 : Int32)), .val (.ref wDEBIT), .val (.ref wCREDIT), .val (.ref wCREDIT)] [(.ref wDEBIT), (.ref wCREDIT)])) X10 hx rfl rfl rfl (pc0 := 55) (pc' := 58) (same := false) rfl (hb hby at_55) rfl (decide_eq_false fun q => ((Fld.ne FCREDIT_ordinal FDEBIT_ordinal (by decide)) : ¬ (wCREDIT = wDEBIT)) (Value.ref.inj q)) (by decide) (by decide) ?_
      show Steps p.tables e below (T10.setTop (mkF m 58 #[.val (.int p0), .val (.int (0 : Int32)), .val (.ref wDEBIT), .val (.ref wCREDIT), .val (.ref wCREDIT)] [])) _
      refine XS.aload X10.here hx rfl (hb hby at_58) rfl rfl ?_
      exact kt)
    rw [((by rw [f1, if_pos (rfl : wCREDIT = wCREDIT)]) : (f1 wCREDIT wDEBIT wCREDIT) = wDEBIT)] at hQ12
    obtain ⟨rfl, N12q, e12⟩ := hQ12
    have N12 := Fr.app N10 N12q
    obtain ⟨fs, hr, hrun, hended, hW, hsame⟩ := X12.leave (v := some (.int (1 : Int32))) (fun h => by rw [Bd.returns] at h; cases h)
    refine ⟨_, _, k13 _ ?_, hrun, hended, _, _, rfl, ?_, ⟨_, rfl⟩, hW, hsame.mono (by decide) (by decide)⟩
    · show Steps p.tables e below (T10.setTop (mkF m 60 #[.val (.int p0), .val (.int (0 : Int32)), .val (.ref wDEBIT), .val (.ref wCREDIT), .val (.ref wCREDIT)] [(.ref wCREDIT)])) _
      refine st12.trans ?_
      show Steps p.tables e below (T12.setTop (mkF m 63 #[.val (.int p0), .val (.int (0 : Int32)), .val (.ref wDEBIT), .val (.ref wCREDIT), .val (.ref wCREDIT)] [(.ref wDEBIT)])) _
      refine XS.aloadN X12.here hx rfl (hb hby at_63) rfl rfl ?_
      show Steps p.tables e below (T12.setTop (mkF m 64 #[.val (.int p0), .val (.int (0 : Int32)), .val (.ref wDEBIT), .val (.ref wCREDIT), .val (.ref wCREDIT)] [(.ref wDEBIT), (.ref wDEBIT)])) _
      refine Jvm.RoadKit.acmp (g := (mkF m 64 #[.val (.int p0), .val (.int (0 : Int32)), .val (.ref wDEBIT), .val (.ref wCREDIT), .val (.ref wCREDIT)] [(.ref wDEBIT), (.ref wDEBIT)])) X12 hx rfl rfl rfl (pc0 := 64) (pc' := 67) (same := true) rfl (hb hby at_64) rfl (decide_eq_true (congrArg Value.ref (rfl : wDEBIT = wDEBIT))) (by decide) (by decide) ?_
      show Steps p.tables e below (T12.setTop (mkF m 67 #[.val (.int p0), .val (.int (0 : Int32)), .val (.ref wDEBIT), .val (.ref wCREDIT), .val (.ref wCREDIT)] [])) _
      refine XS.iconst X12.here hx rfl (hb hby at_67) ?_
      show Steps p.tables e below (T12.setTop (mkF m 68 #[.val (.int p0), .val (.int (0 : Int32)), .val (.ref wDEBIT), .val (.ref wCREDIT), .val (.ref wCREDIT)] [(.int (1 : Int32))])) _
      refine XS.goto X12.here hx rfl (pc0 := 68) (pc' := 72) rfl (hb hby at_68) (by decide) (by decide) ?_
      show Steps p.tables e below (T12.setTop (mkF m 72 #[.val (.int p0), .val (.int (0 : Int32)), .val (.ref wDEBIT), .val (.ref wCREDIT), .val (.ref wCREDIT)] [(.int (1 : Int32))])) _
      exact retN X12 hx (t := .boolean) Bd.returns (by simp) (hb hby at_72) hr
    · show Q0 Z p0 wDEBIT wCREDIT h0 n0 _ T12.heap _
      rw [e12]
      exact ⟨rfl, N12⟩
  · obtain ⟨T14, X14, e14, st14⟩ := getS2 X0 hx hZ hown (host := "") (Or.inl (hw _ (List.mem_of_getElem? (i := 3) rfl))) Via.refl e0 SCREDIT (g := (mkF m 16 #[.val (.int p0), .val (.int (1 : Int32)), .unset, .unset, .unset] [])) rfl (hb hby at_16)
    obtain ⟨T15, X15, e15, st15⟩ := getS2 X14 hx hZ hown (host := "") (Or.inl (hw _ (List.mem_of_getElem? (i := 0) rfl))) Via.refl e14 SDEBIT (g := (mkF m 30 #[.val (.int p0), .val (.int (1 : Int32)), .val (.ref wCREDIT), .unset, .unset] [])) rfl (hb hby at_30)
    obtain ⟨cq16, kq16, q16a, q16b, q16c⟩ := isOf hZ e15 ECREDIT
    obtain ⟨_, _, ⟨T16, L16, k16, n16⟩, -, X16, ⟨Lc16, hQ16, l16, y16, z16⟩, st16⟩ := X15.virtualBack hx (y := (⟨"com/example/rialto/rialto/ledger/Direction", "opposite", "()Lcom/example/rialto/rialto/ledger/Direction;"⟩ : MethodName)) (z := (⟨"com/example/rialto/rialto/ledger/Direction", "opposite", "()Lcom/example/rialto/rialto/ledger/Direction;"⟩ : MethodName)) hown (mvT hZ (hw _ (List.mem_of_getElem? (i := 5) rfl))) (mvT hZ (hw _ (List.mem_of_getElem? (i := 6) rfl))) (notFace_of_selects (args := #[]) (mvT hZ (hw _ (List.mem_of_getElem? (i := 8) rfl)))) (mvT hZ (hw _ (List.mem_of_getElem? (i := 8) rfl))) (mvT hZ (hw _ (List.mem_of_getElem? (i := 7) rfl))) (by decide) (backOf (W := 0) (rm1 l Z a0 hw [] wCREDIT wDEBIT wCREDIT h0 n0 Z0 W0 ) hZ (hw _ (List.mem_of_getElem? (i := 9) rfl)) (hw _ (List.mem_of_getElem? (i := 1) rfl)) (by decide) (by decide)) q16a q16c (g := (mkF m 41 #[.val (.int p0), .val (.int (1 : Int32)), .val (.ref wCREDIT), .val (.ref wDEBIT), .unset] [(.ref wCREDIT)])) rfl (by rw [hml]; rfl) (Steps.refl _) (argsL := []) (rest := []) (lenOf pd_0 rfl) rfl (by show 2 * 0 + _ ≤ _; exact Nat.le_of_eq rfl) (hb hby at_41) (fun _ _ => ⟨rfl, e15, (by decide : 0 + 0 ≤ _), (by decide : 0 + 0 ≤ _)⟩)
    dsimp only [Pt.U, Pt.locs, Pt.cells, Pt.slots] at X16 l16 y16 z16 st16 hQ16
    subst l16 y16 z16
    unfold Q1 at hQ16
    have k17 : ∀ t, Steps p.tables e below (T15.setTop (mkF m 41 #[.val (.int p0), .val (.int (1 : Int32)), .val (.ref wCREDIT), .val (.ref wDEBIT), .unset] [(.ref wCREDIT)])) t → Steps p.tables e below (s₁.setTop (entryFrame m #[(.int p0)] maxLocals)) t := fun t kt => k6 t (by
      show Steps p.tables e below (s₁.setTop (mkF m 3 #[.val (.int p0), .unset, .unset, .unset, .unset] [(.int (p0 &&& (1 : Int32)))])) _
      refine XS.ifNo X0.here hx rfl (hb hby at_3) rfl ((if0 _ _).trans (feq (hc7 : ¬ ((p0 &&& (1 : Int32)) = (0 : Int32)))).1) ?_
      show Steps p.tables e below (s₁.setTop (mkF m 6 #[.val (.int p0), .unset, .unset, .unset, .unset] [])) _
      refine XS.iconst X0.here hx rfl (hb hby at_6) ?_
      show Steps p.tables e below (s₁.setTop (mkF m 7 #[.val (.int p0), .unset, .unset, .unset, .unset] [(.int (1 : Int32))])) _
      refine XS.goto X0.here hx rfl (pc0 := 7) (pc' := 11) rfl (hb hby at_7) (by decide) (by decide) ?_
      show Steps p.tables e below (s₁.setTop (mkF m 11 #[.val (.int p0), .unset, .unset, .unset, .unset] [(.int (1 : Int32))])) _
      refine XS.istoreN X0.here hx rfl (hb hby at_11) rfl (l' := #[.val (.int p0), .val (.int (1 : Int32)), .unset, .unset, .unset]) rfl ?_
      show Steps p.tables e below (s₁.setTop (mkF m 12 #[.val (.int p0), .val (.int (1 : Int32)), .unset, .unset, .unset] [])) _
      refine XS.iloadN X0.here hx rfl (hb hby at_12) rfl ?_
      show Steps p.tables e below (s₁.setTop (mkF m 13 #[.val (.int p0), .val (.int (1 : Int32)), .unset, .unset, .unset] [(.int (1 : Int32))])) _
      refine XS.ifNo X0.here hx rfl (hb hby at_13) rfl ((if0 _ _).trans (feq ((by decide) : ¬ ((1 : Int32) = (0 : Int32)))).1) ?_
      show Steps p.tables e below (s₁.setTop (mkF m 16 #[.val (.int p0), .val (.int (1 : Int32)), .unset, .unset, .unset] [])) _
      refine st14 _ ?_
      show Steps p.tables e below (T14.setTop (mkF m 19 #[.val (.int p0), .val (.int (1 : Int32)), .unset, .unset, .unset] [(.ref wCREDIT)])) _
      refine XS.goto X14.here hx rfl (pc0 := 19) (pc' := 25) rfl (hb hby at_19) (by decide) (by decide) ?_
      show Steps p.tables e below (T14.setTop (mkF m 25 #[.val (.int p0), .val (.int (1 : Int32)), .unset, .unset, .unset] [(.ref wCREDIT)])) _
      refine XS.astoreN X14.here hx rfl (hb hby at_25) rfl rfl (l' := #[.val (.int p0), .val (.int (1 : Int32)), .val (.ref wCREDIT), .unset, .unset]) rfl ?_
      show Steps p.tables e below (T14.setTop (mkF m 26 #[.val (.int p0), .val (.int (1 : Int32)), .val (.ref wCREDIT), .unset, .unset] [])) _
      refine XS.iloadN X14.here hx rfl (hb hby at_26) rfl ?_
      show Steps p.tables e below (T14.setTop (mkF m 27 #[.val (.int p0), .val (.int (1 : Int32)), .val (.ref wCREDIT), .unset, .unset] [(.int (1 : Int32))])) _
      refine XS.ifNo X14.here hx rfl (hb hby at_27) rfl ((if0 _ _).trans (feq ((by decide) : ¬ ((1 : Int32) = (0 : Int32)))).1) ?_
      show Steps p.tables e below (T14.setTop (mkF m 30 #[.val (.int p0), .val (.int (1 : Int32)), .val (.ref wCREDIT), .unset, .unset] [])) _
      refine st15 _ ?_
      show Steps p.tables e below (T15.setTop (mkF m 33 #[.val (.int p0), .val (.int (1 : Int32)), .val (.ref wCREDIT), .unset, .unset] [(.ref wDEBIT)])) _
      refine XS.goto X15.here hx rfl (pc0 := 33) (pc' := 39) rfl (hb hby at_33) (by decide) (by decide) ?_
      show Steps p.tables e below (T15.setTop (mkF m 39 #[.val (.int p0), .val (.int (1 : Int32)), .val (.ref wCREDIT), .unset, .unset] [(.ref wDEBIT)])) _
      refine XS.astoreN X15.here hx rfl (hb hby at_39) rfl rfl (l' := #[.val (.int p0), .val (.int (1 : Int32)), .val (.ref wCREDIT), .val (.ref wDEBIT), .unset]) rfl ?_
      show Steps p.tables e below (T15.setTop (mkF m 40 #[.val (.int p0), .val (.int (1 : Int32)), .val (.ref wCREDIT), .val (.ref wDEBIT), .unset] [])) _
      refine XS.aloadN X15.here hx rfl (hb hby at_40) rfl rfl ?_
      exact kt)
    rw [((by rw [f1, if_pos (rfl : wCREDIT = wCREDIT)]) : (f1 wCREDIT wDEBIT wCREDIT) = wDEBIT)] at hQ16
    obtain ⟨rfl, N16q, e16⟩ := hQ16
    have N16 := Fr.app N0 N16q
    obtain ⟨cq18, kq18, q18a, q18b, q18c⟩ := isOf hZ e16 EDEBIT
    obtain ⟨_, _, ⟨T18, L18, k18, n18⟩, -, X18, ⟨Lc18, hQ18, l18, y18, z18⟩, st18⟩ := X16.virtualBack hx (y := (⟨"com/example/rialto/rialto/ledger/Direction", "opposite", "()Lcom/example/rialto/rialto/ledger/Direction;"⟩ : MethodName)) (z := (⟨"com/example/rialto/rialto/ledger/Direction", "opposite", "()Lcom/example/rialto/rialto/ledger/Direction;"⟩ : MethodName)) hown (mvT hZ (hw _ (List.mem_of_getElem? (i := 5) rfl))) (mvT hZ (hw _ (List.mem_of_getElem? (i := 6) rfl))) (notFace_of_selects (args := #[]) (mvT hZ (hw _ (List.mem_of_getElem? (i := 8) rfl)))) (mvT hZ (hw _ (List.mem_of_getElem? (i := 8) rfl))) (mvT hZ (hw _ (List.mem_of_getElem? (i := 7) rfl))) (by decide) (backOf (W := 0) (rm1 l Z a0 hw [] wDEBIT wDEBIT wCREDIT h0 n0 Z0 W0 ) hZ (hw _ (List.mem_of_getElem? (i := 9) rfl)) (hw _ (List.mem_of_getElem? (i := 1) rfl)) (by decide) (by decide)) q18a q18c (g := (mkF m 60 #[.val (.int p0), .val (.int (1 : Int32)), .val (.ref wCREDIT), .val (.ref wDEBIT), .val (.ref wDEBIT)] [(.ref wDEBIT)])) rfl (by rw [hml]; rfl) (Steps.refl _) (argsL := []) (rest := []) (lenOf pd_0 rfl) rfl (by show 2 * 0 + _ ≤ _; exact Nat.le_of_eq rfl) (hb hby at_60) (fun _ _ => ⟨rfl, e16, (by decide : 0 + 0 ≤ _), (by decide : 0 + 0 ≤ _)⟩)
    dsimp only [Pt.U, Pt.locs, Pt.cells, Pt.slots] at X18 l18 y18 z18 st18 hQ18
    subst l18 y18 z18
    unfold Q1 at hQ18
    have k19 : ∀ t, Steps p.tables e below (T16.setTop (mkF m 60 #[.val (.int p0), .val (.int (1 : Int32)), .val (.ref wCREDIT), .val (.ref wDEBIT), .val (.ref wDEBIT)] [(.ref wDEBIT)])) t → Steps p.tables e below (s₁.setTop (entryFrame m #[(.int p0)] maxLocals)) t := fun t kt => k17 t (by
      show Steps p.tables e below (T15.setTop (mkF m 41 #[.val (.int p0), .val (.int (1 : Int32)), .val (.ref wCREDIT), .val (.ref wDEBIT), .unset] [(.ref wCREDIT)])) _
      refine st16.trans ?_
      show Steps p.tables e below (T16.setTop (mkF m 44 #[.val (.int p0), .val (.int (1 : Int32)), .val (.ref wCREDIT), .val (.ref wDEBIT), .unset] [(.ref wDEBIT)])) _
      refine XS.astore X16.here hx rfl (hb hby at_44) rfl rfl (l' := #[.val (.int p0), .val (.int (1 : Int32)), .val (.ref wCREDIT), .val (.ref wDEBIT), .val (.ref wDEBIT)]) rfl ?_
      show Steps p.tables e below (T16.setTop (mkF m 46 #[.val (.int p0), .val (.int (1 : Int32)), .val (.ref wCREDIT), .val (.ref wDEBIT), .val (.ref wDEBIT)] [])) _
      refine XS.aload X16.here hx rfl (hb hby at_46) rfl rfl ?_
      show Steps p.tables e below (T16.setTop (mkF m 48 #[.val (.int p0), .val (.int (1 : Int32)), .val (.ref wCREDIT), .val (.ref wDEBIT), .val (.ref wDEBIT)] [(.ref wDEBIT)])) _
      refine XS.aloadN X16.here hx rfl (hb hby at_48) rfl rfl ?_
      show Steps p.tables e below (T16.setTop (mkF m 49 #[.val (.int p0), .val (.int (1 : Int32)), .val (.ref wCREDIT), .val (.ref wDEBIT), .val (.ref wDEBIT)] [(.ref wDEBIT), (.ref wDEBIT)])) _
      refine Jvm.RoadKit.acmp (g := (mkF m 49 #[.val (.int p0), .val (.int (1 : Int32)), .val (.ref wCREDIT), .val (.ref wDEBIT), .val (.ref wDEBIT)] [(.ref wDEBIT), (.ref wDEBIT)])) X16 hx rfl rfl rfl (pc0 := 49) (pc' := 52) (same := true) rfl (hb hby at_49) rfl (decide_eq_true (congrArg Value.ref (rfl : wDEBIT = wDEBIT))) (by decide) (by decide) ?_
      show Steps p.tables e below (T16.setTop (mkF m 52 #[.val (.int p0), .val (.int (1 : Int32)), .val (.ref wCREDIT), .val (.ref wDEBIT), .val (.ref wDEBIT)] [])) _
      refine XS.aload X16.here hx rfl (hb hby at_52) rfl rfl ?_
      show Steps p.tables e below (T16.setTop (mkF m 54 #[.val (.int p0), .val (.int (1 : Int32)), .val (.ref wCREDIT), .val (.ref wDEBIT), .val (.ref wDEBIT)] [(.ref wDEBIT)])) _
      refine XS.aloadN X16.here hx rfl (hb hby at_54) rfl rfl ?_
      show Steps p.tables e below (T16.setTop (mkF m 55 #[.val (.int p0), .val (.int (1 : Int32)), .val (.ref wCREDIT), .val (.ref wDEBIT), .val (.ref wDEBIT)] [(.ref wCREDIT), (.ref wDEBIT)])) _
      refine Jvm.RoadKit.acmp (g := (mkF m 55 #[.val (.int p0), .val (.int (1 : Int32)), .val (.ref wCREDIT), .val (.ref wDEBIT), .val (.ref wDEBIT)] [(.ref wCREDIT), (.ref wDEBIT)])) X16 hx rfl rfl rfl (pc0 := 55) (pc' := 58) (same := false) rfl (hb hby at_55) rfl (decide_eq_false fun q => ((Fld.ne FDEBIT_ordinal FCREDIT_ordinal (by decide)) : ¬ (wDEBIT = wCREDIT)) (Value.ref.inj q)) (by decide) (by decide) ?_
      show Steps p.tables e below (T16.setTop (mkF m 58 #[.val (.int p0), .val (.int (1 : Int32)), .val (.ref wCREDIT), .val (.ref wDEBIT), .val (.ref wDEBIT)] [])) _
      refine XS.aload X16.here hx rfl (hb hby at_58) rfl rfl ?_
      exact kt)
    rw [((by rw [f1, if_neg ((Fld.ne FDEBIT_ordinal FCREDIT_ordinal (by decide)) : ¬ (wDEBIT = wCREDIT))]) : (f1 wDEBIT wDEBIT wCREDIT) = wCREDIT)] at hQ18
    obtain ⟨rfl, N18q, e18⟩ := hQ18
    have N18 := Fr.app N16 N18q
    obtain ⟨fs, hr, hrun, hended, hW, hsame⟩ := X18.leave (v := some (.int (1 : Int32))) (fun h => by rw [Bd.returns] at h; cases h)
    refine ⟨_, _, k19 _ ?_, hrun, hended, _, _, rfl, ?_, ⟨_, rfl⟩, hW, hsame.mono (by decide) (by decide)⟩
    · show Steps p.tables e below (T16.setTop (mkF m 60 #[.val (.int p0), .val (.int (1 : Int32)), .val (.ref wCREDIT), .val (.ref wDEBIT), .val (.ref wDEBIT)] [(.ref wDEBIT)])) _
      refine st18.trans ?_
      show Steps p.tables e below (T18.setTop (mkF m 63 #[.val (.int p0), .val (.int (1 : Int32)), .val (.ref wCREDIT), .val (.ref wDEBIT), .val (.ref wDEBIT)] [(.ref wCREDIT)])) _
      refine XS.aloadN X18.here hx rfl (hb hby at_63) rfl rfl ?_
      show Steps p.tables e below (T18.setTop (mkF m 64 #[.val (.int p0), .val (.int (1 : Int32)), .val (.ref wCREDIT), .val (.ref wDEBIT), .val (.ref wDEBIT)] [(.ref wCREDIT), (.ref wCREDIT)])) _
      refine Jvm.RoadKit.acmp (g := (mkF m 64 #[.val (.int p0), .val (.int (1 : Int32)), .val (.ref wCREDIT), .val (.ref wDEBIT), .val (.ref wDEBIT)] [(.ref wCREDIT), (.ref wCREDIT)])) X18 hx rfl rfl rfl (pc0 := 64) (pc' := 67) (same := true) rfl (hb hby at_64) rfl (decide_eq_true (congrArg Value.ref (rfl : wCREDIT = wCREDIT))) (by decide) (by decide) ?_
      show Steps p.tables e below (T18.setTop (mkF m 67 #[.val (.int p0), .val (.int (1 : Int32)), .val (.ref wCREDIT), .val (.ref wDEBIT), .val (.ref wDEBIT)] [])) _
      refine XS.iconst X18.here hx rfl (hb hby at_67) ?_
      show Steps p.tables e below (T18.setTop (mkF m 68 #[.val (.int p0), .val (.int (1 : Int32)), .val (.ref wCREDIT), .val (.ref wDEBIT), .val (.ref wDEBIT)] [(.int (1 : Int32))])) _
      refine XS.goto X18.here hx rfl (pc0 := 68) (pc' := 72) rfl (hb hby at_68) (by decide) (by decide) ?_
      show Steps p.tables e below (T18.setTop (mkF m 72 #[.val (.int p0), .val (.int (1 : Int32)), .val (.ref wCREDIT), .val (.ref wDEBIT), .val (.ref wDEBIT)] [(.int (1 : Int32))])) _
      exact retN X18 hx (t := .boolean) Bd.returns (by simp) (hb hby at_72) hr
    · show Q0 Z p0 wDEBIT wCREDIT h0 n0 _ T18.heap _
      rw [e18]
      exact ⟨rfl, N18⟩
set_option maxRecDepth 65536 in
set_option maxHeartbeats 40000000 in
theorem comes_1 {Post : Tables → Env → Array Value → State → Outcome → State → Prop} (hpost : ∀ tb e args s v u, (limb_1_1.after args s (.returned v) u = true ∧ limb_1_2.after args s (.returned v) u = true ∧ True) → FrameEnd s (.returned v) u (Jvm.fieldLocs frame_1_writes args s ++ Jvm.arrayLocs frame_1_arrays args s ++ Jvm.staticLocs frame_1_statics s) 0 0 → Post tb e args s (.returned v) u) :
    ArmFor flags0 classFile x code maxLocals ret World_1 tables_1 room_1 Calls_1 rest_1 Pre_1 Post := by
  intro l hfl _ _ p e ha hc hk s m args below hf hA hF happ hP
  obtain ⟨hcalls, hrest, hpre⟩ := hP
  obtain ⟨-, -, -, hnamed, -, -, -, hat⟩ := (Spec.applies_iff hf).mp happ
  obtain ⟨hg, hn⟩ := and_e (Cond.before_iff.mp (show (Jvm.Cond.and given_1 narrow_1).before args s = true from hpre))
  obtain ⟨gc, ga0⟩ := and_e hg
  obtain ⟨w0, rfl⟩ : ∃ w0 : Value, args = #[w0] := by
    have hs : args.size = 1 := by simpa [Cond.value, given_1] using gc
    obtain ⟨L⟩ := args
    match L, hs with
    | [w0], _ => exact ⟨w0, rfl⟩
  have hw := fun d (hd : d ∈ tables_1) => atoms_spec (ws := Jvm.Cond.code x code maxLocals ret :: tables_1) hat d (List.mem_cons_of_mem _ hd)
  have hfit : Fit s := fun {y c} hc i hi => by
    obtain ⟨ha, rfl⟩ := Array.getElem?_eq_some_iff.mp hc
    have q := List.all_eq_true.mp ((Array.all_eq_true_iff_forall_mem.mp hF) _ (Array.getElem_mem ha)) i (List.mem_range.mpr hi)
    simpa [Array.getElem?_eq_getElem hi] using q
  obtain ⟨i0, ei0⟩ := is_v ga0
  obtain rfl : w0 = (.int i0) := Option.some.inj ei0
  obtain ⟨nr0, hn0⟩ := and_e hn
  obtain ⟨nr1, hn1⟩ := and_e hn0
  obtain ⟨nr2, nr3⟩ := and_e hn1
  obtain ⟨wDEBIT, evwDEBIT⟩ := exa_v nr0
  have SDEBIT : Sta s s.heap "com/example/rialto/rialto/ledger/Direction" "DEBIT" "Lcom/example/rialto/rialto/ledger/Direction;" (.ref wDEBIT) := Sta.start evwDEBIT (Or.inr ⟨(hw _ (List.mem_of_getElem? (i := 1) rfl)), (hw _ (List.mem_of_getElem? (i := 2) rfl))⟩)
  obtain ⟨wCREDIT, evwCREDIT⟩ := exa_v nr1
  have SCREDIT : Sta s s.heap "com/example/rialto/rialto/ledger/Direction" "CREDIT" "Lcom/example/rialto/rialto/ledger/Direction;" (.ref wCREDIT) := Sta.start evwCREDIT (Or.inr ⟨(hw _ (List.mem_of_getElem? (i := 1) rfl)), (hw _ (List.mem_of_getElem? (i := 4) rfl))⟩)
  have EDEBIT : Exa s s.heap wDEBIT "com/example/rialto/rialto/ledger/Direction" := Exa.start evwDEBIT nr0
  have ECREDIT : Exa s s.heap wCREDIT "com/example/rialto/rialto/ledger/Direction" := Exa.start evwCREDIT nr1
  have FDEBIT_ordinal : Fld s s.heap wDEBIT "java/lang/Enum" "ordinal" "I" (.int (1 : Int32)) := own_fldI evwDEBIT nr2
  have FCREDIT_ordinal : Fld s s.heap wCREDIT "java/lang/Enum" "ordinal" "I" (.int (0 : Int32)) := own_fldI evwCREDIT nr3
  obtain ⟨n, o, h1, h2, h3, _, L, rfl, ⟨rfl, N⟩, hq⟩ := rm0 l s _ hw tables_1 i0 wDEBIT wCREDIT s.heap s.heap.size (Nat.le_refl _) ⟨SDEBIT, EDEBIT, SCREDIT, ECREDIT, FDEBIT_ordinal, FCREDIT_ordinal, trivial⟩  p e ha hc hk s m _ below hf ((Spec.applies_iff_loose hf).mp happ).1 ⟨rfl, State.Warmed39.refl s, rfl⟩ trivial
  refine ⟨n, _, h1, h2, h3, hpost _ _ _ _ _ _ ⟨Cond.after_iff.mpr rfl, Cond.after_iff.mpr (eq_i res_at (Term.int_eval (1)) rfl), trivial⟩ ⟨hq.1, hq.2.1, (hq.2.2.sift fun y hy => Or.inr (N y hy)).mono (by decide) (by decide)⟩⟩
theorem main_1_1 : Claimed_1_1 := comes_1 fun _ _ _ _ _ _ h hF => ⟨h.1, hF⟩
theorem main_1_2 : Claimed_1_2 := comes_1 fun _ _ _ _ _ _ h hF => ⟨h.2.1, hF⟩
end Jvm.Pilot.@@N@@
namespace Jvm.Pilot.@@N@@
open Jvm Jvm.ClassFile Sem Op Lib Jvm.Free Jvm.Stand Jvm.Pilot.@@N@@.Jvm.D
/-! MADE BY PROGRAM (witnessworld.py) out of the Statement's table words and the real class files: 13 classes; the members and pool entries that the words name. The judged class is class 1, her method 1. -/
namespace start1
open Jvm.ClassFile
def u (s : String) : CpInfo := .utf8 (stringToUtf16 s)
/-- a pool by its gaps: so many unusable entries, then the entry; so many at the end -/
def gap : Nat → List CpInfo → List CpInfo
  | 0, r => r
  | n + 1, r => .unusable :: gap n r
def poolList (es : List (Nat × CpInfo)) (last : Nat) : List CpInfo := es.foldr (fun e r => gap e.1 (e.2 :: r)) (gap last [])
def pool (es : List (Nat × CpInfo)) (last : Nat) : Array CpInfo := ⟨poolList es last⟩
def fileOf (pool : Array CpInfo) (this : Nat) (attrs : Array Attribute := #[]) (ms : Array MethodInfo := #[]) (fl : Nat := 33) (sup : Nat := 0) (ifs : Array Nat := #[]) (fds : Array FieldInfo := #[]) : ClassFile where
  minorVersion := 0
  majorVersion := 65
  constantPool := pool
  accessFlags := fl
  thisClass := this
  superClass := sup
  interfaces := ifs
  fields := fds
  methods := ms
  attributes := attrs
def plain (name : String) (sup : Option ClassId) : Class where
  name := name
  kind := .ordinary
  loader := none
  accessFlags := 33
  super := sup
  interfaces := #[]
  cf := none
  fields := #[]
  methods := #[]
  instanceTypes := #[]
  staticTypes := #[]
  resolved := #[]
  callSites := []
  init := .initialized
  statics := none
  mirror := none

def pool0 : Array CpInfo := pool [(5, u "<init>"), (0, u "()V"), (1, .class_ 10), (1, u "java/lang/Object")] 113

def k0m0 : Method := { name := "<init>", desc := "()V", sig := { parameters := [], returnType := none }, accessFlags := 1, code := none }
/-- java/lang/Object -/
def k0 : Class := { plain "java/lang/Object" none with
  accessFlags := 33
  interfaces := #[]
  cf := some (fileOf pool0 8 #[] #[{ accessFlags := 1, nameIndex := 5, descriptorIndex := 6, attributes := #[] }] 33 0 #[] #[])
  fields := #[]
  methods := #[k0m0]
  instanceTypes := #[]
  staticTypes := #[]
  resolved := Array.replicate 124 none
  statics := none }

def pool1 : Array CpInfo := pool [(2, .class_ 4), (1, u "java/lang/Object"), (0, u "<init>"), (0, u "()V"), (0, .fieldref 8 9), (0, .class_ 10), (0, .nameAndType 11 12), (0, u "com/example/rialto/rialto/ledger/Direction"), (0, u "CREDIT"), (0, u "Lcom/example/rialto/rialto/ledger/Direction;"), (0, .fieldref 8 14), (0, .nameAndType 15 12), (0, u "DEBIT"), (0, .methodref 8 17), (0, .nameAndType 18 19), (0, u "opposite"), (0, u "()Lcom/example/rialto/rialto/ledger/Direction;"), (0, .class_ 21), (0, u "com/example/rialto/rialto/ledger/DirectionOppositePinLaw"), (2, u "law"), (0, u "(I)Z")] 3

def k1m0 : Method := { name := "<init>", desc := "()V", sig := { parameters := [], returnType := none }, accessFlags := 1, code := none }
def k1c1 : Code := { maxStack := 2, maxLocals := 5, code := code, exceptionTable := #[], attributes := #[] }
def k1m1 : Method := { name := "law", desc := "(I)Z", sig := { parameters := [.int], returnType := some .boolean }, accessFlags := 9, code := some k1c1 }
/-- com/example/rialto/rialto/ledger/DirectionOppositePinLaw -/
def k1 : Class := { plain "com/example/rialto/rialto/ledger/DirectionOppositePinLaw" (some 0) with
  accessFlags := 49
  interfaces := #[]
  cf := some (fileOf pool1 20 #[] #[{ accessFlags := 1, nameIndex := 5, descriptorIndex := 6, attributes := #[] }, { accessFlags := 9, nameIndex := 24, descriptorIndex := 25, attributes := #[] }] 49 2 #[] #[])
  fields := #[]
  methods := #[k1m0, k1m1]
  instanceTypes := #[]
  staticTypes := #[]
  resolved := Array.replicate 29 none
  statics := none }

def pool2 : Array CpInfo := pool [(1, .class_ 2), (0, u "java/lang/constant/Constable"), (0, .class_ 4), (0, u "java/lang/Object")] 6

/-- java/lang/constant/Constable -/
def k2 : Class := { plain "java/lang/constant/Constable" (some 0) with
  accessFlags := 1537
  interfaces := #[]
  cf := some (fileOf pool2 1 #[] #[] 1537 3 #[] #[])
  fields := #[]
  methods := #[]
  instanceTypes := #[]
  staticTypes := #[]
  resolved := Array.replicate 11 none
  statics := none }

def pool3 : Array CpInfo := pool [(1, .class_ 2), (0, u "java/lang/Comparable"), (0, .class_ 4), (0, u "java/lang/Object")] 7

/-- java/lang/Comparable -/
def k3 : Class := { plain "java/lang/Comparable" (some 0) with
  accessFlags := 1537
  interfaces := #[]
  cf := some (fileOf pool3 1 #[] #[] 1537 3 #[] #[])
  fields := #[]
  methods := #[]
  instanceTypes := #[]
  staticTypes := #[]
  resolved := Array.replicate 12 none
  statics := none }

def pool4 : Array CpInfo := pool [(1, .class_ 2), (0, u "java/io/Serializable"), (0, .class_ 4), (0, u "java/lang/Object")] 2

/-- java/io/Serializable -/
def k4 : Class := { plain "java/io/Serializable" (some 0) with
  accessFlags := 1537
  interfaces := #[]
  cf := some (fileOf pool4 1 #[] #[] 1537 3 #[] #[])
  fields := #[]
  methods := #[]
  instanceTypes := #[]
  staticTypes := #[]
  resolved := Array.replicate 7 none
  statics := none }

def pool5 : Array CpInfo := pool [(2, .class_ 4), (1, u "java/lang/Enum"), (0, u "name"), (0, u "Ljava/lang/String;"), (2, u "ordinal"), (0, u "I"), (1, .class_ 14), (1, u "java/lang/Object"), (4, u "hash"), (86, .class_ 108), (1, u "java/lang/Enum$EnumDesc"), (2, .class_ 112), (0, u "java/lang/constant/Constable"), (0, .class_ 114), (0, u "java/lang/Comparable"), (0, .class_ 116), (0, u "java/io/Serializable")] 87

/-- java/lang/Enum -/
def k5 : Class := { plain "java/lang/Enum" (some 0) with
  accessFlags := 1057
  interfaces := #[2, 3, 4]
  cf := some (fileOf pool5 2 #[.nestMembers #[106]] #[] 1057 12 #[111, 113, 115] #[{ accessFlags := 18, nameIndex := 5, descriptorIndex := 6, attributes := #[] }, { accessFlags := 18, nameIndex := 9, descriptorIndex := 10, attributes := #[] }, { accessFlags := 2, nameIndex := 19, descriptorIndex := 10, attributes := #[] }])
  fields := #[{ name := "name", type := (.object "java/lang/String"), accessFlags := 18, slot := 0, constantValue := 0 }, { name := "ordinal", type := .int, accessFlags := 18, slot := 1, constantValue := 0 }, { name := "hash", type := .int, accessFlags := 2, slot := 2, constantValue := 0 }]
  methods := #[]
  instanceTypes := #[(.object "java/lang/String"), .int, .int]
  staticTypes := #[]
  resolved := Array.replicate 204 none
  statics := none }

def pool6 : Array CpInfo := pool [(9, .class_ 10), (0, u "com/example/rialto/rialto/ledger/WireNamed"), (20, .class_ 32), (0, u "java/lang/Object")] 24

/-- com/example/rialto/rialto/ledger/WireNamed -/
def k6 : Class := { plain "com/example/rialto/rialto/ledger/WireNamed" (some 0) with
  accessFlags := 1537
  interfaces := #[]
  cf := some (fileOf pool6 9 #[] #[] 1537 31 #[] #[])
  fields := #[]
  methods := #[]
  instanceTypes := #[]
  staticTypes := #[]
  resolved := Array.replicate 57 none
  statics := none }

def pool7 : Array CpInfo := pool [(1, .class_ 2), (0, u "com/example/rialto/rialto/ledger/Direction"), (0, .fieldref 1 4), (0, .nameAndType 5 6), (0, u "CREDIT"), (0, u "Lcom/example/rialto/rialto/ledger/Direction;"), (0, .fieldref 1 8), (0, .nameAndType 9 6), (0, u "DEBIT"), (2, u "$VALUES"), (0, u "[Lcom/example/rialto/rialto/ledger/Direction;"), (6, .class_ 22), (1, u "java/lang/Enum"), (8, u "wireName"), (0, u "Ljava/lang/String;"), (3, .class_ 38), (1, u "com/example/rialto/rialto/ledger/WireNamed"), (38, u "opposite"), (0, u "()Lcom/example/rialto/rialto/ledger/Direction;")] 8

def k7c0 : Code := { maxStack := 2, maxLocals := 1, code := prog_17_method_6_code, exceptionTable := #[], attributes := #[] }
def k7m0 : Method := { name := "opposite", desc := "()Lcom/example/rialto/rialto/ledger/Direction;", sig := { parameters := [], returnType := some (.object "com/example/rialto/rialto/ledger/Direction") }, accessFlags := 1, code := some k7c0 }
/-- com/example/rialto/rialto/ledger/Direction -/
def k7 : Class := { plain "com/example/rialto/rialto/ledger/Direction" (some 5) with
  accessFlags := 16433
  interfaces := #[6]
  cf := some (fileOf pool7 1 #[] #[{ accessFlags := 1, nameIndex := 77, descriptorIndex := 78, attributes := #[] }] 16433 20 #[36] #[{ accessFlags := 16409, nameIndex := 5, descriptorIndex := 6, attributes := #[] }, { accessFlags := 16409, nameIndex := 9, descriptorIndex := 6, attributes := #[] }, { accessFlags := 18, nameIndex := 31, descriptorIndex := 32, attributes := #[] }, { accessFlags := 4122, nameIndex := 12, descriptorIndex := 13, attributes := #[] }])
  fields := #[{ name := "CREDIT", type := (.object "com/example/rialto/rialto/ledger/Direction"), accessFlags := 16409, slot := 0, constantValue := 0 }, { name := "DEBIT", type := (.object "com/example/rialto/rialto/ledger/Direction"), accessFlags := 16409, slot := 1, constantValue := 0 }, { name := "wireName", type := (.object "java/lang/String"), accessFlags := 18, slot := 3, constantValue := 0 }, { name := "$VALUES", type := (.array (.object "com/example/rialto/rialto/ledger/Direction")), accessFlags := 4122, slot := 2, constantValue := 0 }]
  methods := #[k7m0]
  instanceTypes := #[(.object "java/lang/String"), .int, .int, (.object "java/lang/String")]
  staticTypes := #[(.object "com/example/rialto/rialto/ledger/Direction"), (.object "com/example/rialto/rialto/ledger/Direction"), (.array (.object "com/example/rialto/rialto/ledger/Direction"))]
  resolved := Array.replicate 87 none
  statics := some 0 }

def pool8 : Array CpInfo := pool [(1, u "java/lang/Cloneable"), (0, .class_ 1), (0, u "java/lang/Object"), (0, .class_ 3)] 3

/-- java/lang/Cloneable -/
def k8 : Class := { plain "java/lang/Cloneable" (some 0) with
  accessFlags := 1537
  interfaces := #[]
  cf := some (fileOf pool8 2 #[] #[] 1537 4 #[] #[])
  fields := #[]
  methods := #[]
  instanceTypes := #[]
  staticTypes := #[]
  resolved := Array.replicate 8 none
  statics := none }

/-- the primitive byte -/
def k9 : Class := { plain "byte" none with kind := .primitive 'B', accessFlags := 0x411 }
/-- [B -/
def k10 : Class := { plain "[B" (some 0) with kind := .array 9 .byte, interfaces := #[8, 4], accessFlags := 1041 }

/-- the primitive int -/
def k11 : Class := { plain "int" none with kind := .primitive 'I', accessFlags := 0x411 }
/-- [I -/
def k12 : Class := { plain "[I" (some 0) with kind := .array 11 .int, interfaces := #[8, 4], accessFlags := 1041 }

def heap : Heap := #[{ cls := 7, slots := #[.ref 2, .ref 1, .null], vm := .statics 7 },
  { cls := 7, slots := #[.null, .int 1, .int 0, .null], vm := .none },
  { cls := 7, slots := #[.null, .int 0, .int 0, .null], vm := .none }]
def classes : Array Class := #[k0, k1, k2, k3, k4, k5, k6, k7, k8, k9, k10, k11, k12]
def interned : List (Array UInt16 × Addr) := []
def slotsUsed : Nat := 11
def theMethod : MethodId := ⟨1, 1⟩
def args0 : Array Value := #[.int 5]
def aboutOver (below : List Frame) : State where
  vm := { classes := classes, interned := interned.toArray }
  heap := heap
  slotsUsed := slotsUsed
  threads := #[{ frames := .invoking theMethod args0 :: below }]
def below0 : List Frame := [.native { method := ⟨0, 0⟩, args := #[] }]
def about1 : State := aboutOver below0
def p0 : Program := .bare "" "" ""
def e0 : Env := launch0.env 0 0 0
theorem w_frames : about1.frames = Frame.invoking theMethod args0 :: below0 := rfl
set_option maxRecDepth 65536 in
theorem w_args : argsFit about1.vm theMethod args0 = true := by decide +kernel
set_option maxRecDepth 65536 in
theorem w_heap : heapFits about1 = true := by decide +kernel
set_option maxRecDepth 65536 in
theorem w_runnable : about1.curStatus? = some .runnable := by decide +kernel
set_option maxRecDepth 65536 in
theorem w_alone : about1.alone = true := by decide +kernel
set_option maxRecDepth 65536 in
theorem w_named : about1.methodNamed? x = some theMethod := by decide +kernel
set_option maxRecDepth 65536 in
theorem w_hears : about1.hears theMethod below0 = true := by decide +kernel
set_option maxRecDepth 65536 in
theorem w_ripe : about1.ripe theMethod args0 below0 = true := by decide +kernel
theorem w_running : about1.status = .running := rfl
set_option maxRecDepth 65536 in
theorem w_room : about1.hasRoom e0.platform room_1 = true :=
  launch0.hasRoom_least _ room_1 (by decide +kernel) (by decide +kernel) (by decide +kernel) (by decide +kernel) (by decide +kernel) (by decide +kernel)
theorem allAtoms_all (ts : List Jvm.Cond) (a : Array Jvm.Value) (st : Jvm.State) : (allAtoms ts).before a st = ts.all (fun c => c.before a st) := by
  induction ts with
  | nil => rfl
  | cons c t ih =>
    show (Jvm.Cond.and c (allAtoms t)).before a st = _
    rw [Jvm.Cond.before_and, ih, List.all_cons]
def words1 : List Jvm.Cond := Jvm.Cond.code x code maxLocals ret :: tables_1
/-- a 'code' word, met by the world's own term for the bytes: nothing is compared byte by byte -/
theorem code_word {y : MethodName} {bytes : ByteArray} {mx : Nat} {rt : Option FieldType} {a : Array Value} {s : State} {m : MethodId} {meth : Method} {c : Code} (h1 : s.methodNamed? y = some m) (h2 : s.vm.method? m = some meth) (h3 : meth.code = some c) (h4 : c.code = bytes)
    (h5 : (c.maxLocals == mx && c.exceptionTable.isEmpty && decide (c.maxStack ≤ mostOperands) && decide (meth.sig.returnType = rt) && !meth.locks && decide (parseMethodDescriptor y.desc = some meth.sig)) = true) : (Jvm.Cond.code y bytes mx rt).before a s = true := by
  simp only [Bool.and_eq_true, beq_iff_eq, Bool.not_eq_true', decide_eq_true_eq] at h5
  obtain ⟨⟨⟨⟨⟨g1, g2⟩, g3⟩, g4⟩, g5⟩, g6⟩ := h5
  simp [Cond.before, Cond.holds, Cond.value, h1, h2, h3, h4, g1, g2, g3, g4, g5, g6]
def isCode : Jvm.Cond → Bool
  | .code _ _ _ _ => true
  | _ => false
theorem all_split {L : List Jvm.Cond} {P : Jvm.Cond → Bool} (h1 : L.all (fun c => isCode c || P c) = true) (h2 : ∀ c ∈ L.filter isCode, P c = true) : L.all P = true := by
  refine List.all_eq_true.mpr fun c hc => ?_
  have h := List.all_eq_true.mp h1 c hc
  rcases Bool.eq_false_or_eq_true (isCode c) with hi | hi
  · exact h2 c (List.mem_filter.mpr ⟨hc, hi⟩)
  · simpa [hi] using h
set_option maxRecDepth 65536 in
theorem w_c0 : (Jvm.Cond.code x code maxLocals ret).before args0 about1 = true := code_word (m := ⟨1, 1⟩) (meth := k1m1) (c := k1c1) (by decide +kernel) rfl rfl rfl (by decide +kernel)
set_option maxRecDepth 65536 in
theorem w_c1 : (Jvm.Cond.code ({ cls := "com/example/rialto/rialto/ledger/Direction", name := "opposite", desc := "()Lcom/example/rialto/rialto/ledger/Direction;" } : Jvm.MethodName) prog_17_method_6_code (1 : Nat) (Option.some (Jvm.ClassFile.FieldType.object "com/example/rialto/rialto/ledger/Direction"))).before args0 about1 = true := code_word (m := ⟨7, 0⟩) (meth := k7m0) (c := k7c0) (by decide +kernel) rfl rfl rfl (by decide +kernel)
def codes1 : List Jvm.Cond := [Jvm.Cond.code x code maxLocals ret, Jvm.Cond.code ({ cls := "com/example/rialto/rialto/ledger/Direction", name := "opposite", desc := "()Lcom/example/rialto/rialto/ledger/Direction;" } : Jvm.MethodName) prog_17_method_6_code (1 : Nat) (Option.some (Jvm.ClassFile.FieldType.object "com/example/rialto/rialto/ledger/Direction"))]
set_option maxRecDepth 65536 in
theorem codes_eq : words1.filter isCode = codes1 := rfl
theorem w_codes : ∀ c ∈ words1.filter isCode, c.before args0 about1 = true := by
  rw [codes_eq]
  intro c hc
  simp only [codes1, List.mem_cons, List.not_mem_nil, or_false] at hc
  rcases hc with rfl | rfl
  · exact w_c0
  · exact w_c1
set_option maxRecDepth 65536 in
theorem w_t1 : words1.all (fun c => isCode c || c.before args0 about1) = true := by decide +kernel
theorem w_tables : (allAtoms (Jvm.Cond.code x code maxLocals ret :: tables_1)).before args0 about1 = true := by
  rw [allAtoms_all]
  show words1.all (fun c => c.before args0 about1) = true
  refine all_split ?_ w_codes
  rw [w_t1]
set_option maxRecDepth 65536 in
theorem w_case : (Jvm.Cond.and given_1 narrow_1).before args0 about1 = true := by decide +kernel
theorem w_applies : (headSpec (Jvm.Cond.code x code maxLocals ret :: tables_1) room_1).applies x e0.platform about1 = true :=
  (Spec.applies_iff w_frames).mpr ⟨w_running, w_runnable, w_alone, w_named, w_hears, w_ripe, w_room, w_tables⟩
theorem atStart : AtStart classFile x code maxLocals ret World_1 tables_1 room_1 Calls_1 rest_1 Pre_1 launch0 p0 e0 about1 theMethod args0 below0 :=
  ⟨lists_1, trivial, launch0.admits_env _ _ _, launch0.least_env, fairChoices_fair.cas, fairChoices_fair.clock, w_frames, w_args, w_heap, w_applies, trivial, trivial, w_case⟩
end start1
theorem witness_1 : WitnessClaimed_1 := ⟨start1.p0, start1.e0, start1.about1, start1.theMethod, start1.args0, start1.below0, start1.atStart⟩
end Jvm.Pilot.@@N@@
