import JvmDerived
import JvmDerived.Pilot.@@N@@Statement
import JvmDerived.Pilot.@@N@@Code
set_option linter.unusedVariables false
set_option linter.unusedSimpArgs false
namespace Jvm.RoadKit
open Sem ClassFile Op Lib Jvm.Stand Jvm.Free Jvm.LawKit
section New
variable {p : Program} {l : Launch} {e : Env} {R : Room} {s : State} {m : MethodId} {args : Array Value} {below : List Frame} {meth : Method} {c : Code} {T : State} {locs : List Loc} {cells slots : Nat}
theorem own_retI (X : Stand p l e R s m args below meth c T locs cells slots) (hx : p.tables.exec = Jvm.exec) {pc : Nat} {Ls : Array Slot} {z : Int32} {rest : List Value} (hret : meth.sig.returnType = some .int) (hd : decode c.code pc = .ok (.ireturn, 1)) {fs : List Frame}
    (hl : ∀ (f : JFrame) (acts : List Action), f.method = m → f.locked = none → f.entered = [] → (doReturn e (T.setTop f) acts (some (.int z))).1 = T.setFrames fs) : Steps p.tables e below (T.setTop (mkF m pc Ls (.int z :: rest))) (T.setFrames fs) :=
  retOut X hx hret rfl (Or.inl ⟨rfl, Or.inl rfl, z, rfl⟩) hd hl
theorem own_retL (X : Stand p l e R s m args below meth c T locs cells slots) (hx : p.tables.exec = Jvm.exec) {pc : Nat} {Ls : Array Slot} {z : Int64} {rest : List Value} (hret : meth.sig.returnType = some .long) (hd : decode c.code pc = .ok (.lreturn, 1)) {fs : List Frame}
    (hl : ∀ (f : JFrame) (acts : List Action), f.method = m → f.locked = none → f.entered = [] → (doReturn e (T.setTop f) acts (some (.long z))).1 = T.setFrames fs) : Steps p.tables e below (T.setTop (mkF m pc Ls (.long z :: rest))) (T.setFrames fs) :=
  retOut X hx hret rfl (Or.inr (Or.inl ⟨rfl, rfl, z, rfl⟩)) hd hl
theorem own_retA (X : Stand p l e R s m args below meth c T locs cells slots) (hx : p.tables.exec = Jvm.exec) {pc : Nat} {Ls : Array Slot} {w : Value} {t : FieldType} {rest : List Value} (hret : meth.sig.returnType = some t) (ht : t.isReference = true) (hw : w.isRef = true) (hd : decode c.code pc = .ok (.areturn, 1)) {fs : List Frame}
    (hl : ∀ (f : JFrame) (acts : List Action), f.method = m → f.locked = none → f.entered = [] → (doReturn e (T.setTop f) acts (some w)).1 = T.setFrames fs) : Steps p.tables e below (T.setTop (mkF m pc Ls (w :: rest))) (T.setFrames fs) :=
  retOut X hx hret (by cases t <;> cases w <;> simp_all [narrow, Value.isRef, FieldType.isReference]) (Or.inr (Or.inr (Or.inr (Or.inr ⟨rfl, ht, hw⟩)))) hd hl
end New
end Jvm.RoadKit
namespace Jvm.Pilot.@@N@@
open Jvm Jvm.ClassFile Sem Op Lib Jvm.Free Jvm.Stand Jvm.LawKit Jvm.RoadKit Bundle Jvm.Pilot.@@N@@.Jvm.D
theorem own_lcEt {x y : Int64} (h : x = y) : lcmpW x y = (0 : Int32) := by rw [lcW]; exact (lc_eq x y).mpr h
theorem own_lcEf {x y : Int64} (h : ¬ (x = y)) : ¬ (lcmpW x y = (0 : Int32)) := by rw [lcW]; exact fun q => h ((lc_eq x y).mp q)
theorem own_lcLt {x y : Int64} (h : x < y) : lcmpW x y < (0 : Int32) := by rw [lcW]; exact (lc_lt x y).mpr h
theorem own_lcLf {x y : Int64} (h : ¬ (x < y)) : ¬ (lcmpW x y < (0 : Int32)) := by rw [lcW]; exact fun q => h ((lc_lt x y).mp q)
theorem own_lcGt {x y : Int64} (h : y < x) : (0 : Int32) < lcmpW x y := by rw [lcW]; exact (lc_gt x y).mpr h
theorem own_lcGf {x y : Int64} (h : ¬ (y < x)) : ¬ ((0 : Int32) < lcmpW x y) := by rw [lcW]; exact fun q => h ((lc_gt x y).mp q)
theorem own_ext_refl (h : Heap) : Ext h h := ⟨Nat.le_refl _, fun _ _ q => q⟩
theorem own_ext_trans {h h' h'' : Heap} (E : Ext h h') (F : Ext h' h'') : Ext h h'' := ⟨Nat.le_trans E.1 F.1, fun a c q => F.2 a c (E.2 a c q)⟩
theorem own_ext_wr {h h' h'' : Heap} {a : Addr} {sl : Nat} {v : Value} (E : Ext h h') (W : Wr h' h'' a sl v) (q : h.size ≤ a) : Ext h h'' := by
  obtain ⟨cell, -, -, -, rfl⟩ := W
  refine ⟨by simpa using E.1, fun b c r => ?_⟩
  have hb : b < h.size := (Array.getElem?_eq_some_iff.mp r).1
  rw [Array.getElem?_setIfInBounds_ne (Nat.ne_of_gt (Nat.lt_of_lt_of_le hb q))]
  exact E.2 b c r
theorem own_fldI {args : Array Value} {s : State} {t : Term} {a : Addr} {C n d : String} {k : Int32} (ev : t.eval args s none [] s = some (.ref a)) (h : (Cond.eq (.field t C n d) (.int k)).value args s none s [] = some true) : Fld s s.heap a C n d (.int k) := by
  obtain ⟨u, v, h1, h2, -, k2⟩ := cmp_v (Or.inl h)
  have e2 : (Term.int k).eval args s none [] s = some (.int k) := rfl
  cases e2.symm.trans h2
  obtain ⟨z, rfl⟩ := k2
  have q : z = k := by simpa [Cond.value, h1, e2] using h
  subst q
  exact Fld.start ((fld_at ev).symm.trans h1)
theorem own_fldJ {args : Array Value} {s : State} {t : Term} {a : Addr} {C n d : String} {k : Int64} (ev : t.eval args s none [] s = some (.ref a)) (h : (Cond.eq (.field t C n d) (.long k)).value args s none s [] = some true) : Fld s s.heap a C n d (.long k) := by
  obtain ⟨u, v, h1, h2, -, k2⟩ := cmp_v (Or.inl h)
  have e2 : (Term.long k).eval args s none [] s = some (.long k) := rfl
  cases e2.symm.trans h2
  obtain ⟨z, rfl⟩ := k2
  have q : z = k := by simpa [Cond.value, h1, e2] using h
  subst q
  exact Fld.start ((fld_at ev).symm.trans h1)
theorem own_fldN {args : Array Value} {s : State} {t : Term} {a : Addr} {C n d : String} (ev : t.eval args s none [] s = some (.ref a)) (h : (Cond.eq (.field t C n d) .null).value args s none s [] = some true) : Fld s s.heap a C n d .null :=
  Fld.start ((fld_at ev).symm.trans (null_v h))
theorem own_eqR {args : Array Value} {s : State} {t u : Term} {b : Addr} (eu : u.eval args s none [] s = some (.ref b)) (h : (Cond.eq t u).value args s none s [] = some true) : t.eval args s none [] s = some (.ref b) := by
  obtain ⟨x, y, h1, h2, k1, k2⟩ := cmp_v (Or.inl h)
  cases eu.symm.trans h2
  have hx : x.isRef = true := k2.2
  have q := gotT (eq_R h1 h2 hx rfl) h
  rw [h1, q]
theorem own_fldR {args : Array Value} {s : State} {t u : Term} {a b : Addr} {C n d : String} (ev : t.eval args s none [] s = some (.ref a)) (eu : u.eval args s none [] s = some (.ref b)) (h : (Cond.eq (.field t C n d) u).value args s none s [] = some true) : Fld s s.heap a C n d (.ref b) :=
  Fld.start ((fld_at ev).symm.trans (own_eqR eu h))
theorem own_elI {args : Array Value} {s : State} {t : Term} {a : Addr} {cl : Cell} {j k : Int32} {i : Nat} (ev : t.eval args s none [] s = some (.ref a)) (hc : s.heap[a]? = some cl) (h : (Cond.eq (.elem t (.int j)) (.int k)).value args s none s [] = some true) (hj : j.toNatClampNeg = i) : cl.slots[i]? = some (.int k) := by
  obtain ⟨u, v, h1, h2, -, k2⟩ := cmp_v (Or.inl h)
  have e2 : (Term.int k).eval args s none [] s = some (.int k) := rfl
  cases e2.symm.trans h2
  obtain ⟨z, rfl⟩ := k2
  have q : z = k := by simpa [Cond.value, h1, e2] using h
  subst q hj
  exact (elem_in h1 ev (rfl : (Term.int j).eval args s none [] s = some (.int j)) hc).2
theorem own_elR {args : Array Value} {s : State} {t u : Term} {a b : Addr} {cl : Cell} {j : Int32} {i : Nat} (ev : t.eval args s none [] s = some (.ref a)) (eu : u.eval args s none [] s = some (.ref b)) (hc : s.heap[a]? = some cl) (h : (Cond.eq (.elem t (.int j)) u).value args s none s [] = some true) (hj : j.toNatClampNeg = i) : cl.slots[i]? = some (.ref b) := by
  subst hj
  exact (elem_in (own_eqR eu h) ev (rfl : (Term.int j).eval args s none [] s = some (.int j)) hc).2
theorem own_len {args : Array Value} {s : State} {t : Term} {a : Addr} {cl : Cell} {ty : FieldType} {k : Int32} (ev : t.eval args s none [] s = some (.ref a)) (A : Arr s s.heap a cl ty) (h : (Cond.eq (.length t) (.int k)).value args s none s [] = some true) : cl.slots.size < 2 ^ 31 ∧ cl.slots.size.toInt32 = k := by
  obtain ⟨u, v, h1, h2, -, k2⟩ := cmp_v (Or.inl h)
  have e2 : (Term.int k).eval args s none [] s = some (.int k) := rfl
  cases e2.symm.trans h2
  obtain ⟨z, rfl⟩ := k2
  have q : z = k := by simpa [Cond.value, h1, e2] using h
  subst q
  have ha := A.fin (Vm.Alike.refl _)
  simp only [Term.eval, ev, ha, Option.bind_eq_bind, Option.bind_some] at h1
  split at h1
  · rename_i q
    exact ⟨q, by simpa using h1⟩
  · cases h1
def World (Z : State) (h : Heap) (w_VALUES : Addr) (wPRODUCE : Addr) (wFETCH : Addr) (wLIST_OFFSETS : Addr) (wMETADATA : Addr) (wOFFSET_COMMIT : Addr) (wOFFSET_FETCH : Addr) (wFIND_COORDINATOR : Addr) (wJOIN_GROUP : Addr) (wHEARTBEAT : Addr) (wLEAVE_GROUP : Addr) (wSYNC_GROUP : Addr) (wAPI_VERSIONS : Addr) (wINIT_PRODUCER_ID : Addr) (wADD_PARTITIONS_TO_TXN : Addr) (wADD_OFFSETS_TO_TXN : Addr) (wEND_TXN : Addr) (wTXN_OFFSET_COMMIT : Addr) (k_VALUES : ClassId) : Prop := Sta Z h "com/example/idem_log/idemlog/protocol/Api" "$VALUES" "[Lcom/example/idem_log/idemlog/protocol/Api;" (.ref w_VALUES) ∧ Exa Z h w_VALUES "[Lcom/example/idem_log/idemlog/protocol/Api;" ∧ Sta Z h "com/example/idem_log/idemlog/protocol/Api" "PRODUCE" "Lcom/example/idem_log/idemlog/protocol/Api;" (.ref wPRODUCE) ∧ Exa Z h wPRODUCE "com/example/idem_log/idemlog/protocol/Api" ∧ Sta Z h "com/example/idem_log/idemlog/protocol/Api" "FETCH" "Lcom/example/idem_log/idemlog/protocol/Api;" (.ref wFETCH) ∧ Exa Z h wFETCH "com/example/idem_log/idemlog/protocol/Api" ∧ Sta Z h "com/example/idem_log/idemlog/protocol/Api" "LIST_OFFSETS" "Lcom/example/idem_log/idemlog/protocol/Api;" (.ref wLIST_OFFSETS) ∧ Exa Z h wLIST_OFFSETS "com/example/idem_log/idemlog/protocol/Api" ∧ Sta Z h "com/example/idem_log/idemlog/protocol/Api" "METADATA" "Lcom/example/idem_log/idemlog/protocol/Api;" (.ref wMETADATA) ∧ Exa Z h wMETADATA "com/example/idem_log/idemlog/protocol/Api" ∧ Sta Z h "com/example/idem_log/idemlog/protocol/Api" "OFFSET_COMMIT" "Lcom/example/idem_log/idemlog/protocol/Api;" (.ref wOFFSET_COMMIT) ∧ Exa Z h wOFFSET_COMMIT "com/example/idem_log/idemlog/protocol/Api" ∧ Sta Z h "com/example/idem_log/idemlog/protocol/Api" "OFFSET_FETCH" "Lcom/example/idem_log/idemlog/protocol/Api;" (.ref wOFFSET_FETCH) ∧ Exa Z h wOFFSET_FETCH "com/example/idem_log/idemlog/protocol/Api" ∧ Sta Z h "com/example/idem_log/idemlog/protocol/Api" "FIND_COORDINATOR" "Lcom/example/idem_log/idemlog/protocol/Api;" (.ref wFIND_COORDINATOR) ∧ Exa Z h wFIND_COORDINATOR "com/example/idem_log/idemlog/protocol/Api" ∧ Sta Z h "com/example/idem_log/idemlog/protocol/Api" "JOIN_GROUP" "Lcom/example/idem_log/idemlog/protocol/Api;" (.ref wJOIN_GROUP) ∧ Exa Z h wJOIN_GROUP "com/example/idem_log/idemlog/protocol/Api" ∧ Sta Z h "com/example/idem_log/idemlog/protocol/Api" "HEARTBEAT" "Lcom/example/idem_log/idemlog/protocol/Api;" (.ref wHEARTBEAT) ∧ Exa Z h wHEARTBEAT "com/example/idem_log/idemlog/protocol/Api" ∧ Sta Z h "com/example/idem_log/idemlog/protocol/Api" "LEAVE_GROUP" "Lcom/example/idem_log/idemlog/protocol/Api;" (.ref wLEAVE_GROUP) ∧ Exa Z h wLEAVE_GROUP "com/example/idem_log/idemlog/protocol/Api" ∧ Sta Z h "com/example/idem_log/idemlog/protocol/Api" "SYNC_GROUP" "Lcom/example/idem_log/idemlog/protocol/Api;" (.ref wSYNC_GROUP) ∧ Exa Z h wSYNC_GROUP "com/example/idem_log/idemlog/protocol/Api" ∧ Sta Z h "com/example/idem_log/idemlog/protocol/Api" "API_VERSIONS" "Lcom/example/idem_log/idemlog/protocol/Api;" (.ref wAPI_VERSIONS) ∧ Exa Z h wAPI_VERSIONS "com/example/idem_log/idemlog/protocol/Api" ∧ Sta Z h "com/example/idem_log/idemlog/protocol/Api" "INIT_PRODUCER_ID" "Lcom/example/idem_log/idemlog/protocol/Api;" (.ref wINIT_PRODUCER_ID) ∧ Exa Z h wINIT_PRODUCER_ID "com/example/idem_log/idemlog/protocol/Api" ∧ Sta Z h "com/example/idem_log/idemlog/protocol/Api" "ADD_PARTITIONS_TO_TXN" "Lcom/example/idem_log/idemlog/protocol/Api;" (.ref wADD_PARTITIONS_TO_TXN) ∧ Exa Z h wADD_PARTITIONS_TO_TXN "com/example/idem_log/idemlog/protocol/Api" ∧ Sta Z h "com/example/idem_log/idemlog/protocol/Api" "ADD_OFFSETS_TO_TXN" "Lcom/example/idem_log/idemlog/protocol/Api;" (.ref wADD_OFFSETS_TO_TXN) ∧ Exa Z h wADD_OFFSETS_TO_TXN "com/example/idem_log/idemlog/protocol/Api" ∧ Sta Z h "com/example/idem_log/idemlog/protocol/Api" "END_TXN" "Lcom/example/idem_log/idemlog/protocol/Api;" (.ref wEND_TXN) ∧ Exa Z h wEND_TXN "com/example/idem_log/idemlog/protocol/Api" ∧ Sta Z h "com/example/idem_log/idemlog/protocol/Api" "TXN_OFFSET_COMMIT" "Lcom/example/idem_log/idemlog/protocol/Api;" (.ref wTXN_OFFSET_COMMIT) ∧ Exa Z h wTXN_OFFSET_COMMIT "com/example/idem_log/idemlog/protocol/Api" ∧ Fld Z h wPRODUCE "com/example/idem_log/idemlog/protocol/Api" "key" "S" (.int (0 : Int32)) ∧ Fld Z h wFETCH "com/example/idem_log/idemlog/protocol/Api" "key" "S" (.int (1 : Int32)) ∧ Fld Z h wLIST_OFFSETS "com/example/idem_log/idemlog/protocol/Api" "key" "S" (.int (2 : Int32)) ∧ Fld Z h wMETADATA "com/example/idem_log/idemlog/protocol/Api" "key" "S" (.int (3 : Int32)) ∧ Fld Z h wOFFSET_COMMIT "com/example/idem_log/idemlog/protocol/Api" "key" "S" (.int (8 : Int32)) ∧ Fld Z h wOFFSET_FETCH "com/example/idem_log/idemlog/protocol/Api" "key" "S" (.int (9 : Int32)) ∧ Fld Z h wFIND_COORDINATOR "com/example/idem_log/idemlog/protocol/Api" "key" "S" (.int (10 : Int32)) ∧ Fld Z h wJOIN_GROUP "com/example/idem_log/idemlog/protocol/Api" "key" "S" (.int (11 : Int32)) ∧ Fld Z h wHEARTBEAT "com/example/idem_log/idemlog/protocol/Api" "key" "S" (.int (12 : Int32)) ∧ Fld Z h wLEAVE_GROUP "com/example/idem_log/idemlog/protocol/Api" "key" "S" (.int (13 : Int32)) ∧ Fld Z h wSYNC_GROUP "com/example/idem_log/idemlog/protocol/Api" "key" "S" (.int (14 : Int32)) ∧ Fld Z h wAPI_VERSIONS "com/example/idem_log/idemlog/protocol/Api" "key" "S" (.int (18 : Int32)) ∧ Fld Z h wINIT_PRODUCER_ID "com/example/idem_log/idemlog/protocol/Api" "key" "S" (.int (22 : Int32)) ∧ Fld Z h wADD_PARTITIONS_TO_TXN "com/example/idem_log/idemlog/protocol/Api" "key" "S" (.int (24 : Int32)) ∧ Fld Z h wADD_OFFSETS_TO_TXN "com/example/idem_log/idemlog/protocol/Api" "key" "S" (.int (25 : Int32)) ∧ Fld Z h wEND_TXN "com/example/idem_log/idemlog/protocol/Api" "key" "S" (.int (26 : Int32)) ∧ Fld Z h wTXN_OFFSET_COMMIT "com/example/idem_log/idemlog/protocol/Api" "key" "S" (.int (28 : Int32)) ∧ Arv Z h w_VALUES k_VALUES (.object "com/example/idem_log/idemlog/protocol/Api") (17 : Int32) [(.ref wPRODUCE), (.ref wFETCH), (.ref wLIST_OFFSETS), (.ref wMETADATA), (.ref wOFFSET_COMMIT), (.ref wOFFSET_FETCH), (.ref wFIND_COORDINATOR), (.ref wJOIN_GROUP), (.ref wHEARTBEAT), (.ref wLEAVE_GROUP), (.ref wSYNC_GROUP), (.ref wAPI_VERSIONS), (.ref wINIT_PRODUCER_ID), (.ref wADD_PARTITIONS_TO_TXN), (.ref wADD_OFFSETS_TO_TXN), (.ref wEND_TXN), (.ref wTXN_OFFSET_COMMIT)] .null ∧ True
theorem World.ext {Z : State} {h h' : Heap} {w_VALUES : Addr} {wPRODUCE : Addr} {wFETCH : Addr} {wLIST_OFFSETS : Addr} {wMETADATA : Addr} {wOFFSET_COMMIT : Addr} {wOFFSET_FETCH : Addr} {wFIND_COORDINATOR : Addr} {wJOIN_GROUP : Addr} {wHEARTBEAT : Addr} {wLEAVE_GROUP : Addr} {wSYNC_GROUP : Addr} {wAPI_VERSIONS : Addr} {wINIT_PRODUCER_ID : Addr} {wADD_PARTITIONS_TO_TXN : Addr} {wADD_OFFSETS_TO_TXN : Addr} {wEND_TXN : Addr} {wTXN_OFFSET_COMMIT : Addr} {k_VALUES : ClassId} (W : World Z h w_VALUES wPRODUCE wFETCH wLIST_OFFSETS wMETADATA wOFFSET_COMMIT wOFFSET_FETCH wFIND_COORDINATOR wJOIN_GROUP wHEARTBEAT wLEAVE_GROUP wSYNC_GROUP wAPI_VERSIONS wINIT_PRODUCER_ID wADD_PARTITIONS_TO_TXN wADD_OFFSETS_TO_TXN wEND_TXN wTXN_OFFSET_COMMIT k_VALUES) (E : Ext h h') : World Z h' w_VALUES wPRODUCE wFETCH wLIST_OFFSETS wMETADATA wOFFSET_COMMIT wOFFSET_FETCH wFIND_COORDINATOR wJOIN_GROUP wHEARTBEAT wLEAVE_GROUP wSYNC_GROUP wAPI_VERSIONS wINIT_PRODUCER_ID wADD_PARTITIONS_TO_TXN wADD_OFFSETS_TO_TXN wEND_TXN wTXN_OFFSET_COMMIT k_VALUES := by
  obtain ⟨S_VALUES, E_VALUES, SPRODUCE, EPRODUCE, SFETCH, EFETCH, SLIST_OFFSETS, ELIST_OFFSETS, SMETADATA, EMETADATA, SOFFSET_COMMIT, EOFFSET_COMMIT, SOFFSET_FETCH, EOFFSET_FETCH, SFIND_COORDINATOR, EFIND_COORDINATOR, SJOIN_GROUP, EJOIN_GROUP, SHEARTBEAT, EHEARTBEAT, SLEAVE_GROUP, ELEAVE_GROUP, SSYNC_GROUP, ESYNC_GROUP, SAPI_VERSIONS, EAPI_VERSIONS, SINIT_PRODUCER_ID, EINIT_PRODUCER_ID, SADD_PARTITIONS_TO_TXN, EADD_PARTITIONS_TO_TXN, SADD_OFFSETS_TO_TXN, EADD_OFFSETS_TO_TXN, SEND_TXN, EEND_TXN, STXN_OFFSET_COMMIT, ETXN_OFFSET_COMMIT, FPRODUCE_key, FFETCH_key, FLIST_OFFSETS_key, FMETADATA_key, FOFFSET_COMMIT_key, FOFFSET_FETCH_key, FFIND_COORDINATOR_key, FJOIN_GROUP_key, FHEARTBEAT_key, FLEAVE_GROUP_key, FSYNC_GROUP_key, FAPI_VERSIONS_key, FINIT_PRODUCER_ID_key, FADD_PARTITIONS_TO_TXN_key, FADD_OFFSETS_TO_TXN_key, FEND_TXN_key, FTXN_OFFSET_COMMIT_key, A_VALUES, -⟩ := W
  exact ⟨S_VALUES.ext E, E_VALUES.ext E, SPRODUCE.ext E, EPRODUCE.ext E, SFETCH.ext E, EFETCH.ext E, SLIST_OFFSETS.ext E, ELIST_OFFSETS.ext E, SMETADATA.ext E, EMETADATA.ext E, SOFFSET_COMMIT.ext E, EOFFSET_COMMIT.ext E, SOFFSET_FETCH.ext E, EOFFSET_FETCH.ext E, SFIND_COORDINATOR.ext E, EFIND_COORDINATOR.ext E, SJOIN_GROUP.ext E, EJOIN_GROUP.ext E, SHEARTBEAT.ext E, EHEARTBEAT.ext E, SLEAVE_GROUP.ext E, ELEAVE_GROUP.ext E, SSYNC_GROUP.ext E, ESYNC_GROUP.ext E, SAPI_VERSIONS.ext E, EAPI_VERSIONS.ext E, SINIT_PRODUCER_ID.ext E, EINIT_PRODUCER_ID.ext E, SADD_PARTITIONS_TO_TXN.ext E, EADD_PARTITIONS_TO_TXN.ext E, SADD_OFFSETS_TO_TXN.ext E, EADD_OFFSETS_TO_TXN.ext E, SEND_TXN.ext E, EEND_TXN.ext E, STXN_OFFSET_COMMIT.ext E, ETXN_OFFSET_COMMIT.ext E, FPRODUCE_key.ext E, FFETCH_key.ext E, FLIST_OFFSETS_key.ext E, FMETADATA_key.ext E, FOFFSET_COMMIT_key.ext E, FOFFSET_FETCH_key.ext E, FFIND_COORDINATOR_key.ext E, FJOIN_GROUP_key.ext E, FHEARTBEAT_key.ext E, FLEAVE_GROUP_key.ext E, FSYNC_GROUP_key.ext E, FAPI_VERSIONS_key.ext E, FINIT_PRODUCER_ID_key.ext E, FADD_PARTITIONS_TO_TXN_key.ext E, FADD_OFFSETS_TO_TXN_key.ext E, FEND_TXN_key.ext E, FTXN_OFFSET_COMMIT_key.ext E, A_VALUES.ext E, trivial⟩
theorem d1_0 : decode prog_15_method_1_code 0 = .ok (.getstatic 55, 3) := by decide +kernel
theorem d1_3 : decode prog_15_method_1_code 3 = .ok (.invokevirtual 59, 3) := by decide +kernel
theorem d1_6 : decode prog_15_method_1_code 6 = .ok (.checkcast 60, 3) := by decide +kernel
theorem d1_9 : decode prog_15_method_1_code 9 = .ok (.areturn, 1) := by decide +kernel
theorem pn_0 : plainName "com/example/idem_log/idemlog/protocol/Api" = true := by first | (simp [plainName, overriddenIn]; done) | decide +kernel
theorem ef_1 (m : MethodId) : entryFrame m #[] 0 = mkF m 0 #[] [] := by first | (simp [entryFrame, mkF, argsToLocals, Value.category]; done) | rfl
def Q1 (Z : State) (w_VALUES : Addr) (wPRODUCE : Addr) (wFETCH : Addr) (wLIST_OFFSETS : Addr) (wMETADATA : Addr) (wOFFSET_COMMIT : Addr) (wOFFSET_FETCH : Addr) (wFIND_COORDINATOR : Addr) (wJOIN_GROUP : Addr) (wHEARTBEAT : Addr) (wLEAVE_GROUP : Addr) (wSYNC_GROUP : Addr) (wAPI_VERSIONS : Addr) (wINIT_PRODUCER_ID : Addr) (wADD_PARTITIONS_TO_TXN : Addr) (wADD_OFFSETS_TO_TXN : Addr) (wEND_TXN : Addr) (wTXN_OFFSET_COMMIT : Addr) (k_VALUES : ClassId) (h0 : Heap) (n0 : Nat) (v : Option Value) (h : Heap) (L : List Loc) : Prop := ∃ b, v = some (.ref b) ∧ n0 ≤ b ∧ Fr n0 L ∧ Ext h0 h ∧ Arv Z h b k_VALUES (.object "com/example/idem_log/idemlog/protocol/Api") (17 : Int32) [(.ref wPRODUCE), (.ref wFETCH), (.ref wLIST_OFFSETS), (.ref wMETADATA), (.ref wOFFSET_COMMIT), (.ref wOFFSET_FETCH), (.ref wFIND_COORDINATOR), (.ref wJOIN_GROUP), (.ref wHEARTBEAT), (.ref wLEAVE_GROUP), (.ref wSYNC_GROUP), (.ref wAPI_VERSIONS), (.ref wINIT_PRODUCER_ID), (.ref wADD_PARTITIONS_TO_TXN), (.ref wADD_OFFSETS_TO_TXN), (.ref wEND_TXN), (.ref wTXN_OFFSET_COMMIT)] .null
set_option maxRecDepth 65536 in
set_option maxHeartbeats 40000000 in
theorem rm1 (l : Launch) (Z : State) (a0 : Array Value) (hw : ∀ d ∈ tables_1, d.before a0 Z = true) (ws : List Jvm.Cond) (w_VALUES : Addr) (wPRODUCE : Addr) (wFETCH : Addr) (wLIST_OFFSETS : Addr) (wMETADATA : Addr) (wOFFSET_COMMIT : Addr) (wOFFSET_FETCH : Addr) (wFIND_COORDINATOR : Addr) (wJOIN_GROUP : Addr) (wHEARTBEAT : Addr) (wLEAVE_GROUP : Addr) (wSYNC_GROUP : Addr) (wAPI_VERSIONS : Addr) (wINIT_PRODUCER_ID : Addr) (wADD_PARTITIONS_TO_TXN : Addr) (wADD_OFFSETS_TO_TXN : Addr) (wEND_TXN : Addr) (wTXN_OFFSET_COMMIT : Addr) (k_VALUES : ClassId) (h0 : Heap) (n0 : Nat) (Z0 : n0 ≤ h0.size) (W0 : World Z h0 w_VALUES wPRODUCE wFETCH wLIST_OFFSETS wMETADATA wOFFSET_COMMIT wOFFSET_FETCH wFIND_COORDINATOR wJOIN_GROUP wHEARTBEAT wLEAVE_GROUP wSYNC_GROUP wAPI_VERSIONS wINIT_PRODUCER_ID wADD_PARTITIONS_TO_TXN wADD_OFFSETS_TO_TXN wEND_TXN wTXN_OFFSET_COMMIT k_VALUES) :
    MetFree l (⟨"com/example/idem_log/idemlog/protocol/Api", "values", "()[Lcom/example/idem_log/idemlog/protocol/Api;"⟩ : MethodName) (head1 (Jvm.Cond.code (⟨"com/example/idem_log/idemlog/protocol/Api", "values", "()[Lcom/example/idem_log/idemlog/protocol/Api;"⟩ : MethodName) prog_15_method_1_code 0 (some (.array (.object "com/example/idem_log/idemlog/protocol/Api"))) :: ws) ({ frames := 1, cells := 1, slots := 17, locals := 14 } : Room)) (fun a U => a = #[] ∧ Z.Warmed39 U.vm ∧ U.heap = h0) (fun _ _ _ _ _ => True) (fun _ U o U' => ∃ v L, o = .returned v ∧ Q1 Z w_VALUES wPRODUCE wFETCH wLIST_OFFSETS wMETADATA wOFFSET_COMMIT wOFFSET_FETCH wFIND_COORDINATOR wJOIN_GROUP wHEARTBEAT wLEAVE_GROUP wSYNC_GROUP wAPI_VERSIONS wINIT_PRODUCER_ID wADD_PARTITIONS_TO_TXN wADD_OFFSETS_TO_TXN wEND_TXN wTXN_OFFSET_COMMIT k_VALUES h0 n0 v U'.heap L ∧ FrameEnd U o U' L ({ frames := 1, cells := 1, slots := 17, locals := 14 } : Room).cells ({ frames := 1, cells := 1, slots := 17, locals := 14 } : Room).slots) := by
  refine MetFree.of_bodySF (plainFor_of_name pn_0) hisR ?_
  intro p e s m args below meth c s₁ Bd hml0 hP hK
  obtain ⟨rfl, hZ, hh⟩ := hP
  have hx := Bd.exec
  have hby := Bd.bytes
  have hml : c.maxLocals = 0 := hml0
  have hown : s.vm.findClass "com/example/idem_log/idemlog/protocol/Api" = some m.cls := findClass_of_methodNamed Bd.named
  have X0 : Stand p l e ({ frames := 1, cells := 1, slots := 17, locals := 14 } : Room) s m #[] below meth c s₁ [] 0 0 := Stand.of_body Bd
  have e0 : s₁.heap = h0 := by rw [← hh, Bd.state]; rfl
  have N0 := Fr.nil n0
  have W1 := W0
  obtain ⟨S_VALUES, E_VALUES, SPRODUCE, EPRODUCE, SFETCH, EFETCH, SLIST_OFFSETS, ELIST_OFFSETS, SMETADATA, EMETADATA, SOFFSET_COMMIT, EOFFSET_COMMIT, SOFFSET_FETCH, EOFFSET_FETCH, SFIND_COORDINATOR, EFIND_COORDINATOR, SJOIN_GROUP, EJOIN_GROUP, SHEARTBEAT, EHEARTBEAT, SLEAVE_GROUP, ELEAVE_GROUP, SSYNC_GROUP, ESYNC_GROUP, SAPI_VERSIONS, EAPI_VERSIONS, SINIT_PRODUCER_ID, EINIT_PRODUCER_ID, SADD_PARTITIONS_TO_TXN, EADD_PARTITIONS_TO_TXN, SADD_OFFSETS_TO_TXN, EADD_OFFSETS_TO_TXN, SEND_TXN, EEND_TXN, STXN_OFFSET_COMMIT, ETXN_OFFSET_COMMIT, FPRODUCE_key, FFETCH_key, FLIST_OFFSETS_key, FMETADATA_key, FOFFSET_COMMIT_key, FOFFSET_FETCH_key, FFIND_COORDINATOR_key, FJOIN_GROUP_key, FHEARTBEAT_key, FLEAVE_GROUP_key, FSYNC_GROUP_key, FAPI_VERSIONS_key, FINIT_PRODUCER_ID_key, FADD_PARTITIONS_TO_TXN_key, FADD_OFFSETS_TO_TXN_key, FEND_TXN_key, FTXN_OFFSET_COMMIT_key, A_VALUES, -⟩ := W1
  have pre0 : ∀ t, Steps p.tables e below (s₁.setTop (mkF m 0 #[] [])) t → Steps p.tables e below (s₁.setTop (entryFrame m #[] 0)) t := fun t k => castTop (ef_1 m ) k
  obtain ⟨T1, X1, e1, st1⟩ := getS2 X0 hx hZ hown (host := "") (Or.inl (hw _ (List.mem_of_getElem? (i := 7) rfl))) Via.refl e0 S_VALUES (g := (mkF m 0 #[] [])) rfl (hb hby d1_0)
  obtain ⟨T2, h2, X2, e2, E2, V2, A2, st2⟩ := cloneH X1 hx hZ hown (hw _ (List.mem_of_getElem? (i := 9) rfl)) (hw _ (List.mem_of_getElem? (i := 10) rfl)) (hw _ (List.mem_of_getElem? (i := 14) rfl)) (hw _ (List.mem_of_getElem? (i := 12) rfl)) (hw _ (List.mem_of_getElem? (i := 13) rfl)) (hw _ (List.mem_of_getElem? (i := 15) rfl)) e1 (Arv.arh A_VALUES) E_VALUES (g := (mkF m 3 #[] [(.ref w_VALUES)])) rfl (by rw [hml]; rfl) rfl (hb hby d1_3) (by decide) (W := 0) (cap := 17) (by show 2 * 0 + _ ≤ _; exact Nat.le_of_eq rfl) (by decide) (by decide) (by decide) (by decide)
  obtain ⟨b2, g2⟩ : ∃ z, z = h0.size := ⟨_, rfl⟩
  rw [← g2] at V2 A2 st2
  have g_b2 : n0 ≤ b2 := Nat.le_trans Z0 (Nat.le_of_eq g2.symm)
  have sz_b2 : h0.size ≤ b2 := Nat.le_of_eq g2.symm
  have EX2 : Ext h0 h2 := E2
  obtain ⟨T3, X3, e3, st3⟩ := castY X2 hx hZ hown (hw _ (List.mem_of_getElem? (i := 34) rfl)) e2 (Ins.self A2) (g := (mkF m 6 #[] [(.ref b2)])) rfl rfl (hb hby d1_6)
  obtain ⟨fs, hr, hrun, hended, hW, hsame⟩ := X3.leave (v := some (.ref b2)) (fun h => by rw [Bd.returns] at h; cases h)
  refine ⟨_, _, pre0 _ ?_, hrun, hended, _, _, rfl, ?_, ⟨_, rfl⟩, hW, hsame.mono (by decide) (by decide)⟩
  · show Steps p.tables e below (s₁.setTop (mkF m 0 #[] [])) _
    refine st1 _ ?_
    show Steps p.tables e below (T1.setTop (mkF m 3 #[] [(.ref w_VALUES)])) _
    refine st2 _ ?_
    show Steps p.tables e below (T2.setTop (mkF m 6 #[] [(.ref b2)])) _
    refine st3 _ ?_
    show Steps p.tables e below (T3.setTop (mkF m 9 #[] [(.ref b2)])) _
    exact own_retA X3 hx Bd.returns rfl rfl (hb hby d1_9) hr
  · show Q1 Z w_VALUES wPRODUCE wFETCH wLIST_OFFSETS wMETADATA wOFFSET_COMMIT wOFFSET_FETCH wFIND_COORDINATOR wJOIN_GROUP wHEARTBEAT wLEAVE_GROUP wSYNC_GROUP wAPI_VERSIONS wINIT_PRODUCER_ID wADD_PARTITIONS_TO_TXN wADD_OFFSETS_TO_TXN wEND_TXN wTXN_OFFSET_COMMIT k_VALUES h0 n0 _ T3.heap _
    rw [e3]
    exact ⟨b2, rfl, g_b2, N0, EX2, V2⟩
theorem d2_0 : decode prog_15_method_4_code 0 = .ok (.invokestatic 87, 3) := by decide +kernel
theorem pd_0 : parseMethodDescriptor "()[Lcom/example/idem_log/idemlog/protocol/Api;" = some ⟨[], some (.array (.object "com/example/idem_log/idemlog/protocol/Api"))⟩ := by decide +kernel
theorem d2_3 : decode prog_15_method_4_code 3 = .ok (.astore_n 1, 1) := by decide +kernel
theorem d2_4 : decode prog_15_method_4_code 4 = .ok (.aload_n 1, 1) := by decide +kernel
theorem d2_5 : decode prog_15_method_4_code 5 = .ok (.arraylength, 1) := by decide +kernel
theorem d2_6 : decode prog_15_method_4_code 6 = .ok (.istore_n 2, 1) := by decide +kernel
theorem d2_7 : decode prog_15_method_4_code 7 = .ok (.iconst 0, 1) := by decide +kernel
theorem d2_8 : decode prog_15_method_4_code 8 = .ok (.istore_n 3, 1) := by decide +kernel
theorem d2_9 : decode prog_15_method_4_code 9 = .ok (.iload_n 3, 1) := by decide +kernel
theorem d2_10 : decode prog_15_method_4_code 10 = .ok (.iload_n 2, 1) := by decide +kernel
theorem d2_11 : decode prog_15_method_4_code 11 = .ok (.if_icmp .ge 26, 3) := by decide +kernel
theorem d2_14 : decode prog_15_method_4_code 14 = .ok (.aload_n 1, 1) := by decide +kernel
theorem d2_15 : decode prog_15_method_4_code 15 = .ok (.iload_n 3, 1) := by decide +kernel
theorem d2_16 : decode prog_15_method_4_code 16 = .ok (.aaload, 1) := by decide +kernel
theorem d2_17 : decode prog_15_method_4_code 17 = .ok (.astore 4, 2) := by decide +kernel
theorem d2_19 : decode prog_15_method_4_code 19 = .ok (.aload 4, 2) := by decide +kernel
theorem d2_21 : decode prog_15_method_4_code 21 = .ok (.getfield 74, 3) := by decide +kernel
theorem d2_24 : decode prog_15_method_4_code 24 = .ok (.iload_n 0, 1) := by decide +kernel
theorem d2_25 : decode prog_15_method_4_code 25 = .ok (.if_icmp .ne 6, 3) := by decide +kernel
theorem d2_28 : decode prog_15_method_4_code 28 = .ok (.aload 4, 2) := by decide +kernel
theorem d2_30 : decode prog_15_method_4_code 30 = .ok (.areturn, 1) := by decide +kernel
theorem d2_31 : decode prog_15_method_4_code 31 = .ok (.iinc 3 1, 3) := by decide +kernel
theorem d2_34 : decode prog_15_method_4_code 34 = .ok (.goto (-25), 3) := by decide +kernel
theorem d2_37 : decode prog_15_method_4_code 37 = .ok (.aconst_null, 1) := by decide +kernel
theorem d2_38 : decode prog_15_method_4_code 38 = .ok (.areturn, 1) := by decide +kernel
def f2 (p0 : Int32) (w_VALUES : Addr) (wPRODUCE : Addr) (wFETCH : Addr) (wLIST_OFFSETS : Addr) (wMETADATA : Addr) (wOFFSET_COMMIT : Addr) (wOFFSET_FETCH : Addr) (wFIND_COORDINATOR : Addr) (wJOIN_GROUP : Addr) (wHEARTBEAT : Addr) (wLEAVE_GROUP : Addr) (wSYNC_GROUP : Addr) (wAPI_VERSIONS : Addr) (wINIT_PRODUCER_ID : Addr) (wADD_PARTITIONS_TO_TXN : Addr) (wADD_OFFSETS_TO_TXN : Addr) (wEND_TXN : Addr) (wTXN_OFFSET_COMMIT : Addr) (k_VALUES : ClassId) : Value := if (0 : Int32) = p0 then (.ref wPRODUCE) else if (1 : Int32) = p0 then (.ref wFETCH) else if (2 : Int32) = p0 then (.ref wLIST_OFFSETS) else if (3 : Int32) = p0 then (.ref wMETADATA) else if (8 : Int32) = p0 then (.ref wOFFSET_COMMIT) else if (9 : Int32) = p0 then (.ref wOFFSET_FETCH) else if (10 : Int32) = p0 then (.ref wFIND_COORDINATOR) else if (11 : Int32) = p0 then (.ref wJOIN_GROUP) else if (12 : Int32) = p0 then (.ref wHEARTBEAT) else if (13 : Int32) = p0 then (.ref wLEAVE_GROUP) else if (14 : Int32) = p0 then (.ref wSYNC_GROUP) else if (18 : Int32) = p0 then (.ref wAPI_VERSIONS) else if (22 : Int32) = p0 then (.ref wINIT_PRODUCER_ID) else if (24 : Int32) = p0 then (.ref wADD_PARTITIONS_TO_TXN) else if (25 : Int32) = p0 then (.ref wADD_OFFSETS_TO_TXN) else if (26 : Int32) = p0 then (.ref wEND_TXN) else if (28 : Int32) = p0 then (.ref wTXN_OFFSET_COMMIT) else .null
theorem ef_2 (m : MethodId) (p0 : Int32) : entryFrame m #[(.int p0)] 5 = mkF m 0 #[.val (.int p0), .unset, .unset, .unset, .unset] [] := by first | (simp [entryFrame, mkF, argsToLocals, Value.category]; done) | rfl
def Q2 (Z : State) (p0 : Int32) (w_VALUES : Addr) (wPRODUCE : Addr) (wFETCH : Addr) (wLIST_OFFSETS : Addr) (wMETADATA : Addr) (wOFFSET_COMMIT : Addr) (wOFFSET_FETCH : Addr) (wFIND_COORDINATOR : Addr) (wJOIN_GROUP : Addr) (wHEARTBEAT : Addr) (wLEAVE_GROUP : Addr) (wSYNC_GROUP : Addr) (wAPI_VERSIONS : Addr) (wINIT_PRODUCER_ID : Addr) (wADD_PARTITIONS_TO_TXN : Addr) (wADD_OFFSETS_TO_TXN : Addr) (wEND_TXN : Addr) (wTXN_OFFSET_COMMIT : Addr) (k_VALUES : ClassId) (h0 : Heap) (n0 : Nat) (v : Option Value) (h : Heap) (L : List Loc) : Prop := v = some (f2 p0 w_VALUES wPRODUCE wFETCH wLIST_OFFSETS wMETADATA wOFFSET_COMMIT wOFFSET_FETCH wFIND_COORDINATOR wJOIN_GROUP wHEARTBEAT wLEAVE_GROUP wSYNC_GROUP wAPI_VERSIONS wINIT_PRODUCER_ID wADD_PARTITIONS_TO_TXN wADD_OFFSETS_TO_TXN wEND_TXN wTXN_OFFSET_COMMIT k_VALUES) ∧ Fr n0 L ∧ Ext h0 h
set_option maxRecDepth 65536 in
set_option maxHeartbeats 40000000 in
theorem rm2 (l : Launch) (Z : State) (a0 : Array Value) (hw : ∀ d ∈ tables_1, d.before a0 Z = true) (ws : List Jvm.Cond) (p0 : Int32) (w_VALUES : Addr) (wPRODUCE : Addr) (wFETCH : Addr) (wLIST_OFFSETS : Addr) (wMETADATA : Addr) (wOFFSET_COMMIT : Addr) (wOFFSET_FETCH : Addr) (wFIND_COORDINATOR : Addr) (wJOIN_GROUP : Addr) (wHEARTBEAT : Addr) (wLEAVE_GROUP : Addr) (wSYNC_GROUP : Addr) (wAPI_VERSIONS : Addr) (wINIT_PRODUCER_ID : Addr) (wADD_PARTITIONS_TO_TXN : Addr) (wADD_OFFSETS_TO_TXN : Addr) (wEND_TXN : Addr) (wTXN_OFFSET_COMMIT : Addr) (k_VALUES : ClassId) (h0 : Heap) (n0 : Nat) (Z0 : n0 ≤ h0.size) (W0 : World Z h0 w_VALUES wPRODUCE wFETCH wLIST_OFFSETS wMETADATA wOFFSET_COMMIT wOFFSET_FETCH wFIND_COORDINATOR wJOIN_GROUP wHEARTBEAT wLEAVE_GROUP wSYNC_GROUP wAPI_VERSIONS wINIT_PRODUCER_ID wADD_PARTITIONS_TO_TXN wADD_OFFSETS_TO_TXN wEND_TXN wTXN_OFFSET_COMMIT k_VALUES) :
    MetFree l (⟨"com/example/idem_log/idemlog/protocol/Api", "forKey", "(S)Lcom/example/idem_log/idemlog/protocol/Api;"⟩ : MethodName) (head1 (Jvm.Cond.code (⟨"com/example/idem_log/idemlog/protocol/Api", "forKey", "(S)Lcom/example/idem_log/idemlog/protocol/Api;"⟩ : MethodName) prog_15_method_4_code 5 (some (.object "com/example/idem_log/idemlog/protocol/Api")) :: ws) ({ frames := 2, cells := 1, slots := 17, locals := 25 } : Room)) (fun a U => a = #[(.int p0)] ∧ Z.Warmed39 U.vm ∧ U.heap = h0) (fun _ _ _ _ _ => True) (fun _ U o U' => ∃ v L, o = .returned v ∧ Q2 Z p0 w_VALUES wPRODUCE wFETCH wLIST_OFFSETS wMETADATA wOFFSET_COMMIT wOFFSET_FETCH wFIND_COORDINATOR wJOIN_GROUP wHEARTBEAT wLEAVE_GROUP wSYNC_GROUP wAPI_VERSIONS wINIT_PRODUCER_ID wADD_PARTITIONS_TO_TXN wADD_OFFSETS_TO_TXN wEND_TXN wTXN_OFFSET_COMMIT k_VALUES h0 n0 v U'.heap L ∧ FrameEnd U o U' L ({ frames := 2, cells := 1, slots := 17, locals := 25 } : Room).cells ({ frames := 2, cells := 1, slots := 17, locals := 25 } : Room).slots) := by
  refine MetFree.of_bodySF (plainFor_of_name pn_0) hisR ?_
  intro p e s m args below meth c s₁ Bd hml0 hP hK
  obtain ⟨rfl, hZ, hh⟩ := hP
  have hx := Bd.exec
  have hby := Bd.bytes
  have hml : c.maxLocals = 5 := hml0
  have hown : s.vm.findClass "com/example/idem_log/idemlog/protocol/Api" = some m.cls := findClass_of_methodNamed Bd.named
  have X0 : Stand p l e ({ frames := 2, cells := 1, slots := 17, locals := 25 } : Room) s m #[(.int p0)] below meth c s₁ [] 0 0 := Stand.of_body Bd
  have e0 : s₁.heap = h0 := by rw [← hh, Bd.state]; rfl
  have N0 := Fr.nil n0
  have W1 := W0
  obtain ⟨S_VALUES, E_VALUES, SPRODUCE, EPRODUCE, SFETCH, EFETCH, SLIST_OFFSETS, ELIST_OFFSETS, SMETADATA, EMETADATA, SOFFSET_COMMIT, EOFFSET_COMMIT, SOFFSET_FETCH, EOFFSET_FETCH, SFIND_COORDINATOR, EFIND_COORDINATOR, SJOIN_GROUP, EJOIN_GROUP, SHEARTBEAT, EHEARTBEAT, SLEAVE_GROUP, ELEAVE_GROUP, SSYNC_GROUP, ESYNC_GROUP, SAPI_VERSIONS, EAPI_VERSIONS, SINIT_PRODUCER_ID, EINIT_PRODUCER_ID, SADD_PARTITIONS_TO_TXN, EADD_PARTITIONS_TO_TXN, SADD_OFFSETS_TO_TXN, EADD_OFFSETS_TO_TXN, SEND_TXN, EEND_TXN, STXN_OFFSET_COMMIT, ETXN_OFFSET_COMMIT, FPRODUCE_key, FFETCH_key, FLIST_OFFSETS_key, FMETADATA_key, FOFFSET_COMMIT_key, FOFFSET_FETCH_key, FFIND_COORDINATOR_key, FJOIN_GROUP_key, FHEARTBEAT_key, FLEAVE_GROUP_key, FSYNC_GROUP_key, FAPI_VERSIONS_key, FINIT_PRODUCER_ID_key, FADD_PARTITIONS_TO_TXN_key, FADD_OFFSETS_TO_TXN_key, FEND_TXN_key, FTXN_OFFSET_COMMIT_key, A_VALUES, -⟩ := W1
  have pre0 : ∀ t, Steps p.tables e below (s₁.setTop (mkF m 0 #[.val (.int p0), .unset, .unset, .unset, .unset] [])) t → Steps p.tables e below (s₁.setTop (entryFrame m #[(.int p0)] 5)) t := fun t k => castTop (ef_2 m p0) k
  obtain ⟨_, _, ⟨T4, L4, k4, n4⟩, -, X4, ⟨Lc4, hQ4, l4, y4, z4⟩, st4⟩ := Jvm.LawKit.callS X0 hx (y := (⟨"com/example/idem_log/idemlog/protocol/Api", "values", "()[Lcom/example/idem_log/idemlog/protocol/Api;"⟩ : MethodName)) hown (mvT hZ (hw _ (List.mem_of_getElem? (i := 4) rfl))) (mvT hZ (hw _ (List.mem_of_getElem? (i := 5) rfl))) (mvT hZ (hw _ (List.mem_of_getElem? (i := 2) rfl))) (mvT hZ (hw _ (List.mem_of_getElem? (i := 6) rfl))) (by decide) (backOf (W := 0) (rm1 l Z a0 hw [] w_VALUES wPRODUCE wFETCH wLIST_OFFSETS wMETADATA wOFFSET_COMMIT wOFFSET_FETCH wFIND_COORDINATOR wJOIN_GROUP wHEARTBEAT wLEAVE_GROUP wSYNC_GROUP wAPI_VERSIONS wINIT_PRODUCER_ID wADD_PARTITIONS_TO_TXN wADD_OFFSETS_TO_TXN wEND_TXN wTXN_OFFSET_COMMIT k_VALUES h0 n0 Z0 W0 ) hZ (hw _ (List.mem_of_getElem? (i := 6) rfl)) (hw _ (List.mem_of_getElem? (i := 2) rfl)) (by decide) (by decide)) (g := (mkF m 0 #[.val (.int p0), .unset, .unset, .unset, .unset] [])) rfl (by rw [hml]; rfl) (argsL := []) (rest := []) (lenOf pd_0 rfl) rfl (by show 2 * 0 + _ ≤ _; exact Nat.le_of_eq rfl) (hb hby d2_0) (fun _ _ => ⟨rfl, e0, (by decide : 0 + 1 ≤ _), (by decide : 0 + 17 ≤ _)⟩)
  dsimp only [Pt.U, Pt.locs, Pt.cells, Pt.slots] at X4 l4 y4 z4 st4 hQ4
  subst l4 y4 z4
  unfold Q1 at hQ4
  obtain ⟨b4, rfl, g_b4, N4q, E4, V4⟩ := hQ4
  have N4 := Fr.app N0 N4q
  have EX4 : Ext h0 T4.heap := E4
  obtain ⟨cla5, Ara5, qa5, Sa5, Na5, -, -⟩ := And.left ⟨V4, trivial⟩
  obtain ⟨cla6, Ara6, qa6, Sa6, Na6, Ha6, Ga6⟩ := And.left ⟨V4, trivial⟩
  have hina6 : ¬ ((0 : Int32) < 0 ∨ cla6.slots.size ≤ ((0 : Int32)).toNatClampNeg) := inb_of Sa6 ⟨by decide, by decide⟩
  obtain ⟨T7, X7, e7, st7⟩ := getF X4 hx hZ hown (host := "") (Or.inl (hw _ (List.mem_of_getElem? (i := 36) rfl))) Via.refl rfl (FPRODUCE_key.ext EX4) (g := (mkF m 21 #[.val (.int p0), .val (.ref b4), .val (.int (17 : Int32)), .val (.int (0 : Int32)), .val (.ref wPRODUCE)] [(.ref wPRODUCE)])) rfl rfl (hb hby d2_21)
  have k8 : ∀ t, Steps p.tables e below (T7.setTop (mkF m 25 #[.val (.int p0), .val (.ref b4), .val (.int (17 : Int32)), .val (.int (0 : Int32)), .val (.ref wPRODUCE)] [(.int p0), (.int (0 : Int32))])) t → Steps p.tables e below (s₁.setTop (entryFrame m #[(.int p0)] 5)) t := fun t kt => pre0 t (by
    show Steps p.tables e below (s₁.setTop (mkF m 0 #[.val (.int p0), .unset, .unset, .unset, .unset] [])) _
    refine st4 _ ?_
    show Steps p.tables e below (T4.setTop (mkF m 3 #[.val (.int p0), .unset, .unset, .unset, .unset] [(.ref b4)])) _
    refine XS.astoreN X4.here hx rfl (hb hby d2_3) rfl rfl (l' := #[.val (.int p0), .val (.ref b4), .unset, .unset, .unset]) rfl ?_
    show Steps p.tables e below (T4.setTop (mkF m 4 #[.val (.int p0), .val (.ref b4), .unset, .unset, .unset] [])) _
    refine XS.aloadN X4.here hx rfl (hb hby d2_4) rfl rfl ?_
    show Steps p.tables e below (T4.setTop (mkF m 5 #[.val (.int p0), .val (.ref b4), .unset, .unset, .unset] [(.ref b4)])) _
    refine X4.arraylength hx Ara5.1 (State.isArrayOf_alike hZ.alike Ara5.2.1) (g := (mkF m 5 #[.val (.int p0), .val (.ref b4), .unset, .unset, .unset] [(.ref b4)])) rfl rfl (hb hby d2_5) _ ?_
    rw [len_of Sa5 Na5]
    show Steps p.tables e below (T4.setTop (mkF m 6 #[.val (.int p0), .val (.ref b4), .unset, .unset, .unset] [(.int (17 : Int32))])) _
    refine XS.istoreN X4.here hx rfl (hb hby d2_6) rfl (l' := #[.val (.int p0), .val (.ref b4), .val (.int (17 : Int32)), .unset, .unset]) rfl ?_
    show Steps p.tables e below (T4.setTop (mkF m 7 #[.val (.int p0), .val (.ref b4), .val (.int (17 : Int32)), .unset, .unset] [])) _
    refine XS.iconst X4.here hx rfl (hb hby d2_7) ?_
    show Steps p.tables e below (T4.setTop (mkF m 8 #[.val (.int p0), .val (.ref b4), .val (.int (17 : Int32)), .unset, .unset] [(.int (0 : Int32))])) _
    refine XS.istoreN X4.here hx rfl (hb hby d2_8) rfl (l' := #[.val (.int p0), .val (.ref b4), .val (.int (17 : Int32)), .val (.int (0 : Int32)), .unset]) rfl ?_
    show Steps p.tables e below (T4.setTop (mkF m 9 #[.val (.int p0), .val (.ref b4), .val (.int (17 : Int32)), .val (.int (0 : Int32)), .unset] [])) _
    refine XS.iloadN X4.here hx rfl (hb hby d2_9) rfl ?_
    show Steps p.tables e below (T4.setTop (mkF m 10 #[.val (.int p0), .val (.ref b4), .val (.int (17 : Int32)), .val (.int (0 : Int32)), .unset] [(.int (0 : Int32))])) _
    refine XS.iloadN X4.here hx rfl (hb hby d2_10) rfl ?_
    show Steps p.tables e below (T4.setTop (mkF m 11 #[.val (.int p0), .val (.ref b4), .val (.int (17 : Int32)), .val (.int (0 : Int32)), .unset] [(.int (17 : Int32)), (.int (0 : Int32))])) _
    refine XS.icmpNo X4.here hx rfl (hb hby d2_11) rfl (tlt ((by decide) : (0 : Int32) < (17 : Int32))).2.1 ?_
    show Steps p.tables e below (T4.setTop (mkF m 14 #[.val (.int p0), .val (.ref b4), .val (.int (17 : Int32)), .val (.int (0 : Int32)), .unset] [])) _
    refine XS.aloadN X4.here hx rfl (hb hby d2_14) rfl rfl ?_
    show Steps p.tables e below (T4.setTop (mkF m 15 #[.val (.int p0), .val (.ref b4), .val (.int (17 : Int32)), .val (.int (0 : Int32)), .unset] [(.ref b4)])) _
    refine XS.iloadN X4.here hx rfl (hb hby d2_15) rfl ?_
    show Steps p.tables e below (T4.setTop (mkF m 16 #[.val (.int p0), .val (.ref b4), .val (.int (17 : Int32)), .val (.int (0 : Int32)), .unset] [(.int (0 : Int32)), (.ref b4)])) _
    refine X4.aaload hx (j := (0 : Int32)) (v := (.ref wPRODUCE)) Ara6.1 (State.isArrayOf_alike hZ.alike Ara6.2.1) rfl Ara6.2.2 hina6 (Ha6.at hina6 rfl) (g := (mkF m 16 #[.val (.int p0), .val (.ref b4), .val (.int (17 : Int32)), .val (.int (0 : Int32)), .unset] [(.int (0 : Int32)), (.ref b4)])) rfl rfl (hb hby d2_16) _ ?_
    show Steps p.tables e below (T4.setTop (mkF m 17 #[.val (.int p0), .val (.ref b4), .val (.int (17 : Int32)), .val (.int (0 : Int32)), .unset] [(.ref wPRODUCE)])) _
    refine XS.astore X4.here hx rfl (hb hby d2_17) rfl rfl (l' := #[.val (.int p0), .val (.ref b4), .val (.int (17 : Int32)), .val (.int (0 : Int32)), .val (.ref wPRODUCE)]) rfl ?_
    show Steps p.tables e below (T4.setTop (mkF m 19 #[.val (.int p0), .val (.ref b4), .val (.int (17 : Int32)), .val (.int (0 : Int32)), .val (.ref wPRODUCE)] [])) _
    refine XS.aload X4.here hx rfl (hb hby d2_19) rfl rfl ?_
    show Steps p.tables e below (T4.setTop (mkF m 21 #[.val (.int p0), .val (.ref b4), .val (.int (17 : Int32)), .val (.int (0 : Int32)), .val (.ref wPRODUCE)] [(.ref wPRODUCE)])) _
    refine st7 _ ?_
    show Steps p.tables e below (T7.setTop (mkF m 24 #[.val (.int p0), .val (.ref b4), .val (.int (17 : Int32)), .val (.int (0 : Int32)), .val (.ref wPRODUCE)] [(.int (0 : Int32))])) _
    refine XS.iloadN X7.here hx rfl (hb hby d2_24) rfl ?_
    exact kt)
  by_cases hc9 : (0 : Int32) = p0
  · obtain ⟨fs, hr, hrun, hended, hW, hsame⟩ := X7.leave (v := some (.ref wPRODUCE)) (fun h => by rw [Bd.returns] at h; cases h)
    refine ⟨_, _, k8 _ ?_, hrun, hended, _, _, rfl, ?_, ⟨_, rfl⟩, hW, hsame.mono (by decide) (by decide)⟩
    · show Steps p.tables e below (T7.setTop (mkF m 25 #[.val (.int p0), .val (.ref b4), .val (.int (17 : Int32)), .val (.int (0 : Int32)), .val (.ref wPRODUCE)] [(.int p0), (.int (0 : Int32))])) _
      refine XS.icmpNo X7.here hx rfl (hb hby d2_25) rfl (teq (hc9 : (0 : Int32) = p0)).2 ?_
      show Steps p.tables e below (T7.setTop (mkF m 28 #[.val (.int p0), .val (.ref b4), .val (.int (17 : Int32)), .val (.int (0 : Int32)), .val (.ref wPRODUCE)] [])) _
      refine XS.aload X7.here hx rfl (hb hby d2_28) rfl rfl ?_
      show Steps p.tables e below (T7.setTop (mkF m 30 #[.val (.int p0), .val (.ref b4), .val (.int (17 : Int32)), .val (.int (0 : Int32)), .val (.ref wPRODUCE)] [(.ref wPRODUCE)])) _
      exact own_retA X7 hx Bd.returns rfl rfl (hb hby d2_30) hr
    · show Q2 Z p0 w_VALUES wPRODUCE wFETCH wLIST_OFFSETS wMETADATA wOFFSET_COMMIT wOFFSET_FETCH wFIND_COORDINATOR wJOIN_GROUP wHEARTBEAT wLEAVE_GROUP wSYNC_GROUP wAPI_VERSIONS wINIT_PRODUCER_ID wADD_PARTITIONS_TO_TXN wADD_OFFSETS_TO_TXN wEND_TXN wTXN_OFFSET_COMMIT k_VALUES h0 n0 _ T7.heap _
      rw [e7]
      exact ⟨by rw [f2, if_pos hc9], N4, EX4⟩
  · obtain ⟨cla10, Ara10, qa10, Sa10, Na10, Ha10, Ga10⟩ := And.left ⟨V4, trivial⟩
    have hina10 : ¬ ((1 : Int32) < 0 ∨ cla10.slots.size ≤ ((1 : Int32)).toNatClampNeg) := inb_of Sa10 ⟨by decide, by decide⟩
    obtain ⟨T11, X11, e11, st11⟩ := getF X7 hx hZ hown (host := "") (Or.inl (hw _ (List.mem_of_getElem? (i := 36) rfl))) Via.refl e7 (FFETCH_key.ext EX4) (g := (mkF m 21 #[.val (.int p0), .val (.ref b4), .val (.int (17 : Int32)), .val (.int (1 : Int32)), .val (.ref wFETCH)] [(.ref wFETCH)])) rfl rfl (hb hby d2_21)
    have k12 : ∀ t, Steps p.tables e below (T11.setTop (mkF m 25 #[.val (.int p0), .val (.ref b4), .val (.int (17 : Int32)), .val (.int (1 : Int32)), .val (.ref wFETCH)] [(.int p0), (.int (1 : Int32))])) t → Steps p.tables e below (s₁.setTop (entryFrame m #[(.int p0)] 5)) t := fun t kt => k8 t (by
      show Steps p.tables e below (T7.setTop (mkF m 25 #[.val (.int p0), .val (.ref b4), .val (.int (17 : Int32)), .val (.int (0 : Int32)), .val (.ref wPRODUCE)] [(.int p0), (.int (0 : Int32))])) _
      refine XS.icmpYes X7.here hx rfl (pc0 := 25) (pc' := 31) rfl (hb hby d2_25) rfl (feq (hc9 : ¬ ((0 : Int32) = p0))).2 (by decide) (by decide) ?_
      show Steps p.tables e below (T7.setTop (mkF m 31 #[.val (.int p0), .val (.ref b4), .val (.int (17 : Int32)), .val (.int (0 : Int32)), .val (.ref wPRODUCE)] [])) _
      refine XS.iinc X7.here hx rfl (hb hby d2_31) rfl (l' := #[.val (.int p0), .val (.ref b4), .val (.int (17 : Int32)), .val (.int (1 : Int32)), .val (.ref wPRODUCE)]) rfl ?_
      show Steps p.tables e below (T7.setTop (mkF m 34 #[.val (.int p0), .val (.ref b4), .val (.int (17 : Int32)), .val (.int (1 : Int32)), .val (.ref wPRODUCE)] [])) _
      refine XS.goto X7.here hx rfl (pc0 := 34) (pc' := 9) rfl (hb hby d2_34) (by decide) (by decide) ?_
      show Steps p.tables e below (T7.setTop (mkF m 9 #[.val (.int p0), .val (.ref b4), .val (.int (17 : Int32)), .val (.int (1 : Int32)), .val (.ref wPRODUCE)] [])) _
      refine XS.iloadN X7.here hx rfl (hb hby d2_9) rfl ?_
      show Steps p.tables e below (T7.setTop (mkF m 10 #[.val (.int p0), .val (.ref b4), .val (.int (17 : Int32)), .val (.int (1 : Int32)), .val (.ref wPRODUCE)] [(.int (1 : Int32))])) _
      refine XS.iloadN X7.here hx rfl (hb hby d2_10) rfl ?_
      show Steps p.tables e below (T7.setTop (mkF m 11 #[.val (.int p0), .val (.ref b4), .val (.int (17 : Int32)), .val (.int (1 : Int32)), .val (.ref wPRODUCE)] [(.int (17 : Int32)), (.int (1 : Int32))])) _
      refine XS.icmpNo X7.here hx rfl (hb hby d2_11) rfl (tlt ((by decide) : (1 : Int32) < (17 : Int32))).2.1 ?_
      show Steps p.tables e below (T7.setTop (mkF m 14 #[.val (.int p0), .val (.ref b4), .val (.int (17 : Int32)), .val (.int (1 : Int32)), .val (.ref wPRODUCE)] [])) _
      refine XS.aloadN X7.here hx rfl (hb hby d2_14) rfl rfl ?_
      show Steps p.tables e below (T7.setTop (mkF m 15 #[.val (.int p0), .val (.ref b4), .val (.int (17 : Int32)), .val (.int (1 : Int32)), .val (.ref wPRODUCE)] [(.ref b4)])) _
      refine XS.iloadN X7.here hx rfl (hb hby d2_15) rfl ?_
      show Steps p.tables e below (T7.setTop (mkF m 16 #[.val (.int p0), .val (.ref b4), .val (.int (17 : Int32)), .val (.int (1 : Int32)), .val (.ref wPRODUCE)] [(.int (1 : Int32)), (.ref b4)])) _
      refine X7.aaload hx (j := (1 : Int32)) (v := (.ref wFETCH)) (by rw [e7]; exact Ara10.1) (State.isArrayOf_alike hZ.alike Ara10.2.1) rfl Ara10.2.2 hina10 (Ha10.at hina10 rfl) (g := (mkF m 16 #[.val (.int p0), .val (.ref b4), .val (.int (17 : Int32)), .val (.int (1 : Int32)), .val (.ref wPRODUCE)] [(.int (1 : Int32)), (.ref b4)])) rfl rfl (hb hby d2_16) _ ?_
      show Steps p.tables e below (T7.setTop (mkF m 17 #[.val (.int p0), .val (.ref b4), .val (.int (17 : Int32)), .val (.int (1 : Int32)), .val (.ref wPRODUCE)] [(.ref wFETCH)])) _
      refine XS.astore X7.here hx rfl (hb hby d2_17) rfl rfl (l' := #[.val (.int p0), .val (.ref b4), .val (.int (17 : Int32)), .val (.int (1 : Int32)), .val (.ref wFETCH)]) rfl ?_
      show Steps p.tables e below (T7.setTop (mkF m 19 #[.val (.int p0), .val (.ref b4), .val (.int (17 : Int32)), .val (.int (1 : Int32)), .val (.ref wFETCH)] [])) _
      refine XS.aload X7.here hx rfl (hb hby d2_19) rfl rfl ?_
      show Steps p.tables e below (T7.setTop (mkF m 21 #[.val (.int p0), .val (.ref b4), .val (.int (17 : Int32)), .val (.int (1 : Int32)), .val (.ref wFETCH)] [(.ref wFETCH)])) _
      refine st11 _ ?_
      show Steps p.tables e below (T11.setTop (mkF m 24 #[.val (.int p0), .val (.ref b4), .val (.int (17 : Int32)), .val (.int (1 : Int32)), .val (.ref wFETCH)] [(.int (1 : Int32))])) _
      refine XS.iloadN X11.here hx rfl (hb hby d2_24) rfl ?_
      exact kt)
    by_cases hc13 : (1 : Int32) = p0
    · obtain ⟨fs, hr, hrun, hended, hW, hsame⟩ := X11.leave (v := some (.ref wFETCH)) (fun h => by rw [Bd.returns] at h; cases h)
      refine ⟨_, _, k12 _ ?_, hrun, hended, _, _, rfl, ?_, ⟨_, rfl⟩, hW, hsame.mono (by decide) (by decide)⟩
      · show Steps p.tables e below (T11.setTop (mkF m 25 #[.val (.int p0), .val (.ref b4), .val (.int (17 : Int32)), .val (.int (1 : Int32)), .val (.ref wFETCH)] [(.int p0), (.int (1 : Int32))])) _
        refine XS.icmpNo X11.here hx rfl (hb hby d2_25) rfl (teq (hc13 : (1 : Int32) = p0)).2 ?_
        show Steps p.tables e below (T11.setTop (mkF m 28 #[.val (.int p0), .val (.ref b4), .val (.int (17 : Int32)), .val (.int (1 : Int32)), .val (.ref wFETCH)] [])) _
        refine XS.aload X11.here hx rfl (hb hby d2_28) rfl rfl ?_
        show Steps p.tables e below (T11.setTop (mkF m 30 #[.val (.int p0), .val (.ref b4), .val (.int (17 : Int32)), .val (.int (1 : Int32)), .val (.ref wFETCH)] [(.ref wFETCH)])) _
        exact own_retA X11 hx Bd.returns rfl rfl (hb hby d2_30) hr
      · show Q2 Z p0 w_VALUES wPRODUCE wFETCH wLIST_OFFSETS wMETADATA wOFFSET_COMMIT wOFFSET_FETCH wFIND_COORDINATOR wJOIN_GROUP wHEARTBEAT wLEAVE_GROUP wSYNC_GROUP wAPI_VERSIONS wINIT_PRODUCER_ID wADD_PARTITIONS_TO_TXN wADD_OFFSETS_TO_TXN wEND_TXN wTXN_OFFSET_COMMIT k_VALUES h0 n0 _ T11.heap _
        rw [e11]
        exact ⟨by rw [f2, if_neg hc9, if_pos hc13], N4, EX4⟩
    · obtain ⟨cla14, Ara14, qa14, Sa14, Na14, Ha14, Ga14⟩ := And.left ⟨V4, trivial⟩
      have hina14 : ¬ ((2 : Int32) < 0 ∨ cla14.slots.size ≤ ((2 : Int32)).toNatClampNeg) := inb_of Sa14 ⟨by decide, by decide⟩
      obtain ⟨T15, X15, e15, st15⟩ := getF X11 hx hZ hown (host := "") (Or.inl (hw _ (List.mem_of_getElem? (i := 36) rfl))) Via.refl e11 (FLIST_OFFSETS_key.ext EX4) (g := (mkF m 21 #[.val (.int p0), .val (.ref b4), .val (.int (17 : Int32)), .val (.int (2 : Int32)), .val (.ref wLIST_OFFSETS)] [(.ref wLIST_OFFSETS)])) rfl rfl (hb hby d2_21)
      have k16 : ∀ t, Steps p.tables e below (T15.setTop (mkF m 25 #[.val (.int p0), .val (.ref b4), .val (.int (17 : Int32)), .val (.int (2 : Int32)), .val (.ref wLIST_OFFSETS)] [(.int p0), (.int (2 : Int32))])) t → Steps p.tables e below (s₁.setTop (entryFrame m #[(.int p0)] 5)) t := fun t kt => k12 t (by
        show Steps p.tables e below (T11.setTop (mkF m 25 #[.val (.int p0), .val (.ref b4), .val (.int (17 : Int32)), .val (.int (1 : Int32)), .val (.ref wFETCH)] [(.int p0), (.int (1 : Int32))])) _
        refine XS.icmpYes X11.here hx rfl (pc0 := 25) (pc' := 31) rfl (hb hby d2_25) rfl (feq (hc13 : ¬ ((1 : Int32) = p0))).2 (by decide) (by decide) ?_
        show Steps p.tables e below (T11.setTop (mkF m 31 #[.val (.int p0), .val (.ref b4), .val (.int (17 : Int32)), .val (.int (1 : Int32)), .val (.ref wFETCH)] [])) _
        refine XS.iinc X11.here hx rfl (hb hby d2_31) rfl (l' := #[.val (.int p0), .val (.ref b4), .val (.int (17 : Int32)), .val (.int (2 : Int32)), .val (.ref wFETCH)]) rfl ?_
        show Steps p.tables e below (T11.setTop (mkF m 34 #[.val (.int p0), .val (.ref b4), .val (.int (17 : Int32)), .val (.int (2 : Int32)), .val (.ref wFETCH)] [])) _
        refine XS.goto X11.here hx rfl (pc0 := 34) (pc' := 9) rfl (hb hby d2_34) (by decide) (by decide) ?_
        show Steps p.tables e below (T11.setTop (mkF m 9 #[.val (.int p0), .val (.ref b4), .val (.int (17 : Int32)), .val (.int (2 : Int32)), .val (.ref wFETCH)] [])) _
        refine XS.iloadN X11.here hx rfl (hb hby d2_9) rfl ?_
        show Steps p.tables e below (T11.setTop (mkF m 10 #[.val (.int p0), .val (.ref b4), .val (.int (17 : Int32)), .val (.int (2 : Int32)), .val (.ref wFETCH)] [(.int (2 : Int32))])) _
        refine XS.iloadN X11.here hx rfl (hb hby d2_10) rfl ?_
        show Steps p.tables e below (T11.setTop (mkF m 11 #[.val (.int p0), .val (.ref b4), .val (.int (17 : Int32)), .val (.int (2 : Int32)), .val (.ref wFETCH)] [(.int (17 : Int32)), (.int (2 : Int32))])) _
        refine XS.icmpNo X11.here hx rfl (hb hby d2_11) rfl (tlt ((by decide) : (2 : Int32) < (17 : Int32))).2.1 ?_
        show Steps p.tables e below (T11.setTop (mkF m 14 #[.val (.int p0), .val (.ref b4), .val (.int (17 : Int32)), .val (.int (2 : Int32)), .val (.ref wFETCH)] [])) _
        refine XS.aloadN X11.here hx rfl (hb hby d2_14) rfl rfl ?_
        show Steps p.tables e below (T11.setTop (mkF m 15 #[.val (.int p0), .val (.ref b4), .val (.int (17 : Int32)), .val (.int (2 : Int32)), .val (.ref wFETCH)] [(.ref b4)])) _
        refine XS.iloadN X11.here hx rfl (hb hby d2_15) rfl ?_
        show Steps p.tables e below (T11.setTop (mkF m 16 #[.val (.int p0), .val (.ref b4), .val (.int (17 : Int32)), .val (.int (2 : Int32)), .val (.ref wFETCH)] [(.int (2 : Int32)), (.ref b4)])) _
        refine X11.aaload hx (j := (2 : Int32)) (v := (.ref wLIST_OFFSETS)) (by rw [e11]; exact Ara14.1) (State.isArrayOf_alike hZ.alike Ara14.2.1) rfl Ara14.2.2 hina14 (Ha14.at hina14 rfl) (g := (mkF m 16 #[.val (.int p0), .val (.ref b4), .val (.int (17 : Int32)), .val (.int (2 : Int32)), .val (.ref wFETCH)] [(.int (2 : Int32)), (.ref b4)])) rfl rfl (hb hby d2_16) _ ?_
        show Steps p.tables e below (T11.setTop (mkF m 17 #[.val (.int p0), .val (.ref b4), .val (.int (17 : Int32)), .val (.int (2 : Int32)), .val (.ref wFETCH)] [(.ref wLIST_OFFSETS)])) _
        refine XS.astore X11.here hx rfl (hb hby d2_17) rfl rfl (l' := #[.val (.int p0), .val (.ref b4), .val (.int (17 : Int32)), .val (.int (2 : Int32)), .val (.ref wLIST_OFFSETS)]) rfl ?_
        show Steps p.tables e below (T11.setTop (mkF m 19 #[.val (.int p0), .val (.ref b4), .val (.int (17 : Int32)), .val (.int (2 : Int32)), .val (.ref wLIST_OFFSETS)] [])) _
        refine XS.aload X11.here hx rfl (hb hby d2_19) rfl rfl ?_
        show Steps p.tables e below (T11.setTop (mkF m 21 #[.val (.int p0), .val (.ref b4), .val (.int (17 : Int32)), .val (.int (2 : Int32)), .val (.ref wLIST_OFFSETS)] [(.ref wLIST_OFFSETS)])) _
        refine st15 _ ?_
        show Steps p.tables e below (T15.setTop (mkF m 24 #[.val (.int p0), .val (.ref b4), .val (.int (17 : Int32)), .val (.int (2 : Int32)), .val (.ref wLIST_OFFSETS)] [(.int (2 : Int32))])) _
        refine XS.iloadN X15.here hx rfl (hb hby d2_24) rfl ?_
        exact kt)
      by_cases hc17 : (2 : Int32) = p0
      · obtain ⟨fs, hr, hrun, hended, hW, hsame⟩ := X15.leave (v := some (.ref wLIST_OFFSETS)) (fun h => by rw [Bd.returns] at h; cases h)
        refine ⟨_, _, k16 _ ?_, hrun, hended, _, _, rfl, ?_, ⟨_, rfl⟩, hW, hsame.mono (by decide) (by decide)⟩
        · show Steps p.tables e below (T15.setTop (mkF m 25 #[.val (.int p0), .val (.ref b4), .val (.int (17 : Int32)), .val (.int (2 : Int32)), .val (.ref wLIST_OFFSETS)] [(.int p0), (.int (2 : Int32))])) _
          refine XS.icmpNo X15.here hx rfl (hb hby d2_25) rfl (teq (hc17 : (2 : Int32) = p0)).2 ?_
          show Steps p.tables e below (T15.setTop (mkF m 28 #[.val (.int p0), .val (.ref b4), .val (.int (17 : Int32)), .val (.int (2 : Int32)), .val (.ref wLIST_OFFSETS)] [])) _
          refine XS.aload X15.here hx rfl (hb hby d2_28) rfl rfl ?_
          show Steps p.tables e below (T15.setTop (mkF m 30 #[.val (.int p0), .val (.ref b4), .val (.int (17 : Int32)), .val (.int (2 : Int32)), .val (.ref wLIST_OFFSETS)] [(.ref wLIST_OFFSETS)])) _
          exact own_retA X15 hx Bd.returns rfl rfl (hb hby d2_30) hr
        · show Q2 Z p0 w_VALUES wPRODUCE wFETCH wLIST_OFFSETS wMETADATA wOFFSET_COMMIT wOFFSET_FETCH wFIND_COORDINATOR wJOIN_GROUP wHEARTBEAT wLEAVE_GROUP wSYNC_GROUP wAPI_VERSIONS wINIT_PRODUCER_ID wADD_PARTITIONS_TO_TXN wADD_OFFSETS_TO_TXN wEND_TXN wTXN_OFFSET_COMMIT k_VALUES h0 n0 _ T15.heap _
          rw [e15]
          exact ⟨by rw [f2, if_neg hc9, if_neg hc13, if_pos hc17], N4, EX4⟩
      · obtain ⟨cla18, Ara18, qa18, Sa18, Na18, Ha18, Ga18⟩ := And.left ⟨V4, trivial⟩
        have hina18 : ¬ ((3 : Int32) < 0 ∨ cla18.slots.size ≤ ((3 : Int32)).toNatClampNeg) := inb_of Sa18 ⟨by decide, by decide⟩
        obtain ⟨T19, X19, e19, st19⟩ := getF X15 hx hZ hown (host := "") (Or.inl (hw _ (List.mem_of_getElem? (i := 36) rfl))) Via.refl e15 (FMETADATA_key.ext EX4) (g := (mkF m 21 #[.val (.int p0), .val (.ref b4), .val (.int (17 : Int32)), .val (.int (3 : Int32)), .val (.ref wMETADATA)] [(.ref wMETADATA)])) rfl rfl (hb hby d2_21)
        have k20 : ∀ t, Steps p.tables e below (T19.setTop (mkF m 25 #[.val (.int p0), .val (.ref b4), .val (.int (17 : Int32)), .val (.int (3 : Int32)), .val (.ref wMETADATA)] [(.int p0), (.int (3 : Int32))])) t → Steps p.tables e below (s₁.setTop (entryFrame m #[(.int p0)] 5)) t := fun t kt => k16 t (by
          show Steps p.tables e below (T15.setTop (mkF m 25 #[.val (.int p0), .val (.ref b4), .val (.int (17 : Int32)), .val (.int (2 : Int32)), .val (.ref wLIST_OFFSETS)] [(.int p0), (.int (2 : Int32))])) _
          refine XS.icmpYes X15.here hx rfl (pc0 := 25) (pc' := 31) rfl (hb hby d2_25) rfl (feq (hc17 : ¬ ((2 : Int32) = p0))).2 (by decide) (by decide) ?_
          show Steps p.tables e below (T15.setTop (mkF m 31 #[.val (.int p0), .val (.ref b4), .val (.int (17 : Int32)), .val (.int (2 : Int32)), .val (.ref wLIST_OFFSETS)] [])) _
          refine XS.iinc X15.here hx rfl (hb hby d2_31) rfl (l' := #[.val (.int p0), .val (.ref b4), .val (.int (17 : Int32)), .val (.int (3 : Int32)), .val (.ref wLIST_OFFSETS)]) rfl ?_
          show Steps p.tables e below (T15.setTop (mkF m 34 #[.val (.int p0), .val (.ref b4), .val (.int (17 : Int32)), .val (.int (3 : Int32)), .val (.ref wLIST_OFFSETS)] [])) _
          refine XS.goto X15.here hx rfl (pc0 := 34) (pc' := 9) rfl (hb hby d2_34) (by decide) (by decide) ?_
          show Steps p.tables e below (T15.setTop (mkF m 9 #[.val (.int p0), .val (.ref b4), .val (.int (17 : Int32)), .val (.int (3 : Int32)), .val (.ref wLIST_OFFSETS)] [])) _
          refine XS.iloadN X15.here hx rfl (hb hby d2_9) rfl ?_
          show Steps p.tables e below (T15.setTop (mkF m 10 #[.val (.int p0), .val (.ref b4), .val (.int (17 : Int32)), .val (.int (3 : Int32)), .val (.ref wLIST_OFFSETS)] [(.int (3 : Int32))])) _
          refine XS.iloadN X15.here hx rfl (hb hby d2_10) rfl ?_
          show Steps p.tables e below (T15.setTop (mkF m 11 #[.val (.int p0), .val (.ref b4), .val (.int (17 : Int32)), .val (.int (3 : Int32)), .val (.ref wLIST_OFFSETS)] [(.int (17 : Int32)), (.int (3 : Int32))])) _
          refine XS.icmpNo X15.here hx rfl (hb hby d2_11) rfl (tlt ((by decide) : (3 : Int32) < (17 : Int32))).2.1 ?_
          show Steps p.tables e below (T15.setTop (mkF m 14 #[.val (.int p0), .val (.ref b4), .val (.int (17 : Int32)), .val (.int (3 : Int32)), .val (.ref wLIST_OFFSETS)] [])) _
          refine XS.aloadN X15.here hx rfl (hb hby d2_14) rfl rfl ?_
          show Steps p.tables e below (T15.setTop (mkF m 15 #[.val (.int p0), .val (.ref b4), .val (.int (17 : Int32)), .val (.int (3 : Int32)), .val (.ref wLIST_OFFSETS)] [(.ref b4)])) _
          refine XS.iloadN X15.here hx rfl (hb hby d2_15) rfl ?_
          show Steps p.tables e below (T15.setTop (mkF m 16 #[.val (.int p0), .val (.ref b4), .val (.int (17 : Int32)), .val (.int (3 : Int32)), .val (.ref wLIST_OFFSETS)] [(.int (3 : Int32)), (.ref b4)])) _
          refine X15.aaload hx (j := (3 : Int32)) (v := (.ref wMETADATA)) (by rw [e15]; exact Ara18.1) (State.isArrayOf_alike hZ.alike Ara18.2.1) rfl Ara18.2.2 hina18 (Ha18.at hina18 rfl) (g := (mkF m 16 #[.val (.int p0), .val (.ref b4), .val (.int (17 : Int32)), .val (.int (3 : Int32)), .val (.ref wLIST_OFFSETS)] [(.int (3 : Int32)), (.ref b4)])) rfl rfl (hb hby d2_16) _ ?_
          show Steps p.tables e below (T15.setTop (mkF m 17 #[.val (.int p0), .val (.ref b4), .val (.int (17 : Int32)), .val (.int (3 : Int32)), .val (.ref wLIST_OFFSETS)] [(.ref wMETADATA)])) _
          refine XS.astore X15.here hx rfl (hb hby d2_17) rfl rfl (l' := #[.val (.int p0), .val (.ref b4), .val (.int (17 : Int32)), .val (.int (3 : Int32)), .val (.ref wMETADATA)]) rfl ?_
          show Steps p.tables e below (T15.setTop (mkF m 19 #[.val (.int p0), .val (.ref b4), .val (.int (17 : Int32)), .val (.int (3 : Int32)), .val (.ref wMETADATA)] [])) _
          refine XS.aload X15.here hx rfl (hb hby d2_19) rfl rfl ?_
          show Steps p.tables e below (T15.setTop (mkF m 21 #[.val (.int p0), .val (.ref b4), .val (.int (17 : Int32)), .val (.int (3 : Int32)), .val (.ref wMETADATA)] [(.ref wMETADATA)])) _
          refine st19 _ ?_
          show Steps p.tables e below (T19.setTop (mkF m 24 #[.val (.int p0), .val (.ref b4), .val (.int (17 : Int32)), .val (.int (3 : Int32)), .val (.ref wMETADATA)] [(.int (3 : Int32))])) _
          refine XS.iloadN X19.here hx rfl (hb hby d2_24) rfl ?_
          exact kt)
        by_cases hc21 : (3 : Int32) = p0
        · obtain ⟨fs, hr, hrun, hended, hW, hsame⟩ := X19.leave (v := some (.ref wMETADATA)) (fun h => by rw [Bd.returns] at h; cases h)
          refine ⟨_, _, k20 _ ?_, hrun, hended, _, _, rfl, ?_, ⟨_, rfl⟩, hW, hsame.mono (by decide) (by decide)⟩
          · show Steps p.tables e below (T19.setTop (mkF m 25 #[.val (.int p0), .val (.ref b4), .val (.int (17 : Int32)), .val (.int (3 : Int32)), .val (.ref wMETADATA)] [(.int p0), (.int (3 : Int32))])) _
            refine XS.icmpNo X19.here hx rfl (hb hby d2_25) rfl (teq (hc21 : (3 : Int32) = p0)).2 ?_
            show Steps p.tables e below (T19.setTop (mkF m 28 #[.val (.int p0), .val (.ref b4), .val (.int (17 : Int32)), .val (.int (3 : Int32)), .val (.ref wMETADATA)] [])) _
            refine XS.aload X19.here hx rfl (hb hby d2_28) rfl rfl ?_
            show Steps p.tables e below (T19.setTop (mkF m 30 #[.val (.int p0), .val (.ref b4), .val (.int (17 : Int32)), .val (.int (3 : Int32)), .val (.ref wMETADATA)] [(.ref wMETADATA)])) _
            exact own_retA X19 hx Bd.returns rfl rfl (hb hby d2_30) hr
          · show Q2 Z p0 w_VALUES wPRODUCE wFETCH wLIST_OFFSETS wMETADATA wOFFSET_COMMIT wOFFSET_FETCH wFIND_COORDINATOR wJOIN_GROUP wHEARTBEAT wLEAVE_GROUP wSYNC_GROUP wAPI_VERSIONS wINIT_PRODUCER_ID wADD_PARTITIONS_TO_TXN wADD_OFFSETS_TO_TXN wEND_TXN wTXN_OFFSET_COMMIT k_VALUES h0 n0 _ T19.heap _
            rw [e19]
            exact ⟨by rw [f2, if_neg hc9, if_neg hc13, if_neg hc17, if_pos hc21], N4, EX4⟩
        · obtain ⟨cla22, Ara22, qa22, Sa22, Na22, Ha22, Ga22⟩ := And.left ⟨V4, trivial⟩
          have hina22 : ¬ ((4 : Int32) < 0 ∨ cla22.slots.size ≤ ((4 : Int32)).toNatClampNeg) := inb_of Sa22 ⟨by decide, by decide⟩
          obtain ⟨T23, X23, e23, st23⟩ := getF X19 hx hZ hown (host := "") (Or.inl (hw _ (List.mem_of_getElem? (i := 36) rfl))) Via.refl e19 (FOFFSET_COMMIT_key.ext EX4) (g := (mkF m 21 #[.val (.int p0), .val (.ref b4), .val (.int (17 : Int32)), .val (.int (4 : Int32)), .val (.ref wOFFSET_COMMIT)] [(.ref wOFFSET_COMMIT)])) rfl rfl (hb hby d2_21)
          have k24 : ∀ t, Steps p.tables e below (T23.setTop (mkF m 25 #[.val (.int p0), .val (.ref b4), .val (.int (17 : Int32)), .val (.int (4 : Int32)), .val (.ref wOFFSET_COMMIT)] [(.int p0), (.int (8 : Int32))])) t → Steps p.tables e below (s₁.setTop (entryFrame m #[(.int p0)] 5)) t := fun t kt => k20 t (by
            show Steps p.tables e below (T19.setTop (mkF m 25 #[.val (.int p0), .val (.ref b4), .val (.int (17 : Int32)), .val (.int (3 : Int32)), .val (.ref wMETADATA)] [(.int p0), (.int (3 : Int32))])) _
            refine XS.icmpYes X19.here hx rfl (pc0 := 25) (pc' := 31) rfl (hb hby d2_25) rfl (feq (hc21 : ¬ ((3 : Int32) = p0))).2 (by decide) (by decide) ?_
            show Steps p.tables e below (T19.setTop (mkF m 31 #[.val (.int p0), .val (.ref b4), .val (.int (17 : Int32)), .val (.int (3 : Int32)), .val (.ref wMETADATA)] [])) _
            refine XS.iinc X19.here hx rfl (hb hby d2_31) rfl (l' := #[.val (.int p0), .val (.ref b4), .val (.int (17 : Int32)), .val (.int (4 : Int32)), .val (.ref wMETADATA)]) rfl ?_
            show Steps p.tables e below (T19.setTop (mkF m 34 #[.val (.int p0), .val (.ref b4), .val (.int (17 : Int32)), .val (.int (4 : Int32)), .val (.ref wMETADATA)] [])) _
            refine XS.goto X19.here hx rfl (pc0 := 34) (pc' := 9) rfl (hb hby d2_34) (by decide) (by decide) ?_
            show Steps p.tables e below (T19.setTop (mkF m 9 #[.val (.int p0), .val (.ref b4), .val (.int (17 : Int32)), .val (.int (4 : Int32)), .val (.ref wMETADATA)] [])) _
            refine XS.iloadN X19.here hx rfl (hb hby d2_9) rfl ?_
            show Steps p.tables e below (T19.setTop (mkF m 10 #[.val (.int p0), .val (.ref b4), .val (.int (17 : Int32)), .val (.int (4 : Int32)), .val (.ref wMETADATA)] [(.int (4 : Int32))])) _
            refine XS.iloadN X19.here hx rfl (hb hby d2_10) rfl ?_
            show Steps p.tables e below (T19.setTop (mkF m 11 #[.val (.int p0), .val (.ref b4), .val (.int (17 : Int32)), .val (.int (4 : Int32)), .val (.ref wMETADATA)] [(.int (17 : Int32)), (.int (4 : Int32))])) _
            refine XS.icmpNo X19.here hx rfl (hb hby d2_11) rfl (tlt ((by decide) : (4 : Int32) < (17 : Int32))).2.1 ?_
            show Steps p.tables e below (T19.setTop (mkF m 14 #[.val (.int p0), .val (.ref b4), .val (.int (17 : Int32)), .val (.int (4 : Int32)), .val (.ref wMETADATA)] [])) _
            refine XS.aloadN X19.here hx rfl (hb hby d2_14) rfl rfl ?_
            show Steps p.tables e below (T19.setTop (mkF m 15 #[.val (.int p0), .val (.ref b4), .val (.int (17 : Int32)), .val (.int (4 : Int32)), .val (.ref wMETADATA)] [(.ref b4)])) _
            refine XS.iloadN X19.here hx rfl (hb hby d2_15) rfl ?_
            show Steps p.tables e below (T19.setTop (mkF m 16 #[.val (.int p0), .val (.ref b4), .val (.int (17 : Int32)), .val (.int (4 : Int32)), .val (.ref wMETADATA)] [(.int (4 : Int32)), (.ref b4)])) _
            refine X19.aaload hx (j := (4 : Int32)) (v := (.ref wOFFSET_COMMIT)) (by rw [e19]; exact Ara22.1) (State.isArrayOf_alike hZ.alike Ara22.2.1) rfl Ara22.2.2 hina22 (Ha22.at hina22 rfl) (g := (mkF m 16 #[.val (.int p0), .val (.ref b4), .val (.int (17 : Int32)), .val (.int (4 : Int32)), .val (.ref wMETADATA)] [(.int (4 : Int32)), (.ref b4)])) rfl rfl (hb hby d2_16) _ ?_
            show Steps p.tables e below (T19.setTop (mkF m 17 #[.val (.int p0), .val (.ref b4), .val (.int (17 : Int32)), .val (.int (4 : Int32)), .val (.ref wMETADATA)] [(.ref wOFFSET_COMMIT)])) _
            refine XS.astore X19.here hx rfl (hb hby d2_17) rfl rfl (l' := #[.val (.int p0), .val (.ref b4), .val (.int (17 : Int32)), .val (.int (4 : Int32)), .val (.ref wOFFSET_COMMIT)]) rfl ?_
            show Steps p.tables e below (T19.setTop (mkF m 19 #[.val (.int p0), .val (.ref b4), .val (.int (17 : Int32)), .val (.int (4 : Int32)), .val (.ref wOFFSET_COMMIT)] [])) _
            refine XS.aload X19.here hx rfl (hb hby d2_19) rfl rfl ?_
            show Steps p.tables e below (T19.setTop (mkF m 21 #[.val (.int p0), .val (.ref b4), .val (.int (17 : Int32)), .val (.int (4 : Int32)), .val (.ref wOFFSET_COMMIT)] [(.ref wOFFSET_COMMIT)])) _
            refine st23 _ ?_
            show Steps p.tables e below (T23.setTop (mkF m 24 #[.val (.int p0), .val (.ref b4), .val (.int (17 : Int32)), .val (.int (4 : Int32)), .val (.ref wOFFSET_COMMIT)] [(.int (8 : Int32))])) _
            refine XS.iloadN X23.here hx rfl (hb hby d2_24) rfl ?_
            exact kt)
          by_cases hc25 : (8 : Int32) = p0
          · obtain ⟨fs, hr, hrun, hended, hW, hsame⟩ := X23.leave (v := some (.ref wOFFSET_COMMIT)) (fun h => by rw [Bd.returns] at h; cases h)
            refine ⟨_, _, k24 _ ?_, hrun, hended, _, _, rfl, ?_, ⟨_, rfl⟩, hW, hsame.mono (by decide) (by decide)⟩
            · show Steps p.tables e below (T23.setTop (mkF m 25 #[.val (.int p0), .val (.ref b4), .val (.int (17 : Int32)), .val (.int (4 : Int32)), .val (.ref wOFFSET_COMMIT)] [(.int p0), (.int (8 : Int32))])) _
              refine XS.icmpNo X23.here hx rfl (hb hby d2_25) rfl (teq (hc25 : (8 : Int32) = p0)).2 ?_
              show Steps p.tables e below (T23.setTop (mkF m 28 #[.val (.int p0), .val (.ref b4), .val (.int (17 : Int32)), .val (.int (4 : Int32)), .val (.ref wOFFSET_COMMIT)] [])) _
              refine XS.aload X23.here hx rfl (hb hby d2_28) rfl rfl ?_
              show Steps p.tables e below (T23.setTop (mkF m 30 #[.val (.int p0), .val (.ref b4), .val (.int (17 : Int32)), .val (.int (4 : Int32)), .val (.ref wOFFSET_COMMIT)] [(.ref wOFFSET_COMMIT)])) _
              exact own_retA X23 hx Bd.returns rfl rfl (hb hby d2_30) hr
            · show Q2 Z p0 w_VALUES wPRODUCE wFETCH wLIST_OFFSETS wMETADATA wOFFSET_COMMIT wOFFSET_FETCH wFIND_COORDINATOR wJOIN_GROUP wHEARTBEAT wLEAVE_GROUP wSYNC_GROUP wAPI_VERSIONS wINIT_PRODUCER_ID wADD_PARTITIONS_TO_TXN wADD_OFFSETS_TO_TXN wEND_TXN wTXN_OFFSET_COMMIT k_VALUES h0 n0 _ T23.heap _
              rw [e23]
              exact ⟨by rw [f2, if_neg hc9, if_neg hc13, if_neg hc17, if_neg hc21, if_pos hc25], N4, EX4⟩
          · obtain ⟨cla26, Ara26, qa26, Sa26, Na26, Ha26, Ga26⟩ := And.left ⟨V4, trivial⟩
            have hina26 : ¬ ((5 : Int32) < 0 ∨ cla26.slots.size ≤ ((5 : Int32)).toNatClampNeg) := inb_of Sa26 ⟨by decide, by decide⟩
            obtain ⟨T27, X27, e27, st27⟩ := getF X23 hx hZ hown (host := "") (Or.inl (hw _ (List.mem_of_getElem? (i := 36) rfl))) Via.refl e23 (FOFFSET_FETCH_key.ext EX4) (g := (mkF m 21 #[.val (.int p0), .val (.ref b4), .val (.int (17 : Int32)), .val (.int (5 : Int32)), .val (.ref wOFFSET_FETCH)] [(.ref wOFFSET_FETCH)])) rfl rfl (hb hby d2_21)
            have k28 : ∀ t, Steps p.tables e below (T27.setTop (mkF m 25 #[.val (.int p0), .val (.ref b4), .val (.int (17 : Int32)), .val (.int (5 : Int32)), .val (.ref wOFFSET_FETCH)] [(.int p0), (.int (9 : Int32))])) t → Steps p.tables e below (s₁.setTop (entryFrame m #[(.int p0)] 5)) t := fun t kt => k24 t (by
              show Steps p.tables e below (T23.setTop (mkF m 25 #[.val (.int p0), .val (.ref b4), .val (.int (17 : Int32)), .val (.int (4 : Int32)), .val (.ref wOFFSET_COMMIT)] [(.int p0), (.int (8 : Int32))])) _
              refine XS.icmpYes X23.here hx rfl (pc0 := 25) (pc' := 31) rfl (hb hby d2_25) rfl (feq (hc25 : ¬ ((8 : Int32) = p0))).2 (by decide) (by decide) ?_
              show Steps p.tables e below (T23.setTop (mkF m 31 #[.val (.int p0), .val (.ref b4), .val (.int (17 : Int32)), .val (.int (4 : Int32)), .val (.ref wOFFSET_COMMIT)] [])) _
              refine XS.iinc X23.here hx rfl (hb hby d2_31) rfl (l' := #[.val (.int p0), .val (.ref b4), .val (.int (17 : Int32)), .val (.int (5 : Int32)), .val (.ref wOFFSET_COMMIT)]) rfl ?_
              show Steps p.tables e below (T23.setTop (mkF m 34 #[.val (.int p0), .val (.ref b4), .val (.int (17 : Int32)), .val (.int (5 : Int32)), .val (.ref wOFFSET_COMMIT)] [])) _
              refine XS.goto X23.here hx rfl (pc0 := 34) (pc' := 9) rfl (hb hby d2_34) (by decide) (by decide) ?_
              show Steps p.tables e below (T23.setTop (mkF m 9 #[.val (.int p0), .val (.ref b4), .val (.int (17 : Int32)), .val (.int (5 : Int32)), .val (.ref wOFFSET_COMMIT)] [])) _
              refine XS.iloadN X23.here hx rfl (hb hby d2_9) rfl ?_
              show Steps p.tables e below (T23.setTop (mkF m 10 #[.val (.int p0), .val (.ref b4), .val (.int (17 : Int32)), .val (.int (5 : Int32)), .val (.ref wOFFSET_COMMIT)] [(.int (5 : Int32))])) _
              refine XS.iloadN X23.here hx rfl (hb hby d2_10) rfl ?_
              show Steps p.tables e below (T23.setTop (mkF m 11 #[.val (.int p0), .val (.ref b4), .val (.int (17 : Int32)), .val (.int (5 : Int32)), .val (.ref wOFFSET_COMMIT)] [(.int (17 : Int32)), (.int (5 : Int32))])) _
              refine XS.icmpNo X23.here hx rfl (hb hby d2_11) rfl (tlt ((by decide) : (5 : Int32) < (17 : Int32))).2.1 ?_
              show Steps p.tables e below (T23.setTop (mkF m 14 #[.val (.int p0), .val (.ref b4), .val (.int (17 : Int32)), .val (.int (5 : Int32)), .val (.ref wOFFSET_COMMIT)] [])) _
              refine XS.aloadN X23.here hx rfl (hb hby d2_14) rfl rfl ?_
              show Steps p.tables e below (T23.setTop (mkF m 15 #[.val (.int p0), .val (.ref b4), .val (.int (17 : Int32)), .val (.int (5 : Int32)), .val (.ref wOFFSET_COMMIT)] [(.ref b4)])) _
              refine XS.iloadN X23.here hx rfl (hb hby d2_15) rfl ?_
              show Steps p.tables e below (T23.setTop (mkF m 16 #[.val (.int p0), .val (.ref b4), .val (.int (17 : Int32)), .val (.int (5 : Int32)), .val (.ref wOFFSET_COMMIT)] [(.int (5 : Int32)), (.ref b4)])) _
              refine X23.aaload hx (j := (5 : Int32)) (v := (.ref wOFFSET_FETCH)) (by rw [e23]; exact Ara26.1) (State.isArrayOf_alike hZ.alike Ara26.2.1) rfl Ara26.2.2 hina26 (Ha26.at hina26 rfl) (g := (mkF m 16 #[.val (.int p0), .val (.ref b4), .val (.int (17 : Int32)), .val (.int (5 : Int32)), .val (.ref wOFFSET_COMMIT)] [(.int (5 : Int32)), (.ref b4)])) rfl rfl (hb hby d2_16) _ ?_
              show Steps p.tables e below (T23.setTop (mkF m 17 #[.val (.int p0), .val (.ref b4), .val (.int (17 : Int32)), .val (.int (5 : Int32)), .val (.ref wOFFSET_COMMIT)] [(.ref wOFFSET_FETCH)])) _
              refine XS.astore X23.here hx rfl (hb hby d2_17) rfl rfl (l' := #[.val (.int p0), .val (.ref b4), .val (.int (17 : Int32)), .val (.int (5 : Int32)), .val (.ref wOFFSET_FETCH)]) rfl ?_
              show Steps p.tables e below (T23.setTop (mkF m 19 #[.val (.int p0), .val (.ref b4), .val (.int (17 : Int32)), .val (.int (5 : Int32)), .val (.ref wOFFSET_FETCH)] [])) _
              refine XS.aload X23.here hx rfl (hb hby d2_19) rfl rfl ?_
              show Steps p.tables e below (T23.setTop (mkF m 21 #[.val (.int p0), .val (.ref b4), .val (.int (17 : Int32)), .val (.int (5 : Int32)), .val (.ref wOFFSET_FETCH)] [(.ref wOFFSET_FETCH)])) _
              refine st27 _ ?_
              show Steps p.tables e below (T27.setTop (mkF m 24 #[.val (.int p0), .val (.ref b4), .val (.int (17 : Int32)), .val (.int (5 : Int32)), .val (.ref wOFFSET_FETCH)] [(.int (9 : Int32))])) _
              refine XS.iloadN X27.here hx rfl (hb hby d2_24) rfl ?_
              exact kt)
            by_cases hc29 : (9 : Int32) = p0
            · obtain ⟨fs, hr, hrun, hended, hW, hsame⟩ := X27.leave (v := some (.ref wOFFSET_FETCH)) (fun h => by rw [Bd.returns] at h; cases h)
              refine ⟨_, _, k28 _ ?_, hrun, hended, _, _, rfl, ?_, ⟨_, rfl⟩, hW, hsame.mono (by decide) (by decide)⟩
              · show Steps p.tables e below (T27.setTop (mkF m 25 #[.val (.int p0), .val (.ref b4), .val (.int (17 : Int32)), .val (.int (5 : Int32)), .val (.ref wOFFSET_FETCH)] [(.int p0), (.int (9 : Int32))])) _
                refine XS.icmpNo X27.here hx rfl (hb hby d2_25) rfl (teq (hc29 : (9 : Int32) = p0)).2 ?_
                show Steps p.tables e below (T27.setTop (mkF m 28 #[.val (.int p0), .val (.ref b4), .val (.int (17 : Int32)), .val (.int (5 : Int32)), .val (.ref wOFFSET_FETCH)] [])) _
                refine XS.aload X27.here hx rfl (hb hby d2_28) rfl rfl ?_
                show Steps p.tables e below (T27.setTop (mkF m 30 #[.val (.int p0), .val (.ref b4), .val (.int (17 : Int32)), .val (.int (5 : Int32)), .val (.ref wOFFSET_FETCH)] [(.ref wOFFSET_FETCH)])) _
                exact own_retA X27 hx Bd.returns rfl rfl (hb hby d2_30) hr
              · show Q2 Z p0 w_VALUES wPRODUCE wFETCH wLIST_OFFSETS wMETADATA wOFFSET_COMMIT wOFFSET_FETCH wFIND_COORDINATOR wJOIN_GROUP wHEARTBEAT wLEAVE_GROUP wSYNC_GROUP wAPI_VERSIONS wINIT_PRODUCER_ID wADD_PARTITIONS_TO_TXN wADD_OFFSETS_TO_TXN wEND_TXN wTXN_OFFSET_COMMIT k_VALUES h0 n0 _ T27.heap _
                rw [e27]
                exact ⟨by rw [f2, if_neg hc9, if_neg hc13, if_neg hc17, if_neg hc21, if_neg hc25, if_pos hc29], N4, EX4⟩
            · obtain ⟨cla30, Ara30, qa30, Sa30, Na30, Ha30, Ga30⟩ := And.left ⟨V4, trivial⟩
              have hina30 : ¬ ((6 : Int32) < 0 ∨ cla30.slots.size ≤ ((6 : Int32)).toNatClampNeg) := inb_of Sa30 ⟨by decide, by decide⟩
              obtain ⟨T31, X31, e31, st31⟩ := getF X27 hx hZ hown (host := "") (Or.inl (hw _ (List.mem_of_getElem? (i := 36) rfl))) Via.refl e27 (FFIND_COORDINATOR_key.ext EX4) (g := (mkF m 21 #[.val (.int p0), .val (.ref b4), .val (.int (17 : Int32)), .val (.int (6 : Int32)), .val (.ref wFIND_COORDINATOR)] [(.ref wFIND_COORDINATOR)])) rfl rfl (hb hby d2_21)
              have k32 : ∀ t, Steps p.tables e below (T31.setTop (mkF m 25 #[.val (.int p0), .val (.ref b4), .val (.int (17 : Int32)), .val (.int (6 : Int32)), .val (.ref wFIND_COORDINATOR)] [(.int p0), (.int (10 : Int32))])) t → Steps p.tables e below (s₁.setTop (entryFrame m #[(.int p0)] 5)) t := fun t kt => k28 t (by
                show Steps p.tables e below (T27.setTop (mkF m 25 #[.val (.int p0), .val (.ref b4), .val (.int (17 : Int32)), .val (.int (5 : Int32)), .val (.ref wOFFSET_FETCH)] [(.int p0), (.int (9 : Int32))])) _
                refine XS.icmpYes X27.here hx rfl (pc0 := 25) (pc' := 31) rfl (hb hby d2_25) rfl (feq (hc29 : ¬ ((9 : Int32) = p0))).2 (by decide) (by decide) ?_
                show Steps p.tables e below (T27.setTop (mkF m 31 #[.val (.int p0), .val (.ref b4), .val (.int (17 : Int32)), .val (.int (5 : Int32)), .val (.ref wOFFSET_FETCH)] [])) _
                refine XS.iinc X27.here hx rfl (hb hby d2_31) rfl (l' := #[.val (.int p0), .val (.ref b4), .val (.int (17 : Int32)), .val (.int (6 : Int32)), .val (.ref wOFFSET_FETCH)]) rfl ?_
                show Steps p.tables e below (T27.setTop (mkF m 34 #[.val (.int p0), .val (.ref b4), .val (.int (17 : Int32)), .val (.int (6 : Int32)), .val (.ref wOFFSET_FETCH)] [])) _
                refine XS.goto X27.here hx rfl (pc0 := 34) (pc' := 9) rfl (hb hby d2_34) (by decide) (by decide) ?_
                show Steps p.tables e below (T27.setTop (mkF m 9 #[.val (.int p0), .val (.ref b4), .val (.int (17 : Int32)), .val (.int (6 : Int32)), .val (.ref wOFFSET_FETCH)] [])) _
                refine XS.iloadN X27.here hx rfl (hb hby d2_9) rfl ?_
                show Steps p.tables e below (T27.setTop (mkF m 10 #[.val (.int p0), .val (.ref b4), .val (.int (17 : Int32)), .val (.int (6 : Int32)), .val (.ref wOFFSET_FETCH)] [(.int (6 : Int32))])) _
                refine XS.iloadN X27.here hx rfl (hb hby d2_10) rfl ?_
                show Steps p.tables e below (T27.setTop (mkF m 11 #[.val (.int p0), .val (.ref b4), .val (.int (17 : Int32)), .val (.int (6 : Int32)), .val (.ref wOFFSET_FETCH)] [(.int (17 : Int32)), (.int (6 : Int32))])) _
                refine XS.icmpNo X27.here hx rfl (hb hby d2_11) rfl (tlt ((by decide) : (6 : Int32) < (17 : Int32))).2.1 ?_
                show Steps p.tables e below (T27.setTop (mkF m 14 #[.val (.int p0), .val (.ref b4), .val (.int (17 : Int32)), .val (.int (6 : Int32)), .val (.ref wOFFSET_FETCH)] [])) _
                refine XS.aloadN X27.here hx rfl (hb hby d2_14) rfl rfl ?_
                show Steps p.tables e below (T27.setTop (mkF m 15 #[.val (.int p0), .val (.ref b4), .val (.int (17 : Int32)), .val (.int (6 : Int32)), .val (.ref wOFFSET_FETCH)] [(.ref b4)])) _
                refine XS.iloadN X27.here hx rfl (hb hby d2_15) rfl ?_
                show Steps p.tables e below (T27.setTop (mkF m 16 #[.val (.int p0), .val (.ref b4), .val (.int (17 : Int32)), .val (.int (6 : Int32)), .val (.ref wOFFSET_FETCH)] [(.int (6 : Int32)), (.ref b4)])) _
                refine X27.aaload hx (j := (6 : Int32)) (v := (.ref wFIND_COORDINATOR)) (by rw [e27]; exact Ara30.1) (State.isArrayOf_alike hZ.alike Ara30.2.1) rfl Ara30.2.2 hina30 (Ha30.at hina30 rfl) (g := (mkF m 16 #[.val (.int p0), .val (.ref b4), .val (.int (17 : Int32)), .val (.int (6 : Int32)), .val (.ref wOFFSET_FETCH)] [(.int (6 : Int32)), (.ref b4)])) rfl rfl (hb hby d2_16) _ ?_
                show Steps p.tables e below (T27.setTop (mkF m 17 #[.val (.int p0), .val (.ref b4), .val (.int (17 : Int32)), .val (.int (6 : Int32)), .val (.ref wOFFSET_FETCH)] [(.ref wFIND_COORDINATOR)])) _
                refine XS.astore X27.here hx rfl (hb hby d2_17) rfl rfl (l' := #[.val (.int p0), .val (.ref b4), .val (.int (17 : Int32)), .val (.int (6 : Int32)), .val (.ref wFIND_COORDINATOR)]) rfl ?_
                show Steps p.tables e below (T27.setTop (mkF m 19 #[.val (.int p0), .val (.ref b4), .val (.int (17 : Int32)), .val (.int (6 : Int32)), .val (.ref wFIND_COORDINATOR)] [])) _
                refine XS.aload X27.here hx rfl (hb hby d2_19) rfl rfl ?_
                show Steps p.tables e below (T27.setTop (mkF m 21 #[.val (.int p0), .val (.ref b4), .val (.int (17 : Int32)), .val (.int (6 : Int32)), .val (.ref wFIND_COORDINATOR)] [(.ref wFIND_COORDINATOR)])) _
                refine st31 _ ?_
                show Steps p.tables e below (T31.setTop (mkF m 24 #[.val (.int p0), .val (.ref b4), .val (.int (17 : Int32)), .val (.int (6 : Int32)), .val (.ref wFIND_COORDINATOR)] [(.int (10 : Int32))])) _
                refine XS.iloadN X31.here hx rfl (hb hby d2_24) rfl ?_
                exact kt)
              by_cases hc33 : (10 : Int32) = p0
              · obtain ⟨fs, hr, hrun, hended, hW, hsame⟩ := X31.leave (v := some (.ref wFIND_COORDINATOR)) (fun h => by rw [Bd.returns] at h; cases h)
                refine ⟨_, _, k32 _ ?_, hrun, hended, _, _, rfl, ?_, ⟨_, rfl⟩, hW, hsame.mono (by decide) (by decide)⟩
                · show Steps p.tables e below (T31.setTop (mkF m 25 #[.val (.int p0), .val (.ref b4), .val (.int (17 : Int32)), .val (.int (6 : Int32)), .val (.ref wFIND_COORDINATOR)] [(.int p0), (.int (10 : Int32))])) _
                  refine XS.icmpNo X31.here hx rfl (hb hby d2_25) rfl (teq (hc33 : (10 : Int32) = p0)).2 ?_
                  show Steps p.tables e below (T31.setTop (mkF m 28 #[.val (.int p0), .val (.ref b4), .val (.int (17 : Int32)), .val (.int (6 : Int32)), .val (.ref wFIND_COORDINATOR)] [])) _
                  refine XS.aload X31.here hx rfl (hb hby d2_28) rfl rfl ?_
                  show Steps p.tables e below (T31.setTop (mkF m 30 #[.val (.int p0), .val (.ref b4), .val (.int (17 : Int32)), .val (.int (6 : Int32)), .val (.ref wFIND_COORDINATOR)] [(.ref wFIND_COORDINATOR)])) _
                  exact own_retA X31 hx Bd.returns rfl rfl (hb hby d2_30) hr
                · show Q2 Z p0 w_VALUES wPRODUCE wFETCH wLIST_OFFSETS wMETADATA wOFFSET_COMMIT wOFFSET_FETCH wFIND_COORDINATOR wJOIN_GROUP wHEARTBEAT wLEAVE_GROUP wSYNC_GROUP wAPI_VERSIONS wINIT_PRODUCER_ID wADD_PARTITIONS_TO_TXN wADD_OFFSETS_TO_TXN wEND_TXN wTXN_OFFSET_COMMIT k_VALUES h0 n0 _ T31.heap _
                  rw [e31]
                  exact ⟨by rw [f2, if_neg hc9, if_neg hc13, if_neg hc17, if_neg hc21, if_neg hc25, if_neg hc29, if_pos hc33], N4, EX4⟩
              · obtain ⟨cla34, Ara34, qa34, Sa34, Na34, Ha34, Ga34⟩ := And.left ⟨V4, trivial⟩
                have hina34 : ¬ ((7 : Int32) < 0 ∨ cla34.slots.size ≤ ((7 : Int32)).toNatClampNeg) := inb_of Sa34 ⟨by decide, by decide⟩
                obtain ⟨T35, X35, e35, st35⟩ := getF X31 hx hZ hown (host := "") (Or.inl (hw _ (List.mem_of_getElem? (i := 36) rfl))) Via.refl e31 (FJOIN_GROUP_key.ext EX4) (g := (mkF m 21 #[.val (.int p0), .val (.ref b4), .val (.int (17 : Int32)), .val (.int (7 : Int32)), .val (.ref wJOIN_GROUP)] [(.ref wJOIN_GROUP)])) rfl rfl (hb hby d2_21)
                have k36 : ∀ t, Steps p.tables e below (T35.setTop (mkF m 25 #[.val (.int p0), .val (.ref b4), .val (.int (17 : Int32)), .val (.int (7 : Int32)), .val (.ref wJOIN_GROUP)] [(.int p0), (.int (11 : Int32))])) t → Steps p.tables e below (s₁.setTop (entryFrame m #[(.int p0)] 5)) t := fun t kt => k32 t (by
                  show Steps p.tables e below (T31.setTop (mkF m 25 #[.val (.int p0), .val (.ref b4), .val (.int (17 : Int32)), .val (.int (6 : Int32)), .val (.ref wFIND_COORDINATOR)] [(.int p0), (.int (10 : Int32))])) _
                  refine XS.icmpYes X31.here hx rfl (pc0 := 25) (pc' := 31) rfl (hb hby d2_25) rfl (feq (hc33 : ¬ ((10 : Int32) = p0))).2 (by decide) (by decide) ?_
                  show Steps p.tables e below (T31.setTop (mkF m 31 #[.val (.int p0), .val (.ref b4), .val (.int (17 : Int32)), .val (.int (6 : Int32)), .val (.ref wFIND_COORDINATOR)] [])) _
                  refine XS.iinc X31.here hx rfl (hb hby d2_31) rfl (l' := #[.val (.int p0), .val (.ref b4), .val (.int (17 : Int32)), .val (.int (7 : Int32)), .val (.ref wFIND_COORDINATOR)]) rfl ?_
                  show Steps p.tables e below (T31.setTop (mkF m 34 #[.val (.int p0), .val (.ref b4), .val (.int (17 : Int32)), .val (.int (7 : Int32)), .val (.ref wFIND_COORDINATOR)] [])) _
                  refine XS.goto X31.here hx rfl (pc0 := 34) (pc' := 9) rfl (hb hby d2_34) (by decide) (by decide) ?_
                  show Steps p.tables e below (T31.setTop (mkF m 9 #[.val (.int p0), .val (.ref b4), .val (.int (17 : Int32)), .val (.int (7 : Int32)), .val (.ref wFIND_COORDINATOR)] [])) _
                  refine XS.iloadN X31.here hx rfl (hb hby d2_9) rfl ?_
                  show Steps p.tables e below (T31.setTop (mkF m 10 #[.val (.int p0), .val (.ref b4), .val (.int (17 : Int32)), .val (.int (7 : Int32)), .val (.ref wFIND_COORDINATOR)] [(.int (7 : Int32))])) _
                  refine XS.iloadN X31.here hx rfl (hb hby d2_10) rfl ?_
                  show Steps p.tables e below (T31.setTop (mkF m 11 #[.val (.int p0), .val (.ref b4), .val (.int (17 : Int32)), .val (.int (7 : Int32)), .val (.ref wFIND_COORDINATOR)] [(.int (17 : Int32)), (.int (7 : Int32))])) _
                  refine XS.icmpNo X31.here hx rfl (hb hby d2_11) rfl (tlt ((by decide) : (7 : Int32) < (17 : Int32))).2.1 ?_
                  show Steps p.tables e below (T31.setTop (mkF m 14 #[.val (.int p0), .val (.ref b4), .val (.int (17 : Int32)), .val (.int (7 : Int32)), .val (.ref wFIND_COORDINATOR)] [])) _
                  refine XS.aloadN X31.here hx rfl (hb hby d2_14) rfl rfl ?_
                  show Steps p.tables e below (T31.setTop (mkF m 15 #[.val (.int p0), .val (.ref b4), .val (.int (17 : Int32)), .val (.int (7 : Int32)), .val (.ref wFIND_COORDINATOR)] [(.ref b4)])) _
                  refine XS.iloadN X31.here hx rfl (hb hby d2_15) rfl ?_
                  show Steps p.tables e below (T31.setTop (mkF m 16 #[.val (.int p0), .val (.ref b4), .val (.int (17 : Int32)), .val (.int (7 : Int32)), .val (.ref wFIND_COORDINATOR)] [(.int (7 : Int32)), (.ref b4)])) _
                  refine X31.aaload hx (j := (7 : Int32)) (v := (.ref wJOIN_GROUP)) (by rw [e31]; exact Ara34.1) (State.isArrayOf_alike hZ.alike Ara34.2.1) rfl Ara34.2.2 hina34 (Ha34.at hina34 rfl) (g := (mkF m 16 #[.val (.int p0), .val (.ref b4), .val (.int (17 : Int32)), .val (.int (7 : Int32)), .val (.ref wFIND_COORDINATOR)] [(.int (7 : Int32)), (.ref b4)])) rfl rfl (hb hby d2_16) _ ?_
                  show Steps p.tables e below (T31.setTop (mkF m 17 #[.val (.int p0), .val (.ref b4), .val (.int (17 : Int32)), .val (.int (7 : Int32)), .val (.ref wFIND_COORDINATOR)] [(.ref wJOIN_GROUP)])) _
                  refine XS.astore X31.here hx rfl (hb hby d2_17) rfl rfl (l' := #[.val (.int p0), .val (.ref b4), .val (.int (17 : Int32)), .val (.int (7 : Int32)), .val (.ref wJOIN_GROUP)]) rfl ?_
                  show Steps p.tables e below (T31.setTop (mkF m 19 #[.val (.int p0), .val (.ref b4), .val (.int (17 : Int32)), .val (.int (7 : Int32)), .val (.ref wJOIN_GROUP)] [])) _
                  refine XS.aload X31.here hx rfl (hb hby d2_19) rfl rfl ?_
                  show Steps p.tables e below (T31.setTop (mkF m 21 #[.val (.int p0), .val (.ref b4), .val (.int (17 : Int32)), .val (.int (7 : Int32)), .val (.ref wJOIN_GROUP)] [(.ref wJOIN_GROUP)])) _
                  refine st35 _ ?_
                  show Steps p.tables e below (T35.setTop (mkF m 24 #[.val (.int p0), .val (.ref b4), .val (.int (17 : Int32)), .val (.int (7 : Int32)), .val (.ref wJOIN_GROUP)] [(.int (11 : Int32))])) _
                  refine XS.iloadN X35.here hx rfl (hb hby d2_24) rfl ?_
                  exact kt)
                by_cases hc37 : (11 : Int32) = p0
                · obtain ⟨fs, hr, hrun, hended, hW, hsame⟩ := X35.leave (v := some (.ref wJOIN_GROUP)) (fun h => by rw [Bd.returns] at h; cases h)
                  refine ⟨_, _, k36 _ ?_, hrun, hended, _, _, rfl, ?_, ⟨_, rfl⟩, hW, hsame.mono (by decide) (by decide)⟩
                  · show Steps p.tables e below (T35.setTop (mkF m 25 #[.val (.int p0), .val (.ref b4), .val (.int (17 : Int32)), .val (.int (7 : Int32)), .val (.ref wJOIN_GROUP)] [(.int p0), (.int (11 : Int32))])) _
                    refine XS.icmpNo X35.here hx rfl (hb hby d2_25) rfl (teq (hc37 : (11 : Int32) = p0)).2 ?_
                    show Steps p.tables e below (T35.setTop (mkF m 28 #[.val (.int p0), .val (.ref b4), .val (.int (17 : Int32)), .val (.int (7 : Int32)), .val (.ref wJOIN_GROUP)] [])) _
                    refine XS.aload X35.here hx rfl (hb hby d2_28) rfl rfl ?_
                    show Steps p.tables e below (T35.setTop (mkF m 30 #[.val (.int p0), .val (.ref b4), .val (.int (17 : Int32)), .val (.int (7 : Int32)), .val (.ref wJOIN_GROUP)] [(.ref wJOIN_GROUP)])) _
                    exact own_retA X35 hx Bd.returns rfl rfl (hb hby d2_30) hr
                  · show Q2 Z p0 w_VALUES wPRODUCE wFETCH wLIST_OFFSETS wMETADATA wOFFSET_COMMIT wOFFSET_FETCH wFIND_COORDINATOR wJOIN_GROUP wHEARTBEAT wLEAVE_GROUP wSYNC_GROUP wAPI_VERSIONS wINIT_PRODUCER_ID wADD_PARTITIONS_TO_TXN wADD_OFFSETS_TO_TXN wEND_TXN wTXN_OFFSET_COMMIT k_VALUES h0 n0 _ T35.heap _
                    rw [e35]
                    exact ⟨by rw [f2, if_neg hc9, if_neg hc13, if_neg hc17, if_neg hc21, if_neg hc25, if_neg hc29, if_neg hc33, if_pos hc37], N4, EX4⟩
                · obtain ⟨cla38, Ara38, qa38, Sa38, Na38, Ha38, Ga38⟩ := And.left ⟨V4, trivial⟩
                  have hina38 : ¬ ((8 : Int32) < 0 ∨ cla38.slots.size ≤ ((8 : Int32)).toNatClampNeg) := inb_of Sa38 ⟨by decide, by decide⟩
                  obtain ⟨T39, X39, e39, st39⟩ := getF X35 hx hZ hown (host := "") (Or.inl (hw _ (List.mem_of_getElem? (i := 36) rfl))) Via.refl e35 (FHEARTBEAT_key.ext EX4) (g := (mkF m 21 #[.val (.int p0), .val (.ref b4), .val (.int (17 : Int32)), .val (.int (8 : Int32)), .val (.ref wHEARTBEAT)] [(.ref wHEARTBEAT)])) rfl rfl (hb hby d2_21)
                  have k40 : ∀ t, Steps p.tables e below (T39.setTop (mkF m 25 #[.val (.int p0), .val (.ref b4), .val (.int (17 : Int32)), .val (.int (8 : Int32)), .val (.ref wHEARTBEAT)] [(.int p0), (.int (12 : Int32))])) t → Steps p.tables e below (s₁.setTop (entryFrame m #[(.int p0)] 5)) t := fun t kt => k36 t (by
                    show Steps p.tables e below (T35.setTop (mkF m 25 #[.val (.int p0), .val (.ref b4), .val (.int (17 : Int32)), .val (.int (7 : Int32)), .val (.ref wJOIN_GROUP)] [(.int p0), (.int (11 : Int32))])) _
                    refine XS.icmpYes X35.here hx rfl (pc0 := 25) (pc' := 31) rfl (hb hby d2_25) rfl (feq (hc37 : ¬ ((11 : Int32) = p0))).2 (by decide) (by decide) ?_
                    show Steps p.tables e below (T35.setTop (mkF m 31 #[.val (.int p0), .val (.ref b4), .val (.int (17 : Int32)), .val (.int (7 : Int32)), .val (.ref wJOIN_GROUP)] [])) _
                    refine XS.iinc X35.here hx rfl (hb hby d2_31) rfl (l' := #[.val (.int p0), .val (.ref b4), .val (.int (17 : Int32)), .val (.int (8 : Int32)), .val (.ref wJOIN_GROUP)]) rfl ?_
                    show Steps p.tables e below (T35.setTop (mkF m 34 #[.val (.int p0), .val (.ref b4), .val (.int (17 : Int32)), .val (.int (8 : Int32)), .val (.ref wJOIN_GROUP)] [])) _
                    refine XS.goto X35.here hx rfl (pc0 := 34) (pc' := 9) rfl (hb hby d2_34) (by decide) (by decide) ?_
                    show Steps p.tables e below (T35.setTop (mkF m 9 #[.val (.int p0), .val (.ref b4), .val (.int (17 : Int32)), .val (.int (8 : Int32)), .val (.ref wJOIN_GROUP)] [])) _
                    refine XS.iloadN X35.here hx rfl (hb hby d2_9) rfl ?_
                    show Steps p.tables e below (T35.setTop (mkF m 10 #[.val (.int p0), .val (.ref b4), .val (.int (17 : Int32)), .val (.int (8 : Int32)), .val (.ref wJOIN_GROUP)] [(.int (8 : Int32))])) _
                    refine XS.iloadN X35.here hx rfl (hb hby d2_10) rfl ?_
                    show Steps p.tables e below (T35.setTop (mkF m 11 #[.val (.int p0), .val (.ref b4), .val (.int (17 : Int32)), .val (.int (8 : Int32)), .val (.ref wJOIN_GROUP)] [(.int (17 : Int32)), (.int (8 : Int32))])) _
                    refine XS.icmpNo X35.here hx rfl (hb hby d2_11) rfl (tlt ((by decide) : (8 : Int32) < (17 : Int32))).2.1 ?_
                    show Steps p.tables e below (T35.setTop (mkF m 14 #[.val (.int p0), .val (.ref b4), .val (.int (17 : Int32)), .val (.int (8 : Int32)), .val (.ref wJOIN_GROUP)] [])) _
                    refine XS.aloadN X35.here hx rfl (hb hby d2_14) rfl rfl ?_
                    show Steps p.tables e below (T35.setTop (mkF m 15 #[.val (.int p0), .val (.ref b4), .val (.int (17 : Int32)), .val (.int (8 : Int32)), .val (.ref wJOIN_GROUP)] [(.ref b4)])) _
                    refine XS.iloadN X35.here hx rfl (hb hby d2_15) rfl ?_
                    show Steps p.tables e below (T35.setTop (mkF m 16 #[.val (.int p0), .val (.ref b4), .val (.int (17 : Int32)), .val (.int (8 : Int32)), .val (.ref wJOIN_GROUP)] [(.int (8 : Int32)), (.ref b4)])) _
                    refine X35.aaload hx (j := (8 : Int32)) (v := (.ref wHEARTBEAT)) (by rw [e35]; exact Ara38.1) (State.isArrayOf_alike hZ.alike Ara38.2.1) rfl Ara38.2.2 hina38 (Ha38.at hina38 rfl) (g := (mkF m 16 #[.val (.int p0), .val (.ref b4), .val (.int (17 : Int32)), .val (.int (8 : Int32)), .val (.ref wJOIN_GROUP)] [(.int (8 : Int32)), (.ref b4)])) rfl rfl (hb hby d2_16) _ ?_
                    show Steps p.tables e below (T35.setTop (mkF m 17 #[.val (.int p0), .val (.ref b4), .val (.int (17 : Int32)), .val (.int (8 : Int32)), .val (.ref wJOIN_GROUP)] [(.ref wHEARTBEAT)])) _
                    refine XS.astore X35.here hx rfl (hb hby d2_17) rfl rfl (l' := #[.val (.int p0), .val (.ref b4), .val (.int (17 : Int32)), .val (.int (8 : Int32)), .val (.ref wHEARTBEAT)]) rfl ?_
                    show Steps p.tables e below (T35.setTop (mkF m 19 #[.val (.int p0), .val (.ref b4), .val (.int (17 : Int32)), .val (.int (8 : Int32)), .val (.ref wHEARTBEAT)] [])) _
                    refine XS.aload X35.here hx rfl (hb hby d2_19) rfl rfl ?_
                    show Steps p.tables e below (T35.setTop (mkF m 21 #[.val (.int p0), .val (.ref b4), .val (.int (17 : Int32)), .val (.int (8 : Int32)), .val (.ref wHEARTBEAT)] [(.ref wHEARTBEAT)])) _
                    refine st39 _ ?_
                    show Steps p.tables e below (T39.setTop (mkF m 24 #[.val (.int p0), .val (.ref b4), .val (.int (17 : Int32)), .val (.int (8 : Int32)), .val (.ref wHEARTBEAT)] [(.int (12 : Int32))])) _
                    refine XS.iloadN X39.here hx rfl (hb hby d2_24) rfl ?_
                    exact kt)
                  by_cases hc41 : (12 : Int32) = p0
                  · obtain ⟨fs, hr, hrun, hended, hW, hsame⟩ := X39.leave (v := some (.ref wHEARTBEAT)) (fun h => by rw [Bd.returns] at h; cases h)
                    refine ⟨_, _, k40 _ ?_, hrun, hended, _, _, rfl, ?_, ⟨_, rfl⟩, hW, hsame.mono (by decide) (by decide)⟩
                    · show Steps p.tables e below (T39.setTop (mkF m 25 #[.val (.int p0), .val (.ref b4), .val (.int (17 : Int32)), .val (.int (8 : Int32)), .val (.ref wHEARTBEAT)] [(.int p0), (.int (12 : Int32))])) _
                      refine XS.icmpNo X39.here hx rfl (hb hby d2_25) rfl (teq (hc41 : (12 : Int32) = p0)).2 ?_
                      show Steps p.tables e below (T39.setTop (mkF m 28 #[.val (.int p0), .val (.ref b4), .val (.int (17 : Int32)), .val (.int (8 : Int32)), .val (.ref wHEARTBEAT)] [])) _
                      refine XS.aload X39.here hx rfl (hb hby d2_28) rfl rfl ?_
                      show Steps p.tables e below (T39.setTop (mkF m 30 #[.val (.int p0), .val (.ref b4), .val (.int (17 : Int32)), .val (.int (8 : Int32)), .val (.ref wHEARTBEAT)] [(.ref wHEARTBEAT)])) _
                      exact own_retA X39 hx Bd.returns rfl rfl (hb hby d2_30) hr
                    · show Q2 Z p0 w_VALUES wPRODUCE wFETCH wLIST_OFFSETS wMETADATA wOFFSET_COMMIT wOFFSET_FETCH wFIND_COORDINATOR wJOIN_GROUP wHEARTBEAT wLEAVE_GROUP wSYNC_GROUP wAPI_VERSIONS wINIT_PRODUCER_ID wADD_PARTITIONS_TO_TXN wADD_OFFSETS_TO_TXN wEND_TXN wTXN_OFFSET_COMMIT k_VALUES h0 n0 _ T39.heap _
                      rw [e39]
                      exact ⟨by rw [f2, if_neg hc9, if_neg hc13, if_neg hc17, if_neg hc21, if_neg hc25, if_neg hc29, if_neg hc33, if_neg hc37, if_pos hc41], N4, EX4⟩
                  · obtain ⟨cla42, Ara42, qa42, Sa42, Na42, Ha42, Ga42⟩ := And.left ⟨V4, trivial⟩
                    have hina42 : ¬ ((9 : Int32) < 0 ∨ cla42.slots.size ≤ ((9 : Int32)).toNatClampNeg) := inb_of Sa42 ⟨by decide, by decide⟩
                    obtain ⟨T43, X43, e43, st43⟩ := getF X39 hx hZ hown (host := "") (Or.inl (hw _ (List.mem_of_getElem? (i := 36) rfl))) Via.refl e39 (FLEAVE_GROUP_key.ext EX4) (g := (mkF m 21 #[.val (.int p0), .val (.ref b4), .val (.int (17 : Int32)), .val (.int (9 : Int32)), .val (.ref wLEAVE_GROUP)] [(.ref wLEAVE_GROUP)])) rfl rfl (hb hby d2_21)
                    have k44 : ∀ t, Steps p.tables e below (T43.setTop (mkF m 25 #[.val (.int p0), .val (.ref b4), .val (.int (17 : Int32)), .val (.int (9 : Int32)), .val (.ref wLEAVE_GROUP)] [(.int p0), (.int (13 : Int32))])) t → Steps p.tables e below (s₁.setTop (entryFrame m #[(.int p0)] 5)) t := fun t kt => k40 t (by
                      show Steps p.tables e below (T39.setTop (mkF m 25 #[.val (.int p0), .val (.ref b4), .val (.int (17 : Int32)), .val (.int (8 : Int32)), .val (.ref wHEARTBEAT)] [(.int p0), (.int (12 : Int32))])) _
                      refine XS.icmpYes X39.here hx rfl (pc0 := 25) (pc' := 31) rfl (hb hby d2_25) rfl (feq (hc41 : ¬ ((12 : Int32) = p0))).2 (by decide) (by decide) ?_
                      show Steps p.tables e below (T39.setTop (mkF m 31 #[.val (.int p0), .val (.ref b4), .val (.int (17 : Int32)), .val (.int (8 : Int32)), .val (.ref wHEARTBEAT)] [])) _
                      refine XS.iinc X39.here hx rfl (hb hby d2_31) rfl (l' := #[.val (.int p0), .val (.ref b4), .val (.int (17 : Int32)), .val (.int (9 : Int32)), .val (.ref wHEARTBEAT)]) rfl ?_
                      show Steps p.tables e below (T39.setTop (mkF m 34 #[.val (.int p0), .val (.ref b4), .val (.int (17 : Int32)), .val (.int (9 : Int32)), .val (.ref wHEARTBEAT)] [])) _
                      refine XS.goto X39.here hx rfl (pc0 := 34) (pc' := 9) rfl (hb hby d2_34) (by decide) (by decide) ?_
                      show Steps p.tables e below (T39.setTop (mkF m 9 #[.val (.int p0), .val (.ref b4), .val (.int (17 : Int32)), .val (.int (9 : Int32)), .val (.ref wHEARTBEAT)] [])) _
                      refine XS.iloadN X39.here hx rfl (hb hby d2_9) rfl ?_
                      show Steps p.tables e below (T39.setTop (mkF m 10 #[.val (.int p0), .val (.ref b4), .val (.int (17 : Int32)), .val (.int (9 : Int32)), .val (.ref wHEARTBEAT)] [(.int (9 : Int32))])) _
                      refine XS.iloadN X39.here hx rfl (hb hby d2_10) rfl ?_
                      show Steps p.tables e below (T39.setTop (mkF m 11 #[.val (.int p0), .val (.ref b4), .val (.int (17 : Int32)), .val (.int (9 : Int32)), .val (.ref wHEARTBEAT)] [(.int (17 : Int32)), (.int (9 : Int32))])) _
                      refine XS.icmpNo X39.here hx rfl (hb hby d2_11) rfl (tlt ((by decide) : (9 : Int32) < (17 : Int32))).2.1 ?_
                      show Steps p.tables e below (T39.setTop (mkF m 14 #[.val (.int p0), .val (.ref b4), .val (.int (17 : Int32)), .val (.int (9 : Int32)), .val (.ref wHEARTBEAT)] [])) _
                      refine XS.aloadN X39.here hx rfl (hb hby d2_14) rfl rfl ?_
                      show Steps p.tables e below (T39.setTop (mkF m 15 #[.val (.int p0), .val (.ref b4), .val (.int (17 : Int32)), .val (.int (9 : Int32)), .val (.ref wHEARTBEAT)] [(.ref b4)])) _
                      refine XS.iloadN X39.here hx rfl (hb hby d2_15) rfl ?_
                      show Steps p.tables e below (T39.setTop (mkF m 16 #[.val (.int p0), .val (.ref b4), .val (.int (17 : Int32)), .val (.int (9 : Int32)), .val (.ref wHEARTBEAT)] [(.int (9 : Int32)), (.ref b4)])) _
                      refine X39.aaload hx (j := (9 : Int32)) (v := (.ref wLEAVE_GROUP)) (by rw [e39]; exact Ara42.1) (State.isArrayOf_alike hZ.alike Ara42.2.1) rfl Ara42.2.2 hina42 (Ha42.at hina42 rfl) (g := (mkF m 16 #[.val (.int p0), .val (.ref b4), .val (.int (17 : Int32)), .val (.int (9 : Int32)), .val (.ref wHEARTBEAT)] [(.int (9 : Int32)), (.ref b4)])) rfl rfl (hb hby d2_16) _ ?_
                      show Steps p.tables e below (T39.setTop (mkF m 17 #[.val (.int p0), .val (.ref b4), .val (.int (17 : Int32)), .val (.int (9 : Int32)), .val (.ref wHEARTBEAT)] [(.ref wLEAVE_GROUP)])) _
                      refine XS.astore X39.here hx rfl (hb hby d2_17) rfl rfl (l' := #[.val (.int p0), .val (.ref b4), .val (.int (17 : Int32)), .val (.int (9 : Int32)), .val (.ref wLEAVE_GROUP)]) rfl ?_
                      show Steps p.tables e below (T39.setTop (mkF m 19 #[.val (.int p0), .val (.ref b4), .val (.int (17 : Int32)), .val (.int (9 : Int32)), .val (.ref wLEAVE_GROUP)] [])) _
                      refine XS.aload X39.here hx rfl (hb hby d2_19) rfl rfl ?_
                      show Steps p.tables e below (T39.setTop (mkF m 21 #[.val (.int p0), .val (.ref b4), .val (.int (17 : Int32)), .val (.int (9 : Int32)), .val (.ref wLEAVE_GROUP)] [(.ref wLEAVE_GROUP)])) _
                      refine st43 _ ?_
                      show Steps p.tables e below (T43.setTop (mkF m 24 #[.val (.int p0), .val (.ref b4), .val (.int (17 : Int32)), .val (.int (9 : Int32)), .val (.ref wLEAVE_GROUP)] [(.int (13 : Int32))])) _
                      refine XS.iloadN X43.here hx rfl (hb hby d2_24) rfl ?_
                      exact kt)
                    by_cases hc45 : (13 : Int32) = p0
                    · obtain ⟨fs, hr, hrun, hended, hW, hsame⟩ := X43.leave (v := some (.ref wLEAVE_GROUP)) (fun h => by rw [Bd.returns] at h; cases h)
                      refine ⟨_, _, k44 _ ?_, hrun, hended, _, _, rfl, ?_, ⟨_, rfl⟩, hW, hsame.mono (by decide) (by decide)⟩
                      · show Steps p.tables e below (T43.setTop (mkF m 25 #[.val (.int p0), .val (.ref b4), .val (.int (17 : Int32)), .val (.int (9 : Int32)), .val (.ref wLEAVE_GROUP)] [(.int p0), (.int (13 : Int32))])) _
                        refine XS.icmpNo X43.here hx rfl (hb hby d2_25) rfl (teq (hc45 : (13 : Int32) = p0)).2 ?_
                        show Steps p.tables e below (T43.setTop (mkF m 28 #[.val (.int p0), .val (.ref b4), .val (.int (17 : Int32)), .val (.int (9 : Int32)), .val (.ref wLEAVE_GROUP)] [])) _
                        refine XS.aload X43.here hx rfl (hb hby d2_28) rfl rfl ?_
                        show Steps p.tables e below (T43.setTop (mkF m 30 #[.val (.int p0), .val (.ref b4), .val (.int (17 : Int32)), .val (.int (9 : Int32)), .val (.ref wLEAVE_GROUP)] [(.ref wLEAVE_GROUP)])) _
                        exact own_retA X43 hx Bd.returns rfl rfl (hb hby d2_30) hr
                      · show Q2 Z p0 w_VALUES wPRODUCE wFETCH wLIST_OFFSETS wMETADATA wOFFSET_COMMIT wOFFSET_FETCH wFIND_COORDINATOR wJOIN_GROUP wHEARTBEAT wLEAVE_GROUP wSYNC_GROUP wAPI_VERSIONS wINIT_PRODUCER_ID wADD_PARTITIONS_TO_TXN wADD_OFFSETS_TO_TXN wEND_TXN wTXN_OFFSET_COMMIT k_VALUES h0 n0 _ T43.heap _
                        rw [e43]
                        exact ⟨by rw [f2, if_neg hc9, if_neg hc13, if_neg hc17, if_neg hc21, if_neg hc25, if_neg hc29, if_neg hc33, if_neg hc37, if_neg hc41, if_pos hc45], N4, EX4⟩
                    · obtain ⟨cla46, Ara46, qa46, Sa46, Na46, Ha46, Ga46⟩ := And.left ⟨V4, trivial⟩
                      have hina46 : ¬ ((10 : Int32) < 0 ∨ cla46.slots.size ≤ ((10 : Int32)).toNatClampNeg) := inb_of Sa46 ⟨by decide, by decide⟩
                      obtain ⟨T47, X47, e47, st47⟩ := getF X43 hx hZ hown (host := "") (Or.inl (hw _ (List.mem_of_getElem? (i := 36) rfl))) Via.refl e43 (FSYNC_GROUP_key.ext EX4) (g := (mkF m 21 #[.val (.int p0), .val (.ref b4), .val (.int (17 : Int32)), .val (.int (10 : Int32)), .val (.ref wSYNC_GROUP)] [(.ref wSYNC_GROUP)])) rfl rfl (hb hby d2_21)
                      have k48 : ∀ t, Steps p.tables e below (T47.setTop (mkF m 25 #[.val (.int p0), .val (.ref b4), .val (.int (17 : Int32)), .val (.int (10 : Int32)), .val (.ref wSYNC_GROUP)] [(.int p0), (.int (14 : Int32))])) t → Steps p.tables e below (s₁.setTop (entryFrame m #[(.int p0)] 5)) t := fun t kt => k44 t (by
                        show Steps p.tables e below (T43.setTop (mkF m 25 #[.val (.int p0), .val (.ref b4), .val (.int (17 : Int32)), .val (.int (9 : Int32)), .val (.ref wLEAVE_GROUP)] [(.int p0), (.int (13 : Int32))])) _
                        refine XS.icmpYes X43.here hx rfl (pc0 := 25) (pc' := 31) rfl (hb hby d2_25) rfl (feq (hc45 : ¬ ((13 : Int32) = p0))).2 (by decide) (by decide) ?_
                        show Steps p.tables e below (T43.setTop (mkF m 31 #[.val (.int p0), .val (.ref b4), .val (.int (17 : Int32)), .val (.int (9 : Int32)), .val (.ref wLEAVE_GROUP)] [])) _
                        refine XS.iinc X43.here hx rfl (hb hby d2_31) rfl (l' := #[.val (.int p0), .val (.ref b4), .val (.int (17 : Int32)), .val (.int (10 : Int32)), .val (.ref wLEAVE_GROUP)]) rfl ?_
                        show Steps p.tables e below (T43.setTop (mkF m 34 #[.val (.int p0), .val (.ref b4), .val (.int (17 : Int32)), .val (.int (10 : Int32)), .val (.ref wLEAVE_GROUP)] [])) _
                        refine XS.goto X43.here hx rfl (pc0 := 34) (pc' := 9) rfl (hb hby d2_34) (by decide) (by decide) ?_
                        show Steps p.tables e below (T43.setTop (mkF m 9 #[.val (.int p0), .val (.ref b4), .val (.int (17 : Int32)), .val (.int (10 : Int32)), .val (.ref wLEAVE_GROUP)] [])) _
                        refine XS.iloadN X43.here hx rfl (hb hby d2_9) rfl ?_
                        show Steps p.tables e below (T43.setTop (mkF m 10 #[.val (.int p0), .val (.ref b4), .val (.int (17 : Int32)), .val (.int (10 : Int32)), .val (.ref wLEAVE_GROUP)] [(.int (10 : Int32))])) _
                        refine XS.iloadN X43.here hx rfl (hb hby d2_10) rfl ?_
                        show Steps p.tables e below (T43.setTop (mkF m 11 #[.val (.int p0), .val (.ref b4), .val (.int (17 : Int32)), .val (.int (10 : Int32)), .val (.ref wLEAVE_GROUP)] [(.int (17 : Int32)), (.int (10 : Int32))])) _
                        refine XS.icmpNo X43.here hx rfl (hb hby d2_11) rfl (tlt ((by decide) : (10 : Int32) < (17 : Int32))).2.1 ?_
                        show Steps p.tables e below (T43.setTop (mkF m 14 #[.val (.int p0), .val (.ref b4), .val (.int (17 : Int32)), .val (.int (10 : Int32)), .val (.ref wLEAVE_GROUP)] [])) _
                        refine XS.aloadN X43.here hx rfl (hb hby d2_14) rfl rfl ?_
                        show Steps p.tables e below (T43.setTop (mkF m 15 #[.val (.int p0), .val (.ref b4), .val (.int (17 : Int32)), .val (.int (10 : Int32)), .val (.ref wLEAVE_GROUP)] [(.ref b4)])) _
                        refine XS.iloadN X43.here hx rfl (hb hby d2_15) rfl ?_
                        show Steps p.tables e below (T43.setTop (mkF m 16 #[.val (.int p0), .val (.ref b4), .val (.int (17 : Int32)), .val (.int (10 : Int32)), .val (.ref wLEAVE_GROUP)] [(.int (10 : Int32)), (.ref b4)])) _
                        refine X43.aaload hx (j := (10 : Int32)) (v := (.ref wSYNC_GROUP)) (by rw [e43]; exact Ara46.1) (State.isArrayOf_alike hZ.alike Ara46.2.1) rfl Ara46.2.2 hina46 (Ha46.at hina46 rfl) (g := (mkF m 16 #[.val (.int p0), .val (.ref b4), .val (.int (17 : Int32)), .val (.int (10 : Int32)), .val (.ref wLEAVE_GROUP)] [(.int (10 : Int32)), (.ref b4)])) rfl rfl (hb hby d2_16) _ ?_
                        show Steps p.tables e below (T43.setTop (mkF m 17 #[.val (.int p0), .val (.ref b4), .val (.int (17 : Int32)), .val (.int (10 : Int32)), .val (.ref wLEAVE_GROUP)] [(.ref wSYNC_GROUP)])) _
                        refine XS.astore X43.here hx rfl (hb hby d2_17) rfl rfl (l' := #[.val (.int p0), .val (.ref b4), .val (.int (17 : Int32)), .val (.int (10 : Int32)), .val (.ref wSYNC_GROUP)]) rfl ?_
                        show Steps p.tables e below (T43.setTop (mkF m 19 #[.val (.int p0), .val (.ref b4), .val (.int (17 : Int32)), .val (.int (10 : Int32)), .val (.ref wSYNC_GROUP)] [])) _
                        refine XS.aload X43.here hx rfl (hb hby d2_19) rfl rfl ?_
                        show Steps p.tables e below (T43.setTop (mkF m 21 #[.val (.int p0), .val (.ref b4), .val (.int (17 : Int32)), .val (.int (10 : Int32)), .val (.ref wSYNC_GROUP)] [(.ref wSYNC_GROUP)])) _
                        refine st47 _ ?_
                        show Steps p.tables e below (T47.setTop (mkF m 24 #[.val (.int p0), .val (.ref b4), .val (.int (17 : Int32)), .val (.int (10 : Int32)), .val (.ref wSYNC_GROUP)] [(.int (14 : Int32))])) _
                        refine XS.iloadN X47.here hx rfl (hb hby d2_24) rfl ?_
                        exact kt)
                      by_cases hc49 : (14 : Int32) = p0
                      · obtain ⟨fs, hr, hrun, hended, hW, hsame⟩ := X47.leave (v := some (.ref wSYNC_GROUP)) (fun h => by rw [Bd.returns] at h; cases h)
                        refine ⟨_, _, k48 _ ?_, hrun, hended, _, _, rfl, ?_, ⟨_, rfl⟩, hW, hsame.mono (by decide) (by decide)⟩
                        · show Steps p.tables e below (T47.setTop (mkF m 25 #[.val (.int p0), .val (.ref b4), .val (.int (17 : Int32)), .val (.int (10 : Int32)), .val (.ref wSYNC_GROUP)] [(.int p0), (.int (14 : Int32))])) _
                          refine XS.icmpNo X47.here hx rfl (hb hby d2_25) rfl (teq (hc49 : (14 : Int32) = p0)).2 ?_
                          show Steps p.tables e below (T47.setTop (mkF m 28 #[.val (.int p0), .val (.ref b4), .val (.int (17 : Int32)), .val (.int (10 : Int32)), .val (.ref wSYNC_GROUP)] [])) _
                          refine XS.aload X47.here hx rfl (hb hby d2_28) rfl rfl ?_
                          show Steps p.tables e below (T47.setTop (mkF m 30 #[.val (.int p0), .val (.ref b4), .val (.int (17 : Int32)), .val (.int (10 : Int32)), .val (.ref wSYNC_GROUP)] [(.ref wSYNC_GROUP)])) _
                          exact own_retA X47 hx Bd.returns rfl rfl (hb hby d2_30) hr
                        · show Q2 Z p0 w_VALUES wPRODUCE wFETCH wLIST_OFFSETS wMETADATA wOFFSET_COMMIT wOFFSET_FETCH wFIND_COORDINATOR wJOIN_GROUP wHEARTBEAT wLEAVE_GROUP wSYNC_GROUP wAPI_VERSIONS wINIT_PRODUCER_ID wADD_PARTITIONS_TO_TXN wADD_OFFSETS_TO_TXN wEND_TXN wTXN_OFFSET_COMMIT k_VALUES h0 n0 _ T47.heap _
                          rw [e47]
                          exact ⟨by rw [f2, if_neg hc9, if_neg hc13, if_neg hc17, if_neg hc21, if_neg hc25, if_neg hc29, if_neg hc33, if_neg hc37, if_neg hc41, if_neg hc45, if_pos hc49], N4, EX4⟩
                      · obtain ⟨cla50, Ara50, qa50, Sa50, Na50, Ha50, Ga50⟩ := And.left ⟨V4, trivial⟩
                        have hina50 : ¬ ((11 : Int32) < 0 ∨ cla50.slots.size ≤ ((11 : Int32)).toNatClampNeg) := inb_of Sa50 ⟨by decide, by decide⟩
                        obtain ⟨T51, X51, e51, st51⟩ := getF X47 hx hZ hown (host := "") (Or.inl (hw _ (List.mem_of_getElem? (i := 36) rfl))) Via.refl e47 (FAPI_VERSIONS_key.ext EX4) (g := (mkF m 21 #[.val (.int p0), .val (.ref b4), .val (.int (17 : Int32)), .val (.int (11 : Int32)), .val (.ref wAPI_VERSIONS)] [(.ref wAPI_VERSIONS)])) rfl rfl (hb hby d2_21)
                        have k52 : ∀ t, Steps p.tables e below (T51.setTop (mkF m 25 #[.val (.int p0), .val (.ref b4), .val (.int (17 : Int32)), .val (.int (11 : Int32)), .val (.ref wAPI_VERSIONS)] [(.int p0), (.int (18 : Int32))])) t → Steps p.tables e below (s₁.setTop (entryFrame m #[(.int p0)] 5)) t := fun t kt => k48 t (by
                          show Steps p.tables e below (T47.setTop (mkF m 25 #[.val (.int p0), .val (.ref b4), .val (.int (17 : Int32)), .val (.int (10 : Int32)), .val (.ref wSYNC_GROUP)] [(.int p0), (.int (14 : Int32))])) _
                          refine XS.icmpYes X47.here hx rfl (pc0 := 25) (pc' := 31) rfl (hb hby d2_25) rfl (feq (hc49 : ¬ ((14 : Int32) = p0))).2 (by decide) (by decide) ?_
                          show Steps p.tables e below (T47.setTop (mkF m 31 #[.val (.int p0), .val (.ref b4), .val (.int (17 : Int32)), .val (.int (10 : Int32)), .val (.ref wSYNC_GROUP)] [])) _
                          refine XS.iinc X47.here hx rfl (hb hby d2_31) rfl (l' := #[.val (.int p0), .val (.ref b4), .val (.int (17 : Int32)), .val (.int (11 : Int32)), .val (.ref wSYNC_GROUP)]) rfl ?_
                          show Steps p.tables e below (T47.setTop (mkF m 34 #[.val (.int p0), .val (.ref b4), .val (.int (17 : Int32)), .val (.int (11 : Int32)), .val (.ref wSYNC_GROUP)] [])) _
                          refine XS.goto X47.here hx rfl (pc0 := 34) (pc' := 9) rfl (hb hby d2_34) (by decide) (by decide) ?_
                          show Steps p.tables e below (T47.setTop (mkF m 9 #[.val (.int p0), .val (.ref b4), .val (.int (17 : Int32)), .val (.int (11 : Int32)), .val (.ref wSYNC_GROUP)] [])) _
                          refine XS.iloadN X47.here hx rfl (hb hby d2_9) rfl ?_
                          show Steps p.tables e below (T47.setTop (mkF m 10 #[.val (.int p0), .val (.ref b4), .val (.int (17 : Int32)), .val (.int (11 : Int32)), .val (.ref wSYNC_GROUP)] [(.int (11 : Int32))])) _
                          refine XS.iloadN X47.here hx rfl (hb hby d2_10) rfl ?_
                          show Steps p.tables e below (T47.setTop (mkF m 11 #[.val (.int p0), .val (.ref b4), .val (.int (17 : Int32)), .val (.int (11 : Int32)), .val (.ref wSYNC_GROUP)] [(.int (17 : Int32)), (.int (11 : Int32))])) _
                          refine XS.icmpNo X47.here hx rfl (hb hby d2_11) rfl (tlt ((by decide) : (11 : Int32) < (17 : Int32))).2.1 ?_
                          show Steps p.tables e below (T47.setTop (mkF m 14 #[.val (.int p0), .val (.ref b4), .val (.int (17 : Int32)), .val (.int (11 : Int32)), .val (.ref wSYNC_GROUP)] [])) _
                          refine XS.aloadN X47.here hx rfl (hb hby d2_14) rfl rfl ?_
                          show Steps p.tables e below (T47.setTop (mkF m 15 #[.val (.int p0), .val (.ref b4), .val (.int (17 : Int32)), .val (.int (11 : Int32)), .val (.ref wSYNC_GROUP)] [(.ref b4)])) _
                          refine XS.iloadN X47.here hx rfl (hb hby d2_15) rfl ?_
                          show Steps p.tables e below (T47.setTop (mkF m 16 #[.val (.int p0), .val (.ref b4), .val (.int (17 : Int32)), .val (.int (11 : Int32)), .val (.ref wSYNC_GROUP)] [(.int (11 : Int32)), (.ref b4)])) _
                          refine X47.aaload hx (j := (11 : Int32)) (v := (.ref wAPI_VERSIONS)) (by rw [e47]; exact Ara50.1) (State.isArrayOf_alike hZ.alike Ara50.2.1) rfl Ara50.2.2 hina50 (Ha50.at hina50 rfl) (g := (mkF m 16 #[.val (.int p0), .val (.ref b4), .val (.int (17 : Int32)), .val (.int (11 : Int32)), .val (.ref wSYNC_GROUP)] [(.int (11 : Int32)), (.ref b4)])) rfl rfl (hb hby d2_16) _ ?_
                          show Steps p.tables e below (T47.setTop (mkF m 17 #[.val (.int p0), .val (.ref b4), .val (.int (17 : Int32)), .val (.int (11 : Int32)), .val (.ref wSYNC_GROUP)] [(.ref wAPI_VERSIONS)])) _
                          refine XS.astore X47.here hx rfl (hb hby d2_17) rfl rfl (l' := #[.val (.int p0), .val (.ref b4), .val (.int (17 : Int32)), .val (.int (11 : Int32)), .val (.ref wAPI_VERSIONS)]) rfl ?_
                          show Steps p.tables e below (T47.setTop (mkF m 19 #[.val (.int p0), .val (.ref b4), .val (.int (17 : Int32)), .val (.int (11 : Int32)), .val (.ref wAPI_VERSIONS)] [])) _
                          refine XS.aload X47.here hx rfl (hb hby d2_19) rfl rfl ?_
                          show Steps p.tables e below (T47.setTop (mkF m 21 #[.val (.int p0), .val (.ref b4), .val (.int (17 : Int32)), .val (.int (11 : Int32)), .val (.ref wAPI_VERSIONS)] [(.ref wAPI_VERSIONS)])) _
                          refine st51 _ ?_
                          show Steps p.tables e below (T51.setTop (mkF m 24 #[.val (.int p0), .val (.ref b4), .val (.int (17 : Int32)), .val (.int (11 : Int32)), .val (.ref wAPI_VERSIONS)] [(.int (18 : Int32))])) _
                          refine XS.iloadN X51.here hx rfl (hb hby d2_24) rfl ?_
                          exact kt)
                        by_cases hc53 : (18 : Int32) = p0
                        · obtain ⟨fs, hr, hrun, hended, hW, hsame⟩ := X51.leave (v := some (.ref wAPI_VERSIONS)) (fun h => by rw [Bd.returns] at h; cases h)
                          refine ⟨_, _, k52 _ ?_, hrun, hended, _, _, rfl, ?_, ⟨_, rfl⟩, hW, hsame.mono (by decide) (by decide)⟩
                          · show Steps p.tables e below (T51.setTop (mkF m 25 #[.val (.int p0), .val (.ref b4), .val (.int (17 : Int32)), .val (.int (11 : Int32)), .val (.ref wAPI_VERSIONS)] [(.int p0), (.int (18 : Int32))])) _
                            refine XS.icmpNo X51.here hx rfl (hb hby d2_25) rfl (teq (hc53 : (18 : Int32) = p0)).2 ?_
                            show Steps p.tables e below (T51.setTop (mkF m 28 #[.val (.int p0), .val (.ref b4), .val (.int (17 : Int32)), .val (.int (11 : Int32)), .val (.ref wAPI_VERSIONS)] [])) _
                            refine XS.aload X51.here hx rfl (hb hby d2_28) rfl rfl ?_
                            show Steps p.tables e below (T51.setTop (mkF m 30 #[.val (.int p0), .val (.ref b4), .val (.int (17 : Int32)), .val (.int (11 : Int32)), .val (.ref wAPI_VERSIONS)] [(.ref wAPI_VERSIONS)])) _
                            exact own_retA X51 hx Bd.returns rfl rfl (hb hby d2_30) hr
                          · show Q2 Z p0 w_VALUES wPRODUCE wFETCH wLIST_OFFSETS wMETADATA wOFFSET_COMMIT wOFFSET_FETCH wFIND_COORDINATOR wJOIN_GROUP wHEARTBEAT wLEAVE_GROUP wSYNC_GROUP wAPI_VERSIONS wINIT_PRODUCER_ID wADD_PARTITIONS_TO_TXN wADD_OFFSETS_TO_TXN wEND_TXN wTXN_OFFSET_COMMIT k_VALUES h0 n0 _ T51.heap _
                            rw [e51]
                            exact ⟨by rw [f2, if_neg hc9, if_neg hc13, if_neg hc17, if_neg hc21, if_neg hc25, if_neg hc29, if_neg hc33, if_neg hc37, if_neg hc41, if_neg hc45, if_neg hc49, if_pos hc53], N4, EX4⟩
                        · obtain ⟨cla54, Ara54, qa54, Sa54, Na54, Ha54, Ga54⟩ := And.left ⟨V4, trivial⟩
                          have hina54 : ¬ ((12 : Int32) < 0 ∨ cla54.slots.size ≤ ((12 : Int32)).toNatClampNeg) := inb_of Sa54 ⟨by decide, by decide⟩
                          obtain ⟨T55, X55, e55, st55⟩ := getF X51 hx hZ hown (host := "") (Or.inl (hw _ (List.mem_of_getElem? (i := 36) rfl))) Via.refl e51 (FINIT_PRODUCER_ID_key.ext EX4) (g := (mkF m 21 #[.val (.int p0), .val (.ref b4), .val (.int (17 : Int32)), .val (.int (12 : Int32)), .val (.ref wINIT_PRODUCER_ID)] [(.ref wINIT_PRODUCER_ID)])) rfl rfl (hb hby d2_21)
                          have k56 : ∀ t, Steps p.tables e below (T55.setTop (mkF m 25 #[.val (.int p0), .val (.ref b4), .val (.int (17 : Int32)), .val (.int (12 : Int32)), .val (.ref wINIT_PRODUCER_ID)] [(.int p0), (.int (22 : Int32))])) t → Steps p.tables e below (s₁.setTop (entryFrame m #[(.int p0)] 5)) t := fun t kt => k52 t (by
                            show Steps p.tables e below (T51.setTop (mkF m 25 #[.val (.int p0), .val (.ref b4), .val (.int (17 : Int32)), .val (.int (11 : Int32)), .val (.ref wAPI_VERSIONS)] [(.int p0), (.int (18 : Int32))])) _
                            refine XS.icmpYes X51.here hx rfl (pc0 := 25) (pc' := 31) rfl (hb hby d2_25) rfl (feq (hc53 : ¬ ((18 : Int32) = p0))).2 (by decide) (by decide) ?_
                            show Steps p.tables e below (T51.setTop (mkF m 31 #[.val (.int p0), .val (.ref b4), .val (.int (17 : Int32)), .val (.int (11 : Int32)), .val (.ref wAPI_VERSIONS)] [])) _
                            refine XS.iinc X51.here hx rfl (hb hby d2_31) rfl (l' := #[.val (.int p0), .val (.ref b4), .val (.int (17 : Int32)), .val (.int (12 : Int32)), .val (.ref wAPI_VERSIONS)]) rfl ?_
                            show Steps p.tables e below (T51.setTop (mkF m 34 #[.val (.int p0), .val (.ref b4), .val (.int (17 : Int32)), .val (.int (12 : Int32)), .val (.ref wAPI_VERSIONS)] [])) _
                            refine XS.goto X51.here hx rfl (pc0 := 34) (pc' := 9) rfl (hb hby d2_34) (by decide) (by decide) ?_
                            show Steps p.tables e below (T51.setTop (mkF m 9 #[.val (.int p0), .val (.ref b4), .val (.int (17 : Int32)), .val (.int (12 : Int32)), .val (.ref wAPI_VERSIONS)] [])) _
                            refine XS.iloadN X51.here hx rfl (hb hby d2_9) rfl ?_
                            show Steps p.tables e below (T51.setTop (mkF m 10 #[.val (.int p0), .val (.ref b4), .val (.int (17 : Int32)), .val (.int (12 : Int32)), .val (.ref wAPI_VERSIONS)] [(.int (12 : Int32))])) _
                            refine XS.iloadN X51.here hx rfl (hb hby d2_10) rfl ?_
                            show Steps p.tables e below (T51.setTop (mkF m 11 #[.val (.int p0), .val (.ref b4), .val (.int (17 : Int32)), .val (.int (12 : Int32)), .val (.ref wAPI_VERSIONS)] [(.int (17 : Int32)), (.int (12 : Int32))])) _
                            refine XS.icmpNo X51.here hx rfl (hb hby d2_11) rfl (tlt ((by decide) : (12 : Int32) < (17 : Int32))).2.1 ?_
                            show Steps p.tables e below (T51.setTop (mkF m 14 #[.val (.int p0), .val (.ref b4), .val (.int (17 : Int32)), .val (.int (12 : Int32)), .val (.ref wAPI_VERSIONS)] [])) _
                            refine XS.aloadN X51.here hx rfl (hb hby d2_14) rfl rfl ?_
                            show Steps p.tables e below (T51.setTop (mkF m 15 #[.val (.int p0), .val (.ref b4), .val (.int (17 : Int32)), .val (.int (12 : Int32)), .val (.ref wAPI_VERSIONS)] [(.ref b4)])) _
                            refine XS.iloadN X51.here hx rfl (hb hby d2_15) rfl ?_
                            show Steps p.tables e below (T51.setTop (mkF m 16 #[.val (.int p0), .val (.ref b4), .val (.int (17 : Int32)), .val (.int (12 : Int32)), .val (.ref wAPI_VERSIONS)] [(.int (12 : Int32)), (.ref b4)])) _
                            refine X51.aaload hx (j := (12 : Int32)) (v := (.ref wINIT_PRODUCER_ID)) (by rw [e51]; exact Ara54.1) (State.isArrayOf_alike hZ.alike Ara54.2.1) rfl Ara54.2.2 hina54 (Ha54.at hina54 rfl) (g := (mkF m 16 #[.val (.int p0), .val (.ref b4), .val (.int (17 : Int32)), .val (.int (12 : Int32)), .val (.ref wAPI_VERSIONS)] [(.int (12 : Int32)), (.ref b4)])) rfl rfl (hb hby d2_16) _ ?_
                            show Steps p.tables e below (T51.setTop (mkF m 17 #[.val (.int p0), .val (.ref b4), .val (.int (17 : Int32)), .val (.int (12 : Int32)), .val (.ref wAPI_VERSIONS)] [(.ref wINIT_PRODUCER_ID)])) _
                            refine XS.astore X51.here hx rfl (hb hby d2_17) rfl rfl (l' := #[.val (.int p0), .val (.ref b4), .val (.int (17 : Int32)), .val (.int (12 : Int32)), .val (.ref wINIT_PRODUCER_ID)]) rfl ?_
                            show Steps p.tables e below (T51.setTop (mkF m 19 #[.val (.int p0), .val (.ref b4), .val (.int (17 : Int32)), .val (.int (12 : Int32)), .val (.ref wINIT_PRODUCER_ID)] [])) _
                            refine XS.aload X51.here hx rfl (hb hby d2_19) rfl rfl ?_
                            show Steps p.tables e below (T51.setTop (mkF m 21 #[.val (.int p0), .val (.ref b4), .val (.int (17 : Int32)), .val (.int (12 : Int32)), .val (.ref wINIT_PRODUCER_ID)] [(.ref wINIT_PRODUCER_ID)])) _
                            refine st55 _ ?_
                            show Steps p.tables e below (T55.setTop (mkF m 24 #[.val (.int p0), .val (.ref b4), .val (.int (17 : Int32)), .val (.int (12 : Int32)), .val (.ref wINIT_PRODUCER_ID)] [(.int (22 : Int32))])) _
                            refine XS.iloadN X55.here hx rfl (hb hby d2_24) rfl ?_
                            exact kt)
                          by_cases hc57 : (22 : Int32) = p0
                          · obtain ⟨fs, hr, hrun, hended, hW, hsame⟩ := X55.leave (v := some (.ref wINIT_PRODUCER_ID)) (fun h => by rw [Bd.returns] at h; cases h)
                            refine ⟨_, _, k56 _ ?_, hrun, hended, _, _, rfl, ?_, ⟨_, rfl⟩, hW, hsame.mono (by decide) (by decide)⟩
                            · show Steps p.tables e below (T55.setTop (mkF m 25 #[.val (.int p0), .val (.ref b4), .val (.int (17 : Int32)), .val (.int (12 : Int32)), .val (.ref wINIT_PRODUCER_ID)] [(.int p0), (.int (22 : Int32))])) _
                              refine XS.icmpNo X55.here hx rfl (hb hby d2_25) rfl (teq (hc57 : (22 : Int32) = p0)).2 ?_
                              show Steps p.tables e below (T55.setTop (mkF m 28 #[.val (.int p0), .val (.ref b4), .val (.int (17 : Int32)), .val (.int (12 : Int32)), .val (.ref wINIT_PRODUCER_ID)] [])) _
                              refine XS.aload X55.here hx rfl (hb hby d2_28) rfl rfl ?_
                              show Steps p.tables e below (T55.setTop (mkF m 30 #[.val (.int p0), .val (.ref b4), .val (.int (17 : Int32)), .val (.int (12 : Int32)), .val (.ref wINIT_PRODUCER_ID)] [(.ref wINIT_PRODUCER_ID)])) _
                              exact own_retA X55 hx Bd.returns rfl rfl (hb hby d2_30) hr
                            · show Q2 Z p0 w_VALUES wPRODUCE wFETCH wLIST_OFFSETS wMETADATA wOFFSET_COMMIT wOFFSET_FETCH wFIND_COORDINATOR wJOIN_GROUP wHEARTBEAT wLEAVE_GROUP wSYNC_GROUP wAPI_VERSIONS wINIT_PRODUCER_ID wADD_PARTITIONS_TO_TXN wADD_OFFSETS_TO_TXN wEND_TXN wTXN_OFFSET_COMMIT k_VALUES h0 n0 _ T55.heap _
                              rw [e55]
                              exact ⟨by rw [f2, if_neg hc9, if_neg hc13, if_neg hc17, if_neg hc21, if_neg hc25, if_neg hc29, if_neg hc33, if_neg hc37, if_neg hc41, if_neg hc45, if_neg hc49, if_neg hc53, if_pos hc57], N4, EX4⟩
                          · obtain ⟨cla58, Ara58, qa58, Sa58, Na58, Ha58, Ga58⟩ := And.left ⟨V4, trivial⟩
                            have hina58 : ¬ ((13 : Int32) < 0 ∨ cla58.slots.size ≤ ((13 : Int32)).toNatClampNeg) := inb_of Sa58 ⟨by decide, by decide⟩
                            obtain ⟨T59, X59, e59, st59⟩ := getF X55 hx hZ hown (host := "") (Or.inl (hw _ (List.mem_of_getElem? (i := 36) rfl))) Via.refl e55 (FADD_PARTITIONS_TO_TXN_key.ext EX4) (g := (mkF m 21 #[.val (.int p0), .val (.ref b4), .val (.int (17 : Int32)), .val (.int (13 : Int32)), .val (.ref wADD_PARTITIONS_TO_TXN)] [(.ref wADD_PARTITIONS_TO_TXN)])) rfl rfl (hb hby d2_21)
                            have k60 : ∀ t, Steps p.tables e below (T59.setTop (mkF m 25 #[.val (.int p0), .val (.ref b4), .val (.int (17 : Int32)), .val (.int (13 : Int32)), .val (.ref wADD_PARTITIONS_TO_TXN)] [(.int p0), (.int (24 : Int32))])) t → Steps p.tables e below (s₁.setTop (entryFrame m #[(.int p0)] 5)) t := fun t kt => k56 t (by
                              show Steps p.tables e below (T55.setTop (mkF m 25 #[.val (.int p0), .val (.ref b4), .val (.int (17 : Int32)), .val (.int (12 : Int32)), .val (.ref wINIT_PRODUCER_ID)] [(.int p0), (.int (22 : Int32))])) _
                              refine XS.icmpYes X55.here hx rfl (pc0 := 25) (pc' := 31) rfl (hb hby d2_25) rfl (feq (hc57 : ¬ ((22 : Int32) = p0))).2 (by decide) (by decide) ?_
                              show Steps p.tables e below (T55.setTop (mkF m 31 #[.val (.int p0), .val (.ref b4), .val (.int (17 : Int32)), .val (.int (12 : Int32)), .val (.ref wINIT_PRODUCER_ID)] [])) _
                              refine XS.iinc X55.here hx rfl (hb hby d2_31) rfl (l' := #[.val (.int p0), .val (.ref b4), .val (.int (17 : Int32)), .val (.int (13 : Int32)), .val (.ref wINIT_PRODUCER_ID)]) rfl ?_
                              show Steps p.tables e below (T55.setTop (mkF m 34 #[.val (.int p0), .val (.ref b4), .val (.int (17 : Int32)), .val (.int (13 : Int32)), .val (.ref wINIT_PRODUCER_ID)] [])) _
                              refine XS.goto X55.here hx rfl (pc0 := 34) (pc' := 9) rfl (hb hby d2_34) (by decide) (by decide) ?_
                              show Steps p.tables e below (T55.setTop (mkF m 9 #[.val (.int p0), .val (.ref b4), .val (.int (17 : Int32)), .val (.int (13 : Int32)), .val (.ref wINIT_PRODUCER_ID)] [])) _
                              refine XS.iloadN X55.here hx rfl (hb hby d2_9) rfl ?_
                              show Steps p.tables e below (T55.setTop (mkF m 10 #[.val (.int p0), .val (.ref b4), .val (.int (17 : Int32)), .val (.int (13 : Int32)), .val (.ref wINIT_PRODUCER_ID)] [(.int (13 : Int32))])) _
                              refine XS.iloadN X55.here hx rfl (hb hby d2_10) rfl ?_
                              show Steps p.tables e below (T55.setTop (mkF m 11 #[.val (.int p0), .val (.ref b4), .val (.int (17 : Int32)), .val (.int (13 : Int32)), .val (.ref wINIT_PRODUCER_ID)] [(.int (17 : Int32)), (.int (13 : Int32))])) _
                              refine XS.icmpNo X55.here hx rfl (hb hby d2_11) rfl (tlt ((by decide) : (13 : Int32) < (17 : Int32))).2.1 ?_
                              show Steps p.tables e below (T55.setTop (mkF m 14 #[.val (.int p0), .val (.ref b4), .val (.int (17 : Int32)), .val (.int (13 : Int32)), .val (.ref wINIT_PRODUCER_ID)] [])) _
                              refine XS.aloadN X55.here hx rfl (hb hby d2_14) rfl rfl ?_
                              show Steps p.tables e below (T55.setTop (mkF m 15 #[.val (.int p0), .val (.ref b4), .val (.int (17 : Int32)), .val (.int (13 : Int32)), .val (.ref wINIT_PRODUCER_ID)] [(.ref b4)])) _
                              refine XS.iloadN X55.here hx rfl (hb hby d2_15) rfl ?_
                              show Steps p.tables e below (T55.setTop (mkF m 16 #[.val (.int p0), .val (.ref b4), .val (.int (17 : Int32)), .val (.int (13 : Int32)), .val (.ref wINIT_PRODUCER_ID)] [(.int (13 : Int32)), (.ref b4)])) _
                              refine X55.aaload hx (j := (13 : Int32)) (v := (.ref wADD_PARTITIONS_TO_TXN)) (by rw [e55]; exact Ara58.1) (State.isArrayOf_alike hZ.alike Ara58.2.1) rfl Ara58.2.2 hina58 (Ha58.at hina58 rfl) (g := (mkF m 16 #[.val (.int p0), .val (.ref b4), .val (.int (17 : Int32)), .val (.int (13 : Int32)), .val (.ref wINIT_PRODUCER_ID)] [(.int (13 : Int32)), (.ref b4)])) rfl rfl (hb hby d2_16) _ ?_
                              show Steps p.tables e below (T55.setTop (mkF m 17 #[.val (.int p0), .val (.ref b4), .val (.int (17 : Int32)), .val (.int (13 : Int32)), .val (.ref wINIT_PRODUCER_ID)] [(.ref wADD_PARTITIONS_TO_TXN)])) _
                              refine XS.astore X55.here hx rfl (hb hby d2_17) rfl rfl (l' := #[.val (.int p0), .val (.ref b4), .val (.int (17 : Int32)), .val (.int (13 : Int32)), .val (.ref wADD_PARTITIONS_TO_TXN)]) rfl ?_
                              show Steps p.tables e below (T55.setTop (mkF m 19 #[.val (.int p0), .val (.ref b4), .val (.int (17 : Int32)), .val (.int (13 : Int32)), .val (.ref wADD_PARTITIONS_TO_TXN)] [])) _
                              refine XS.aload X55.here hx rfl (hb hby d2_19) rfl rfl ?_
                              show Steps p.tables e below (T55.setTop (mkF m 21 #[.val (.int p0), .val (.ref b4), .val (.int (17 : Int32)), .val (.int (13 : Int32)), .val (.ref wADD_PARTITIONS_TO_TXN)] [(.ref wADD_PARTITIONS_TO_TXN)])) _
                              refine st59 _ ?_
                              show Steps p.tables e below (T59.setTop (mkF m 24 #[.val (.int p0), .val (.ref b4), .val (.int (17 : Int32)), .val (.int (13 : Int32)), .val (.ref wADD_PARTITIONS_TO_TXN)] [(.int (24 : Int32))])) _
                              refine XS.iloadN X59.here hx rfl (hb hby d2_24) rfl ?_
                              exact kt)
                            by_cases hc61 : (24 : Int32) = p0
                            · obtain ⟨fs, hr, hrun, hended, hW, hsame⟩ := X59.leave (v := some (.ref wADD_PARTITIONS_TO_TXN)) (fun h => by rw [Bd.returns] at h; cases h)
                              refine ⟨_, _, k60 _ ?_, hrun, hended, _, _, rfl, ?_, ⟨_, rfl⟩, hW, hsame.mono (by decide) (by decide)⟩
                              · show Steps p.tables e below (T59.setTop (mkF m 25 #[.val (.int p0), .val (.ref b4), .val (.int (17 : Int32)), .val (.int (13 : Int32)), .val (.ref wADD_PARTITIONS_TO_TXN)] [(.int p0), (.int (24 : Int32))])) _
                                refine XS.icmpNo X59.here hx rfl (hb hby d2_25) rfl (teq (hc61 : (24 : Int32) = p0)).2 ?_
                                show Steps p.tables e below (T59.setTop (mkF m 28 #[.val (.int p0), .val (.ref b4), .val (.int (17 : Int32)), .val (.int (13 : Int32)), .val (.ref wADD_PARTITIONS_TO_TXN)] [])) _
                                refine XS.aload X59.here hx rfl (hb hby d2_28) rfl rfl ?_
                                show Steps p.tables e below (T59.setTop (mkF m 30 #[.val (.int p0), .val (.ref b4), .val (.int (17 : Int32)), .val (.int (13 : Int32)), .val (.ref wADD_PARTITIONS_TO_TXN)] [(.ref wADD_PARTITIONS_TO_TXN)])) _
                                exact own_retA X59 hx Bd.returns rfl rfl (hb hby d2_30) hr
                              · show Q2 Z p0 w_VALUES wPRODUCE wFETCH wLIST_OFFSETS wMETADATA wOFFSET_COMMIT wOFFSET_FETCH wFIND_COORDINATOR wJOIN_GROUP wHEARTBEAT wLEAVE_GROUP wSYNC_GROUP wAPI_VERSIONS wINIT_PRODUCER_ID wADD_PARTITIONS_TO_TXN wADD_OFFSETS_TO_TXN wEND_TXN wTXN_OFFSET_COMMIT k_VALUES h0 n0 _ T59.heap _
                                rw [e59]
                                exact ⟨by rw [f2, if_neg hc9, if_neg hc13, if_neg hc17, if_neg hc21, if_neg hc25, if_neg hc29, if_neg hc33, if_neg hc37, if_neg hc41, if_neg hc45, if_neg hc49, if_neg hc53, if_neg hc57, if_pos hc61], N4, EX4⟩
                            · obtain ⟨cla62, Ara62, qa62, Sa62, Na62, Ha62, Ga62⟩ := And.left ⟨V4, trivial⟩
                              have hina62 : ¬ ((14 : Int32) < 0 ∨ cla62.slots.size ≤ ((14 : Int32)).toNatClampNeg) := inb_of Sa62 ⟨by decide, by decide⟩
                              obtain ⟨T63, X63, e63, st63⟩ := getF X59 hx hZ hown (host := "") (Or.inl (hw _ (List.mem_of_getElem? (i := 36) rfl))) Via.refl e59 (FADD_OFFSETS_TO_TXN_key.ext EX4) (g := (mkF m 21 #[.val (.int p0), .val (.ref b4), .val (.int (17 : Int32)), .val (.int (14 : Int32)), .val (.ref wADD_OFFSETS_TO_TXN)] [(.ref wADD_OFFSETS_TO_TXN)])) rfl rfl (hb hby d2_21)
                              have k64 : ∀ t, Steps p.tables e below (T63.setTop (mkF m 25 #[.val (.int p0), .val (.ref b4), .val (.int (17 : Int32)), .val (.int (14 : Int32)), .val (.ref wADD_OFFSETS_TO_TXN)] [(.int p0), (.int (25 : Int32))])) t → Steps p.tables e below (s₁.setTop (entryFrame m #[(.int p0)] 5)) t := fun t kt => k60 t (by
                                show Steps p.tables e below (T59.setTop (mkF m 25 #[.val (.int p0), .val (.ref b4), .val (.int (17 : Int32)), .val (.int (13 : Int32)), .val (.ref wADD_PARTITIONS_TO_TXN)] [(.int p0), (.int (24 : Int32))])) _
                                refine XS.icmpYes X59.here hx rfl (pc0 := 25) (pc' := 31) rfl (hb hby d2_25) rfl (feq (hc61 : ¬ ((24 : Int32) = p0))).2 (by decide) (by decide) ?_
                                show Steps p.tables e below (T59.setTop (mkF m 31 #[.val (.int p0), .val (.ref b4), .val (.int (17 : Int32)), .val (.int (13 : Int32)), .val (.ref wADD_PARTITIONS_TO_TXN)] [])) _
                                refine XS.iinc X59.here hx rfl (hb hby d2_31) rfl (l' := #[.val (.int p0), .val (.ref b4), .val (.int (17 : Int32)), .val (.int (14 : Int32)), .val (.ref wADD_PARTITIONS_TO_TXN)]) rfl ?_
                                show Steps p.tables e below (T59.setTop (mkF m 34 #[.val (.int p0), .val (.ref b4), .val (.int (17 : Int32)), .val (.int (14 : Int32)), .val (.ref wADD_PARTITIONS_TO_TXN)] [])) _
                                refine XS.goto X59.here hx rfl (pc0 := 34) (pc' := 9) rfl (hb hby d2_34) (by decide) (by decide) ?_
                                show Steps p.tables e below (T59.setTop (mkF m 9 #[.val (.int p0), .val (.ref b4), .val (.int (17 : Int32)), .val (.int (14 : Int32)), .val (.ref wADD_PARTITIONS_TO_TXN)] [])) _
                                refine XS.iloadN X59.here hx rfl (hb hby d2_9) rfl ?_
                                show Steps p.tables e below (T59.setTop (mkF m 10 #[.val (.int p0), .val (.ref b4), .val (.int (17 : Int32)), .val (.int (14 : Int32)), .val (.ref wADD_PARTITIONS_TO_TXN)] [(.int (14 : Int32))])) _
                                refine XS.iloadN X59.here hx rfl (hb hby d2_10) rfl ?_
                                show Steps p.tables e below (T59.setTop (mkF m 11 #[.val (.int p0), .val (.ref b4), .val (.int (17 : Int32)), .val (.int (14 : Int32)), .val (.ref wADD_PARTITIONS_TO_TXN)] [(.int (17 : Int32)), (.int (14 : Int32))])) _
                                refine XS.icmpNo X59.here hx rfl (hb hby d2_11) rfl (tlt ((by decide) : (14 : Int32) < (17 : Int32))).2.1 ?_
                                show Steps p.tables e below (T59.setTop (mkF m 14 #[.val (.int p0), .val (.ref b4), .val (.int (17 : Int32)), .val (.int (14 : Int32)), .val (.ref wADD_PARTITIONS_TO_TXN)] [])) _
                                refine XS.aloadN X59.here hx rfl (hb hby d2_14) rfl rfl ?_
                                show Steps p.tables e below (T59.setTop (mkF m 15 #[.val (.int p0), .val (.ref b4), .val (.int (17 : Int32)), .val (.int (14 : Int32)), .val (.ref wADD_PARTITIONS_TO_TXN)] [(.ref b4)])) _
                                refine XS.iloadN X59.here hx rfl (hb hby d2_15) rfl ?_
                                show Steps p.tables e below (T59.setTop (mkF m 16 #[.val (.int p0), .val (.ref b4), .val (.int (17 : Int32)), .val (.int (14 : Int32)), .val (.ref wADD_PARTITIONS_TO_TXN)] [(.int (14 : Int32)), (.ref b4)])) _
                                refine X59.aaload hx (j := (14 : Int32)) (v := (.ref wADD_OFFSETS_TO_TXN)) (by rw [e59]; exact Ara62.1) (State.isArrayOf_alike hZ.alike Ara62.2.1) rfl Ara62.2.2 hina62 (Ha62.at hina62 rfl) (g := (mkF m 16 #[.val (.int p0), .val (.ref b4), .val (.int (17 : Int32)), .val (.int (14 : Int32)), .val (.ref wADD_PARTITIONS_TO_TXN)] [(.int (14 : Int32)), (.ref b4)])) rfl rfl (hb hby d2_16) _ ?_
                                show Steps p.tables e below (T59.setTop (mkF m 17 #[.val (.int p0), .val (.ref b4), .val (.int (17 : Int32)), .val (.int (14 : Int32)), .val (.ref wADD_PARTITIONS_TO_TXN)] [(.ref wADD_OFFSETS_TO_TXN)])) _
                                refine XS.astore X59.here hx rfl (hb hby d2_17) rfl rfl (l' := #[.val (.int p0), .val (.ref b4), .val (.int (17 : Int32)), .val (.int (14 : Int32)), .val (.ref wADD_OFFSETS_TO_TXN)]) rfl ?_
                                show Steps p.tables e below (T59.setTop (mkF m 19 #[.val (.int p0), .val (.ref b4), .val (.int (17 : Int32)), .val (.int (14 : Int32)), .val (.ref wADD_OFFSETS_TO_TXN)] [])) _
                                refine XS.aload X59.here hx rfl (hb hby d2_19) rfl rfl ?_
                                show Steps p.tables e below (T59.setTop (mkF m 21 #[.val (.int p0), .val (.ref b4), .val (.int (17 : Int32)), .val (.int (14 : Int32)), .val (.ref wADD_OFFSETS_TO_TXN)] [(.ref wADD_OFFSETS_TO_TXN)])) _
                                refine st63 _ ?_
                                show Steps p.tables e below (T63.setTop (mkF m 24 #[.val (.int p0), .val (.ref b4), .val (.int (17 : Int32)), .val (.int (14 : Int32)), .val (.ref wADD_OFFSETS_TO_TXN)] [(.int (25 : Int32))])) _
                                refine XS.iloadN X63.here hx rfl (hb hby d2_24) rfl ?_
                                exact kt)
                              by_cases hc65 : (25 : Int32) = p0
                              · obtain ⟨fs, hr, hrun, hended, hW, hsame⟩ := X63.leave (v := some (.ref wADD_OFFSETS_TO_TXN)) (fun h => by rw [Bd.returns] at h; cases h)
                                refine ⟨_, _, k64 _ ?_, hrun, hended, _, _, rfl, ?_, ⟨_, rfl⟩, hW, hsame.mono (by decide) (by decide)⟩
                                · show Steps p.tables e below (T63.setTop (mkF m 25 #[.val (.int p0), .val (.ref b4), .val (.int (17 : Int32)), .val (.int (14 : Int32)), .val (.ref wADD_OFFSETS_TO_TXN)] [(.int p0), (.int (25 : Int32))])) _
                                  refine XS.icmpNo X63.here hx rfl (hb hby d2_25) rfl (teq (hc65 : (25 : Int32) = p0)).2 ?_
                                  show Steps p.tables e below (T63.setTop (mkF m 28 #[.val (.int p0), .val (.ref b4), .val (.int (17 : Int32)), .val (.int (14 : Int32)), .val (.ref wADD_OFFSETS_TO_TXN)] [])) _
                                  refine XS.aload X63.here hx rfl (hb hby d2_28) rfl rfl ?_
                                  show Steps p.tables e below (T63.setTop (mkF m 30 #[.val (.int p0), .val (.ref b4), .val (.int (17 : Int32)), .val (.int (14 : Int32)), .val (.ref wADD_OFFSETS_TO_TXN)] [(.ref wADD_OFFSETS_TO_TXN)])) _
                                  exact own_retA X63 hx Bd.returns rfl rfl (hb hby d2_30) hr
                                · show Q2 Z p0 w_VALUES wPRODUCE wFETCH wLIST_OFFSETS wMETADATA wOFFSET_COMMIT wOFFSET_FETCH wFIND_COORDINATOR wJOIN_GROUP wHEARTBEAT wLEAVE_GROUP wSYNC_GROUP wAPI_VERSIONS wINIT_PRODUCER_ID wADD_PARTITIONS_TO_TXN wADD_OFFSETS_TO_TXN wEND_TXN wTXN_OFFSET_COMMIT k_VALUES h0 n0 _ T63.heap _
                                  rw [e63]
                                  exact ⟨by rw [f2, if_neg hc9, if_neg hc13, if_neg hc17, if_neg hc21, if_neg hc25, if_neg hc29, if_neg hc33, if_neg hc37, if_neg hc41, if_neg hc45, if_neg hc49, if_neg hc53, if_neg hc57, if_neg hc61, if_pos hc65], N4, EX4⟩
                              · obtain ⟨cla66, Ara66, qa66, Sa66, Na66, Ha66, Ga66⟩ := And.left ⟨V4, trivial⟩
                                have hina66 : ¬ ((15 : Int32) < 0 ∨ cla66.slots.size ≤ ((15 : Int32)).toNatClampNeg) := inb_of Sa66 ⟨by decide, by decide⟩
                                obtain ⟨T67, X67, e67, st67⟩ := getF X63 hx hZ hown (host := "") (Or.inl (hw _ (List.mem_of_getElem? (i := 36) rfl))) Via.refl e63 (FEND_TXN_key.ext EX4) (g := (mkF m 21 #[.val (.int p0), .val (.ref b4), .val (.int (17 : Int32)), .val (.int (15 : Int32)), .val (.ref wEND_TXN)] [(.ref wEND_TXN)])) rfl rfl (hb hby d2_21)
                                have k68 : ∀ t, Steps p.tables e below (T67.setTop (mkF m 25 #[.val (.int p0), .val (.ref b4), .val (.int (17 : Int32)), .val (.int (15 : Int32)), .val (.ref wEND_TXN)] [(.int p0), (.int (26 : Int32))])) t → Steps p.tables e below (s₁.setTop (entryFrame m #[(.int p0)] 5)) t := fun t kt => k64 t (by
                                  show Steps p.tables e below (T63.setTop (mkF m 25 #[.val (.int p0), .val (.ref b4), .val (.int (17 : Int32)), .val (.int (14 : Int32)), .val (.ref wADD_OFFSETS_TO_TXN)] [(.int p0), (.int (25 : Int32))])) _
                                  refine XS.icmpYes X63.here hx rfl (pc0 := 25) (pc' := 31) rfl (hb hby d2_25) rfl (feq (hc65 : ¬ ((25 : Int32) = p0))).2 (by decide) (by decide) ?_
                                  show Steps p.tables e below (T63.setTop (mkF m 31 #[.val (.int p0), .val (.ref b4), .val (.int (17 : Int32)), .val (.int (14 : Int32)), .val (.ref wADD_OFFSETS_TO_TXN)] [])) _
                                  refine XS.iinc X63.here hx rfl (hb hby d2_31) rfl (l' := #[.val (.int p0), .val (.ref b4), .val (.int (17 : Int32)), .val (.int (15 : Int32)), .val (.ref wADD_OFFSETS_TO_TXN)]) rfl ?_
                                  show Steps p.tables e below (T63.setTop (mkF m 34 #[.val (.int p0), .val (.ref b4), .val (.int (17 : Int32)), .val (.int (15 : Int32)), .val (.ref wADD_OFFSETS_TO_TXN)] [])) _
                                  refine XS.goto X63.here hx rfl (pc0 := 34) (pc' := 9) rfl (hb hby d2_34) (by decide) (by decide) ?_
                                  show Steps p.tables e below (T63.setTop (mkF m 9 #[.val (.int p0), .val (.ref b4), .val (.int (17 : Int32)), .val (.int (15 : Int32)), .val (.ref wADD_OFFSETS_TO_TXN)] [])) _
                                  refine XS.iloadN X63.here hx rfl (hb hby d2_9) rfl ?_
                                  show Steps p.tables e below (T63.setTop (mkF m 10 #[.val (.int p0), .val (.ref b4), .val (.int (17 : Int32)), .val (.int (15 : Int32)), .val (.ref wADD_OFFSETS_TO_TXN)] [(.int (15 : Int32))])) _
                                  refine XS.iloadN X63.here hx rfl (hb hby d2_10) rfl ?_
                                  show Steps p.tables e below (T63.setTop (mkF m 11 #[.val (.int p0), .val (.ref b4), .val (.int (17 : Int32)), .val (.int (15 : Int32)), .val (.ref wADD_OFFSETS_TO_TXN)] [(.int (17 : Int32)), (.int (15 : Int32))])) _
                                  refine XS.icmpNo X63.here hx rfl (hb hby d2_11) rfl (tlt ((by decide) : (15 : Int32) < (17 : Int32))).2.1 ?_
                                  show Steps p.tables e below (T63.setTop (mkF m 14 #[.val (.int p0), .val (.ref b4), .val (.int (17 : Int32)), .val (.int (15 : Int32)), .val (.ref wADD_OFFSETS_TO_TXN)] [])) _
                                  refine XS.aloadN X63.here hx rfl (hb hby d2_14) rfl rfl ?_
                                  show Steps p.tables e below (T63.setTop (mkF m 15 #[.val (.int p0), .val (.ref b4), .val (.int (17 : Int32)), .val (.int (15 : Int32)), .val (.ref wADD_OFFSETS_TO_TXN)] [(.ref b4)])) _
                                  refine XS.iloadN X63.here hx rfl (hb hby d2_15) rfl ?_
                                  show Steps p.tables e below (T63.setTop (mkF m 16 #[.val (.int p0), .val (.ref b4), .val (.int (17 : Int32)), .val (.int (15 : Int32)), .val (.ref wADD_OFFSETS_TO_TXN)] [(.int (15 : Int32)), (.ref b4)])) _
                                  refine X63.aaload hx (j := (15 : Int32)) (v := (.ref wEND_TXN)) (by rw [e63]; exact Ara66.1) (State.isArrayOf_alike hZ.alike Ara66.2.1) rfl Ara66.2.2 hina66 (Ha66.at hina66 rfl) (g := (mkF m 16 #[.val (.int p0), .val (.ref b4), .val (.int (17 : Int32)), .val (.int (15 : Int32)), .val (.ref wADD_OFFSETS_TO_TXN)] [(.int (15 : Int32)), (.ref b4)])) rfl rfl (hb hby d2_16) _ ?_
                                  show Steps p.tables e below (T63.setTop (mkF m 17 #[.val (.int p0), .val (.ref b4), .val (.int (17 : Int32)), .val (.int (15 : Int32)), .val (.ref wADD_OFFSETS_TO_TXN)] [(.ref wEND_TXN)])) _
                                  refine XS.astore X63.here hx rfl (hb hby d2_17) rfl rfl (l' := #[.val (.int p0), .val (.ref b4), .val (.int (17 : Int32)), .val (.int (15 : Int32)), .val (.ref wEND_TXN)]) rfl ?_
                                  show Steps p.tables e below (T63.setTop (mkF m 19 #[.val (.int p0), .val (.ref b4), .val (.int (17 : Int32)), .val (.int (15 : Int32)), .val (.ref wEND_TXN)] [])) _
                                  refine XS.aload X63.here hx rfl (hb hby d2_19) rfl rfl ?_
                                  show Steps p.tables e below (T63.setTop (mkF m 21 #[.val (.int p0), .val (.ref b4), .val (.int (17 : Int32)), .val (.int (15 : Int32)), .val (.ref wEND_TXN)] [(.ref wEND_TXN)])) _
                                  refine st67 _ ?_
                                  show Steps p.tables e below (T67.setTop (mkF m 24 #[.val (.int p0), .val (.ref b4), .val (.int (17 : Int32)), .val (.int (15 : Int32)), .val (.ref wEND_TXN)] [(.int (26 : Int32))])) _
                                  refine XS.iloadN X67.here hx rfl (hb hby d2_24) rfl ?_
                                  exact kt)
                                by_cases hc69 : (26 : Int32) = p0
                                · obtain ⟨fs, hr, hrun, hended, hW, hsame⟩ := X67.leave (v := some (.ref wEND_TXN)) (fun h => by rw [Bd.returns] at h; cases h)
                                  refine ⟨_, _, k68 _ ?_, hrun, hended, _, _, rfl, ?_, ⟨_, rfl⟩, hW, hsame.mono (by decide) (by decide)⟩
                                  · show Steps p.tables e below (T67.setTop (mkF m 25 #[.val (.int p0), .val (.ref b4), .val (.int (17 : Int32)), .val (.int (15 : Int32)), .val (.ref wEND_TXN)] [(.int p0), (.int (26 : Int32))])) _
                                    refine XS.icmpNo X67.here hx rfl (hb hby d2_25) rfl (teq (hc69 : (26 : Int32) = p0)).2 ?_
                                    show Steps p.tables e below (T67.setTop (mkF m 28 #[.val (.int p0), .val (.ref b4), .val (.int (17 : Int32)), .val (.int (15 : Int32)), .val (.ref wEND_TXN)] [])) _
                                    refine XS.aload X67.here hx rfl (hb hby d2_28) rfl rfl ?_
                                    show Steps p.tables e below (T67.setTop (mkF m 30 #[.val (.int p0), .val (.ref b4), .val (.int (17 : Int32)), .val (.int (15 : Int32)), .val (.ref wEND_TXN)] [(.ref wEND_TXN)])) _
                                    exact own_retA X67 hx Bd.returns rfl rfl (hb hby d2_30) hr
                                  · show Q2 Z p0 w_VALUES wPRODUCE wFETCH wLIST_OFFSETS wMETADATA wOFFSET_COMMIT wOFFSET_FETCH wFIND_COORDINATOR wJOIN_GROUP wHEARTBEAT wLEAVE_GROUP wSYNC_GROUP wAPI_VERSIONS wINIT_PRODUCER_ID wADD_PARTITIONS_TO_TXN wADD_OFFSETS_TO_TXN wEND_TXN wTXN_OFFSET_COMMIT k_VALUES h0 n0 _ T67.heap _
                                    rw [e67]
                                    exact ⟨by rw [f2, if_neg hc9, if_neg hc13, if_neg hc17, if_neg hc21, if_neg hc25, if_neg hc29, if_neg hc33, if_neg hc37, if_neg hc41, if_neg hc45, if_neg hc49, if_neg hc53, if_neg hc57, if_neg hc61, if_neg hc65, if_pos hc69], N4, EX4⟩
                                · obtain ⟨cla70, Ara70, qa70, Sa70, Na70, Ha70, Ga70⟩ := And.left ⟨V4, trivial⟩
                                  have hina70 : ¬ ((16 : Int32) < 0 ∨ cla70.slots.size ≤ ((16 : Int32)).toNatClampNeg) := inb_of Sa70 ⟨by decide, by decide⟩
                                  obtain ⟨T71, X71, e71, st71⟩ := getF X67 hx hZ hown (host := "") (Or.inl (hw _ (List.mem_of_getElem? (i := 36) rfl))) Via.refl e67 (FTXN_OFFSET_COMMIT_key.ext EX4) (g := (mkF m 21 #[.val (.int p0), .val (.ref b4), .val (.int (17 : Int32)), .val (.int (16 : Int32)), .val (.ref wTXN_OFFSET_COMMIT)] [(.ref wTXN_OFFSET_COMMIT)])) rfl rfl (hb hby d2_21)
                                  have k72 : ∀ t, Steps p.tables e below (T71.setTop (mkF m 25 #[.val (.int p0), .val (.ref b4), .val (.int (17 : Int32)), .val (.int (16 : Int32)), .val (.ref wTXN_OFFSET_COMMIT)] [(.int p0), (.int (28 : Int32))])) t → Steps p.tables e below (s₁.setTop (entryFrame m #[(.int p0)] 5)) t := fun t kt => k68 t (by
                                    show Steps p.tables e below (T67.setTop (mkF m 25 #[.val (.int p0), .val (.ref b4), .val (.int (17 : Int32)), .val (.int (15 : Int32)), .val (.ref wEND_TXN)] [(.int p0), (.int (26 : Int32))])) _
                                    refine XS.icmpYes X67.here hx rfl (pc0 := 25) (pc' := 31) rfl (hb hby d2_25) rfl (feq (hc69 : ¬ ((26 : Int32) = p0))).2 (by decide) (by decide) ?_
                                    show Steps p.tables e below (T67.setTop (mkF m 31 #[.val (.int p0), .val (.ref b4), .val (.int (17 : Int32)), .val (.int (15 : Int32)), .val (.ref wEND_TXN)] [])) _
                                    refine XS.iinc X67.here hx rfl (hb hby d2_31) rfl (l' := #[.val (.int p0), .val (.ref b4), .val (.int (17 : Int32)), .val (.int (16 : Int32)), .val (.ref wEND_TXN)]) rfl ?_
                                    show Steps p.tables e below (T67.setTop (mkF m 34 #[.val (.int p0), .val (.ref b4), .val (.int (17 : Int32)), .val (.int (16 : Int32)), .val (.ref wEND_TXN)] [])) _
                                    refine XS.goto X67.here hx rfl (pc0 := 34) (pc' := 9) rfl (hb hby d2_34) (by decide) (by decide) ?_
                                    show Steps p.tables e below (T67.setTop (mkF m 9 #[.val (.int p0), .val (.ref b4), .val (.int (17 : Int32)), .val (.int (16 : Int32)), .val (.ref wEND_TXN)] [])) _
                                    refine XS.iloadN X67.here hx rfl (hb hby d2_9) rfl ?_
                                    show Steps p.tables e below (T67.setTop (mkF m 10 #[.val (.int p0), .val (.ref b4), .val (.int (17 : Int32)), .val (.int (16 : Int32)), .val (.ref wEND_TXN)] [(.int (16 : Int32))])) _
                                    refine XS.iloadN X67.here hx rfl (hb hby d2_10) rfl ?_
                                    show Steps p.tables e below (T67.setTop (mkF m 11 #[.val (.int p0), .val (.ref b4), .val (.int (17 : Int32)), .val (.int (16 : Int32)), .val (.ref wEND_TXN)] [(.int (17 : Int32)), (.int (16 : Int32))])) _
                                    refine XS.icmpNo X67.here hx rfl (hb hby d2_11) rfl (tlt ((by decide) : (16 : Int32) < (17 : Int32))).2.1 ?_
                                    show Steps p.tables e below (T67.setTop (mkF m 14 #[.val (.int p0), .val (.ref b4), .val (.int (17 : Int32)), .val (.int (16 : Int32)), .val (.ref wEND_TXN)] [])) _
                                    refine XS.aloadN X67.here hx rfl (hb hby d2_14) rfl rfl ?_
                                    show Steps p.tables e below (T67.setTop (mkF m 15 #[.val (.int p0), .val (.ref b4), .val (.int (17 : Int32)), .val (.int (16 : Int32)), .val (.ref wEND_TXN)] [(.ref b4)])) _
                                    refine XS.iloadN X67.here hx rfl (hb hby d2_15) rfl ?_
                                    show Steps p.tables e below (T67.setTop (mkF m 16 #[.val (.int p0), .val (.ref b4), .val (.int (17 : Int32)), .val (.int (16 : Int32)), .val (.ref wEND_TXN)] [(.int (16 : Int32)), (.ref b4)])) _
                                    refine X67.aaload hx (j := (16 : Int32)) (v := (.ref wTXN_OFFSET_COMMIT)) (by rw [e67]; exact Ara70.1) (State.isArrayOf_alike hZ.alike Ara70.2.1) rfl Ara70.2.2 hina70 (Ha70.at hina70 rfl) (g := (mkF m 16 #[.val (.int p0), .val (.ref b4), .val (.int (17 : Int32)), .val (.int (16 : Int32)), .val (.ref wEND_TXN)] [(.int (16 : Int32)), (.ref b4)])) rfl rfl (hb hby d2_16) _ ?_
                                    show Steps p.tables e below (T67.setTop (mkF m 17 #[.val (.int p0), .val (.ref b4), .val (.int (17 : Int32)), .val (.int (16 : Int32)), .val (.ref wEND_TXN)] [(.ref wTXN_OFFSET_COMMIT)])) _
                                    refine XS.astore X67.here hx rfl (hb hby d2_17) rfl rfl (l' := #[.val (.int p0), .val (.ref b4), .val (.int (17 : Int32)), .val (.int (16 : Int32)), .val (.ref wTXN_OFFSET_COMMIT)]) rfl ?_
                                    show Steps p.tables e below (T67.setTop (mkF m 19 #[.val (.int p0), .val (.ref b4), .val (.int (17 : Int32)), .val (.int (16 : Int32)), .val (.ref wTXN_OFFSET_COMMIT)] [])) _
                                    refine XS.aload X67.here hx rfl (hb hby d2_19) rfl rfl ?_
                                    show Steps p.tables e below (T67.setTop (mkF m 21 #[.val (.int p0), .val (.ref b4), .val (.int (17 : Int32)), .val (.int (16 : Int32)), .val (.ref wTXN_OFFSET_COMMIT)] [(.ref wTXN_OFFSET_COMMIT)])) _
                                    refine st71 _ ?_
                                    show Steps p.tables e below (T71.setTop (mkF m 24 #[.val (.int p0), .val (.ref b4), .val (.int (17 : Int32)), .val (.int (16 : Int32)), .val (.ref wTXN_OFFSET_COMMIT)] [(.int (28 : Int32))])) _
                                    refine XS.iloadN X71.here hx rfl (hb hby d2_24) rfl ?_
                                    exact kt)
                                  by_cases hc73 : (28 : Int32) = p0
                                  · obtain ⟨fs, hr, hrun, hended, hW, hsame⟩ := X71.leave (v := some (.ref wTXN_OFFSET_COMMIT)) (fun h => by rw [Bd.returns] at h; cases h)
                                    refine ⟨_, _, k72 _ ?_, hrun, hended, _, _, rfl, ?_, ⟨_, rfl⟩, hW, hsame.mono (by decide) (by decide)⟩
                                    · show Steps p.tables e below (T71.setTop (mkF m 25 #[.val (.int p0), .val (.ref b4), .val (.int (17 : Int32)), .val (.int (16 : Int32)), .val (.ref wTXN_OFFSET_COMMIT)] [(.int p0), (.int (28 : Int32))])) _
                                      refine XS.icmpNo X71.here hx rfl (hb hby d2_25) rfl (teq (hc73 : (28 : Int32) = p0)).2 ?_
                                      show Steps p.tables e below (T71.setTop (mkF m 28 #[.val (.int p0), .val (.ref b4), .val (.int (17 : Int32)), .val (.int (16 : Int32)), .val (.ref wTXN_OFFSET_COMMIT)] [])) _
                                      refine XS.aload X71.here hx rfl (hb hby d2_28) rfl rfl ?_
                                      show Steps p.tables e below (T71.setTop (mkF m 30 #[.val (.int p0), .val (.ref b4), .val (.int (17 : Int32)), .val (.int (16 : Int32)), .val (.ref wTXN_OFFSET_COMMIT)] [(.ref wTXN_OFFSET_COMMIT)])) _
                                      exact own_retA X71 hx Bd.returns rfl rfl (hb hby d2_30) hr
                                    · show Q2 Z p0 w_VALUES wPRODUCE wFETCH wLIST_OFFSETS wMETADATA wOFFSET_COMMIT wOFFSET_FETCH wFIND_COORDINATOR wJOIN_GROUP wHEARTBEAT wLEAVE_GROUP wSYNC_GROUP wAPI_VERSIONS wINIT_PRODUCER_ID wADD_PARTITIONS_TO_TXN wADD_OFFSETS_TO_TXN wEND_TXN wTXN_OFFSET_COMMIT k_VALUES h0 n0 _ T71.heap _
                                      rw [e71]
                                      exact ⟨by rw [f2, if_neg hc9, if_neg hc13, if_neg hc17, if_neg hc21, if_neg hc25, if_neg hc29, if_neg hc33, if_neg hc37, if_neg hc41, if_neg hc45, if_neg hc49, if_neg hc53, if_neg hc57, if_neg hc61, if_neg hc65, if_neg hc69, if_pos hc73], N4, EX4⟩
                                  · obtain ⟨fs, hr, hrun, hended, hW, hsame⟩ := X71.leave (v := some .null) (fun h => by rw [Bd.returns] at h; cases h)
                                    refine ⟨_, _, k72 _ ?_, hrun, hended, _, _, rfl, ?_, ⟨_, rfl⟩, hW, hsame.mono (by decide) (by decide)⟩
                                    · show Steps p.tables e below (T71.setTop (mkF m 25 #[.val (.int p0), .val (.ref b4), .val (.int (17 : Int32)), .val (.int (16 : Int32)), .val (.ref wTXN_OFFSET_COMMIT)] [(.int p0), (.int (28 : Int32))])) _
                                      refine XS.icmpYes X71.here hx rfl (pc0 := 25) (pc' := 31) rfl (hb hby d2_25) rfl (feq (hc73 : ¬ ((28 : Int32) = p0))).2 (by decide) (by decide) ?_
                                      show Steps p.tables e below (T71.setTop (mkF m 31 #[.val (.int p0), .val (.ref b4), .val (.int (17 : Int32)), .val (.int (16 : Int32)), .val (.ref wTXN_OFFSET_COMMIT)] [])) _
                                      refine XS.iinc X71.here hx rfl (hb hby d2_31) rfl (l' := #[.val (.int p0), .val (.ref b4), .val (.int (17 : Int32)), .val (.int (17 : Int32)), .val (.ref wTXN_OFFSET_COMMIT)]) rfl ?_
                                      show Steps p.tables e below (T71.setTop (mkF m 34 #[.val (.int p0), .val (.ref b4), .val (.int (17 : Int32)), .val (.int (17 : Int32)), .val (.ref wTXN_OFFSET_COMMIT)] [])) _
                                      refine XS.goto X71.here hx rfl (pc0 := 34) (pc' := 9) rfl (hb hby d2_34) (by decide) (by decide) ?_
                                      show Steps p.tables e below (T71.setTop (mkF m 9 #[.val (.int p0), .val (.ref b4), .val (.int (17 : Int32)), .val (.int (17 : Int32)), .val (.ref wTXN_OFFSET_COMMIT)] [])) _
                                      refine XS.iloadN X71.here hx rfl (hb hby d2_9) rfl ?_
                                      show Steps p.tables e below (T71.setTop (mkF m 10 #[.val (.int p0), .val (.ref b4), .val (.int (17 : Int32)), .val (.int (17 : Int32)), .val (.ref wTXN_OFFSET_COMMIT)] [(.int (17 : Int32))])) _
                                      refine XS.iloadN X71.here hx rfl (hb hby d2_10) rfl ?_
                                      show Steps p.tables e below (T71.setTop (mkF m 11 #[.val (.int p0), .val (.ref b4), .val (.int (17 : Int32)), .val (.int (17 : Int32)), .val (.ref wTXN_OFFSET_COMMIT)] [(.int (17 : Int32)), (.int (17 : Int32))])) _
                                      refine XS.icmpYes X71.here hx rfl (pc0 := 11) (pc' := 37) rfl (hb hby d2_11) rfl (flt ((by first | exact Int32.lt_irrefl _ | decide) : ¬ ((17 : Int32) < (17 : Int32)))).2.1 (by decide) (by decide) ?_
                                      show Steps p.tables e below (T71.setTop (mkF m 37 #[.val (.int p0), .val (.ref b4), .val (.int (17 : Int32)), .val (.int (17 : Int32)), .val (.ref wTXN_OFFSET_COMMIT)] [])) _
                                      refine XS.aconstNull X71.here hx rfl (hb hby d2_37) ?_
                                      show Steps p.tables e below (T71.setTop (mkF m 38 #[.val (.int p0), .val (.ref b4), .val (.int (17 : Int32)), .val (.int (17 : Int32)), .val (.ref wTXN_OFFSET_COMMIT)] [.null])) _
                                      exact own_retA X71 hx Bd.returns rfl rfl (hb hby d2_38) hr
                                    · show Q2 Z p0 w_VALUES wPRODUCE wFETCH wLIST_OFFSETS wMETADATA wOFFSET_COMMIT wOFFSET_FETCH wFIND_COORDINATOR wJOIN_GROUP wHEARTBEAT wLEAVE_GROUP wSYNC_GROUP wAPI_VERSIONS wINIT_PRODUCER_ID wADD_PARTITIONS_TO_TXN wADD_OFFSETS_TO_TXN wEND_TXN wTXN_OFFSET_COMMIT k_VALUES h0 n0 _ T71.heap _
                                      rw [e71]
                                      exact ⟨by rw [f2, if_neg hc9, if_neg hc13, if_neg hc17, if_neg hc21, if_neg hc25, if_neg hc29, if_neg hc33, if_neg hc37, if_neg hc41, if_neg hc45, if_neg hc49, if_neg hc53, if_neg hc57, if_neg hc61, if_neg hc65, if_neg hc69, if_neg hc73], N4, EX4⟩
theorem d3_0 : decode method_2_code 0 = .ok (.iload_n 0, 1) := by decide +kernel
theorem d3_1 : decode method_2_code 1 = .ok (.ifCond .ne 7, 3) := by decide +kernel
theorem d3_4 : decode method_2_code 4 = .ok (.getstatic 7, 3) := by decide +kernel
theorem d3_7 : decode method_2_code 7 = .ok (.areturn, 1) := by decide +kernel
theorem d3_8 : decode method_2_code 8 = .ok (.iload_n 0, 1) := by decide +kernel
theorem d3_9 : decode method_2_code 9 = .ok (.iconst 1, 1) := by decide +kernel
theorem d3_10 : decode method_2_code 10 = .ok (.if_icmp .ne 7, 3) := by decide +kernel
theorem d3_13 : decode method_2_code 13 = .ok (.getstatic 13, 3) := by decide +kernel
theorem d3_16 : decode method_2_code 16 = .ok (.areturn, 1) := by decide +kernel
theorem d3_17 : decode method_2_code 17 = .ok (.iload_n 0, 1) := by decide +kernel
theorem d3_18 : decode method_2_code 18 = .ok (.iconst 2, 1) := by decide +kernel
theorem d3_19 : decode method_2_code 19 = .ok (.if_icmp .ne 7, 3) := by decide +kernel
theorem d3_22 : decode method_2_code 22 = .ok (.getstatic 16, 3) := by decide +kernel
theorem d3_25 : decode method_2_code 25 = .ok (.areturn, 1) := by decide +kernel
theorem d3_26 : decode method_2_code 26 = .ok (.iload_n 0, 1) := by decide +kernel
theorem d3_27 : decode method_2_code 27 = .ok (.iconst 3, 1) := by decide +kernel
theorem d3_28 : decode method_2_code 28 = .ok (.if_icmp .ne 7, 3) := by decide +kernel
theorem d3_31 : decode method_2_code 31 = .ok (.getstatic 19, 3) := by decide +kernel
theorem d3_34 : decode method_2_code 34 = .ok (.areturn, 1) := by decide +kernel
theorem d3_35 : decode method_2_code 35 = .ok (.iload_n 0, 1) := by decide +kernel
theorem d3_36 : decode method_2_code 36 = .ok (.bipush 8, 2) := by decide +kernel
theorem d3_38 : decode method_2_code 38 = .ok (.if_icmp .ne 7, 3) := by decide +kernel
theorem d3_41 : decode method_2_code 41 = .ok (.getstatic 22, 3) := by decide +kernel
theorem d3_44 : decode method_2_code 44 = .ok (.areturn, 1) := by decide +kernel
theorem d3_45 : decode method_2_code 45 = .ok (.iload_n 0, 1) := by decide +kernel
theorem d3_46 : decode method_2_code 46 = .ok (.bipush 9, 2) := by decide +kernel
theorem d3_48 : decode method_2_code 48 = .ok (.if_icmp .ne 7, 3) := by decide +kernel
theorem d3_51 : decode method_2_code 51 = .ok (.getstatic 25, 3) := by decide +kernel
theorem d3_54 : decode method_2_code 54 = .ok (.areturn, 1) := by decide +kernel
theorem d3_55 : decode method_2_code 55 = .ok (.iload_n 0, 1) := by decide +kernel
theorem d3_56 : decode method_2_code 56 = .ok (.bipush 10, 2) := by decide +kernel
theorem d3_58 : decode method_2_code 58 = .ok (.if_icmp .ne 7, 3) := by decide +kernel
theorem d3_61 : decode method_2_code 61 = .ok (.getstatic 28, 3) := by decide +kernel
theorem d3_64 : decode method_2_code 64 = .ok (.areturn, 1) := by decide +kernel
theorem d3_65 : decode method_2_code 65 = .ok (.iload_n 0, 1) := by decide +kernel
theorem d3_66 : decode method_2_code 66 = .ok (.bipush 11, 2) := by decide +kernel
theorem d3_68 : decode method_2_code 68 = .ok (.if_icmp .ne 7, 3) := by decide +kernel
theorem d3_71 : decode method_2_code 71 = .ok (.getstatic 31, 3) := by decide +kernel
theorem d3_74 : decode method_2_code 74 = .ok (.areturn, 1) := by decide +kernel
theorem d3_75 : decode method_2_code 75 = .ok (.iload_n 0, 1) := by decide +kernel
theorem d3_76 : decode method_2_code 76 = .ok (.bipush 12, 2) := by decide +kernel
theorem d3_78 : decode method_2_code 78 = .ok (.if_icmp .ne 7, 3) := by decide +kernel
theorem d3_81 : decode method_2_code 81 = .ok (.getstatic 34, 3) := by decide +kernel
theorem d3_84 : decode method_2_code 84 = .ok (.areturn, 1) := by decide +kernel
theorem d3_85 : decode method_2_code 85 = .ok (.iload_n 0, 1) := by decide +kernel
theorem d3_86 : decode method_2_code 86 = .ok (.bipush 13, 2) := by decide +kernel
theorem d3_88 : decode method_2_code 88 = .ok (.if_icmp .ne 7, 3) := by decide +kernel
theorem d3_91 : decode method_2_code 91 = .ok (.getstatic 37, 3) := by decide +kernel
theorem d3_94 : decode method_2_code 94 = .ok (.areturn, 1) := by decide +kernel
theorem d3_95 : decode method_2_code 95 = .ok (.iload_n 0, 1) := by decide +kernel
theorem d3_96 : decode method_2_code 96 = .ok (.bipush 14, 2) := by decide +kernel
theorem d3_98 : decode method_2_code 98 = .ok (.if_icmp .ne 7, 3) := by decide +kernel
theorem d3_101 : decode method_2_code 101 = .ok (.getstatic 40, 3) := by decide +kernel
theorem d3_104 : decode method_2_code 104 = .ok (.areturn, 1) := by decide +kernel
theorem d3_105 : decode method_2_code 105 = .ok (.iload_n 0, 1) := by decide +kernel
theorem d3_106 : decode method_2_code 106 = .ok (.bipush 18, 2) := by decide +kernel
theorem d3_108 : decode method_2_code 108 = .ok (.if_icmp .ne 7, 3) := by decide +kernel
theorem d3_111 : decode method_2_code 111 = .ok (.getstatic 43, 3) := by decide +kernel
theorem d3_114 : decode method_2_code 114 = .ok (.areturn, 1) := by decide +kernel
theorem d3_115 : decode method_2_code 115 = .ok (.iload_n 0, 1) := by decide +kernel
theorem d3_116 : decode method_2_code 116 = .ok (.bipush 22, 2) := by decide +kernel
theorem d3_118 : decode method_2_code 118 = .ok (.if_icmp .ne 7, 3) := by decide +kernel
theorem d3_121 : decode method_2_code 121 = .ok (.getstatic 46, 3) := by decide +kernel
theorem d3_124 : decode method_2_code 124 = .ok (.areturn, 1) := by decide +kernel
theorem d3_125 : decode method_2_code 125 = .ok (.iload_n 0, 1) := by decide +kernel
theorem d3_126 : decode method_2_code 126 = .ok (.bipush 24, 2) := by decide +kernel
theorem d3_128 : decode method_2_code 128 = .ok (.if_icmp .ne 7, 3) := by decide +kernel
theorem d3_131 : decode method_2_code 131 = .ok (.getstatic 49, 3) := by decide +kernel
theorem d3_134 : decode method_2_code 134 = .ok (.areturn, 1) := by decide +kernel
theorem d3_135 : decode method_2_code 135 = .ok (.iload_n 0, 1) := by decide +kernel
theorem d3_136 : decode method_2_code 136 = .ok (.bipush 25, 2) := by decide +kernel
theorem d3_138 : decode method_2_code 138 = .ok (.if_icmp .ne 7, 3) := by decide +kernel
theorem d3_141 : decode method_2_code 141 = .ok (.getstatic 52, 3) := by decide +kernel
theorem d3_144 : decode method_2_code 144 = .ok (.areturn, 1) := by decide +kernel
theorem d3_145 : decode method_2_code 145 = .ok (.iload_n 0, 1) := by decide +kernel
theorem d3_146 : decode method_2_code 146 = .ok (.bipush 26, 2) := by decide +kernel
theorem d3_148 : decode method_2_code 148 = .ok (.if_icmp .ne 7, 3) := by decide +kernel
theorem d3_151 : decode method_2_code 151 = .ok (.getstatic 55, 3) := by decide +kernel
theorem d3_154 : decode method_2_code 154 = .ok (.areturn, 1) := by decide +kernel
theorem d3_155 : decode method_2_code 155 = .ok (.iload_n 0, 1) := by decide +kernel
theorem d3_156 : decode method_2_code 156 = .ok (.bipush 28, 2) := by decide +kernel
theorem d3_158 : decode method_2_code 158 = .ok (.if_icmp .ne 7, 3) := by decide +kernel
theorem d3_161 : decode method_2_code 161 = .ok (.getstatic 58, 3) := by decide +kernel
theorem d3_164 : decode method_2_code 164 = .ok (.areturn, 1) := by decide +kernel
theorem d3_165 : decode method_2_code 165 = .ok (.aconst_null, 1) := by decide +kernel
theorem d3_166 : decode method_2_code 166 = .ok (.areturn, 1) := by decide +kernel
theorem pn_1 : plainName "com/example/idem_log/idemlog/protocol/ApiForKeyPinLaw" = true := by first | (simp [plainName, overriddenIn]; done) | decide +kernel
def f3 (p0 : Int32) (w_VALUES : Addr) (wPRODUCE : Addr) (wFETCH : Addr) (wLIST_OFFSETS : Addr) (wMETADATA : Addr) (wOFFSET_COMMIT : Addr) (wOFFSET_FETCH : Addr) (wFIND_COORDINATOR : Addr) (wJOIN_GROUP : Addr) (wHEARTBEAT : Addr) (wLEAVE_GROUP : Addr) (wSYNC_GROUP : Addr) (wAPI_VERSIONS : Addr) (wINIT_PRODUCER_ID : Addr) (wADD_PARTITIONS_TO_TXN : Addr) (wADD_OFFSETS_TO_TXN : Addr) (wEND_TXN : Addr) (wTXN_OFFSET_COMMIT : Addr) (k_VALUES : ClassId) : Value := if p0 = (0 : Int32) then (.ref wPRODUCE) else if p0 = (1 : Int32) then (.ref wFETCH) else if p0 = (2 : Int32) then (.ref wLIST_OFFSETS) else if p0 = (3 : Int32) then (.ref wMETADATA) else if p0 = (8 : Int32) then (.ref wOFFSET_COMMIT) else if p0 = (9 : Int32) then (.ref wOFFSET_FETCH) else if p0 = (10 : Int32) then (.ref wFIND_COORDINATOR) else if p0 = (11 : Int32) then (.ref wJOIN_GROUP) else if p0 = (12 : Int32) then (.ref wHEARTBEAT) else if p0 = (13 : Int32) then (.ref wLEAVE_GROUP) else if p0 = (14 : Int32) then (.ref wSYNC_GROUP) else if p0 = (18 : Int32) then (.ref wAPI_VERSIONS) else if p0 = (22 : Int32) then (.ref wINIT_PRODUCER_ID) else if p0 = (24 : Int32) then (.ref wADD_PARTITIONS_TO_TXN) else if p0 = (25 : Int32) then (.ref wADD_OFFSETS_TO_TXN) else if p0 = (26 : Int32) then (.ref wEND_TXN) else if p0 = (28 : Int32) then (.ref wTXN_OFFSET_COMMIT) else .null
theorem ef_3 (m : MethodId) (p0 : Int32) : entryFrame m #[(.int p0)] 1 = mkF m 0 #[.val (.int p0)] [] := by first | (simp [entryFrame, mkF, argsToLocals, Value.category]; done) | rfl
def Q3 (Z : State) (p0 : Int32) (w_VALUES : Addr) (wPRODUCE : Addr) (wFETCH : Addr) (wLIST_OFFSETS : Addr) (wMETADATA : Addr) (wOFFSET_COMMIT : Addr) (wOFFSET_FETCH : Addr) (wFIND_COORDINATOR : Addr) (wJOIN_GROUP : Addr) (wHEARTBEAT : Addr) (wLEAVE_GROUP : Addr) (wSYNC_GROUP : Addr) (wAPI_VERSIONS : Addr) (wINIT_PRODUCER_ID : Addr) (wADD_PARTITIONS_TO_TXN : Addr) (wADD_OFFSETS_TO_TXN : Addr) (wEND_TXN : Addr) (wTXN_OFFSET_COMMIT : Addr) (k_VALUES : ClassId) (h0 : Heap) (n0 : Nat) (v : Option Value) (h : Heap) (L : List Loc) : Prop := v = some (f3 p0 w_VALUES wPRODUCE wFETCH wLIST_OFFSETS wMETADATA wOFFSET_COMMIT wOFFSET_FETCH wFIND_COORDINATOR wJOIN_GROUP wHEARTBEAT wLEAVE_GROUP wSYNC_GROUP wAPI_VERSIONS wINIT_PRODUCER_ID wADD_PARTITIONS_TO_TXN wADD_OFFSETS_TO_TXN wEND_TXN wTXN_OFFSET_COMMIT k_VALUES) ∧ Fr n0 L ∧ h = h0
set_option maxRecDepth 65536 in
set_option maxHeartbeats 40000000 in
theorem rm3 (l : Launch) (Z : State) (a0 : Array Value) (hw : ∀ d ∈ tables_1, d.before a0 Z = true) (ws : List Jvm.Cond) (p0 : Int32) (w_VALUES : Addr) (wPRODUCE : Addr) (wFETCH : Addr) (wLIST_OFFSETS : Addr) (wMETADATA : Addr) (wOFFSET_COMMIT : Addr) (wOFFSET_FETCH : Addr) (wFIND_COORDINATOR : Addr) (wJOIN_GROUP : Addr) (wHEARTBEAT : Addr) (wLEAVE_GROUP : Addr) (wSYNC_GROUP : Addr) (wAPI_VERSIONS : Addr) (wINIT_PRODUCER_ID : Addr) (wADD_PARTITIONS_TO_TXN : Addr) (wADD_OFFSETS_TO_TXN : Addr) (wEND_TXN : Addr) (wTXN_OFFSET_COMMIT : Addr) (k_VALUES : ClassId) (h0 : Heap) (n0 : Nat) (Z0 : n0 ≤ h0.size) (W0 : World Z h0 w_VALUES wPRODUCE wFETCH wLIST_OFFSETS wMETADATA wOFFSET_COMMIT wOFFSET_FETCH wFIND_COORDINATOR wJOIN_GROUP wHEARTBEAT wLEAVE_GROUP wSYNC_GROUP wAPI_VERSIONS wINIT_PRODUCER_ID wADD_PARTITIONS_TO_TXN wADD_OFFSETS_TO_TXN wEND_TXN wTXN_OFFSET_COMMIT k_VALUES) :
    MetFree l (⟨"com/example/idem_log/idemlog/protocol/ApiForKeyPinLaw", "expected", "(I)Lcom/example/idem_log/idemlog/protocol/Api;"⟩ : MethodName) (head1 (Jvm.Cond.code (⟨"com/example/idem_log/idemlog/protocol/ApiForKeyPinLaw", "expected", "(I)Lcom/example/idem_log/idemlog/protocol/Api;"⟩ : MethodName) method_2_code 1 (some (.object "com/example/idem_log/idemlog/protocol/Api")) :: ws) ({ frames := 0, cells := 0, slots := 0, locals := 0 } : Room)) (fun a U => a = #[(.int p0)] ∧ Z.Warmed39 U.vm ∧ U.heap = h0) (fun _ _ _ _ _ => True) (fun _ U o U' => ∃ v L, o = .returned v ∧ Q3 Z p0 w_VALUES wPRODUCE wFETCH wLIST_OFFSETS wMETADATA wOFFSET_COMMIT wOFFSET_FETCH wFIND_COORDINATOR wJOIN_GROUP wHEARTBEAT wLEAVE_GROUP wSYNC_GROUP wAPI_VERSIONS wINIT_PRODUCER_ID wADD_PARTITIONS_TO_TXN wADD_OFFSETS_TO_TXN wEND_TXN wTXN_OFFSET_COMMIT k_VALUES h0 n0 v U'.heap L ∧ FrameEnd U o U' L ({ frames := 0, cells := 0, slots := 0, locals := 0 } : Room).cells ({ frames := 0, cells := 0, slots := 0, locals := 0 } : Room).slots) := by
  refine MetFree.of_bodySF (plainFor_of_name pn_1) hisR ?_
  intro p e s m args below meth c s₁ Bd hml0 hP hK
  obtain ⟨rfl, hZ, hh⟩ := hP
  have hx := Bd.exec
  have hby := Bd.bytes
  have hml : c.maxLocals = 1 := hml0
  have hown : s.vm.findClass "com/example/idem_log/idemlog/protocol/ApiForKeyPinLaw" = some m.cls := findClass_of_methodNamed Bd.named
  have X0 : Stand p l e ({ frames := 0, cells := 0, slots := 0, locals := 0 } : Room) s m #[(.int p0)] below meth c s₁ [] 0 0 := Stand.of_body Bd
  have e0 : s₁.heap = h0 := by rw [← hh, Bd.state]; rfl
  have N0 := Fr.nil n0
  have W1 := W0
  obtain ⟨S_VALUES, E_VALUES, SPRODUCE, EPRODUCE, SFETCH, EFETCH, SLIST_OFFSETS, ELIST_OFFSETS, SMETADATA, EMETADATA, SOFFSET_COMMIT, EOFFSET_COMMIT, SOFFSET_FETCH, EOFFSET_FETCH, SFIND_COORDINATOR, EFIND_COORDINATOR, SJOIN_GROUP, EJOIN_GROUP, SHEARTBEAT, EHEARTBEAT, SLEAVE_GROUP, ELEAVE_GROUP, SSYNC_GROUP, ESYNC_GROUP, SAPI_VERSIONS, EAPI_VERSIONS, SINIT_PRODUCER_ID, EINIT_PRODUCER_ID, SADD_PARTITIONS_TO_TXN, EADD_PARTITIONS_TO_TXN, SADD_OFFSETS_TO_TXN, EADD_OFFSETS_TO_TXN, SEND_TXN, EEND_TXN, STXN_OFFSET_COMMIT, ETXN_OFFSET_COMMIT, FPRODUCE_key, FFETCH_key, FLIST_OFFSETS_key, FMETADATA_key, FOFFSET_COMMIT_key, FOFFSET_FETCH_key, FFIND_COORDINATOR_key, FJOIN_GROUP_key, FHEARTBEAT_key, FLEAVE_GROUP_key, FSYNC_GROUP_key, FAPI_VERSIONS_key, FINIT_PRODUCER_ID_key, FADD_PARTITIONS_TO_TXN_key, FADD_OFFSETS_TO_TXN_key, FEND_TXN_key, FTXN_OFFSET_COMMIT_key, A_VALUES, -⟩ := W1
  have pre0 : ∀ t, Steps p.tables e below (s₁.setTop (mkF m 0 #[.val (.int p0)] [])) t → Steps p.tables e below (s₁.setTop (entryFrame m #[(.int p0)] 1)) t := fun t k => castTop (ef_3 m p0) k
  have k74 : ∀ t, Steps p.tables e below (s₁.setTop (mkF m 1 #[.val (.int p0)] [(.int p0)])) t → Steps p.tables e below (s₁.setTop (entryFrame m #[(.int p0)] 1)) t := fun t kt => pre0 t (by
    show Steps p.tables e below (s₁.setTop (mkF m 0 #[.val (.int p0)] [])) _
    refine XS.iloadN X0.here hx rfl (hb hby d3_0) rfl ?_
    exact kt)
  by_cases hc75 : p0 = (0 : Int32)
  · obtain ⟨T76, X76, e76, st76⟩ := getS2 X0 hx hZ hown (host := "") (Or.inl (hw _ (List.mem_of_getElem? (i := 45) rfl))) Via.refl e0 SPRODUCE (g := (mkF m 4 #[.val (.int p0)] [])) rfl (hb hby d3_4)
    obtain ⟨fs, hr, hrun, hended, hW, hsame⟩ := X76.leave (v := some (.ref wPRODUCE)) (fun h => by rw [Bd.returns] at h; cases h)
    refine ⟨_, _, k74 _ ?_, hrun, hended, _, _, rfl, ?_, ⟨_, rfl⟩, hW, hsame.mono (by decide) (by decide)⟩
    · show Steps p.tables e below (s₁.setTop (mkF m 1 #[.val (.int p0)] [(.int p0)])) _
      refine XS.ifNo X0.here hx rfl (hb hby d3_1) rfl ((if0 _ _).trans (teq (hc75 : p0 = (0 : Int32))).2) ?_
      show Steps p.tables e below (s₁.setTop (mkF m 4 #[.val (.int p0)] [])) _
      refine st76 _ ?_
      show Steps p.tables e below (T76.setTop (mkF m 7 #[.val (.int p0)] [(.ref wPRODUCE)])) _
      exact own_retA X76 hx Bd.returns rfl rfl (hb hby d3_7) hr
    · show Q3 Z p0 w_VALUES wPRODUCE wFETCH wLIST_OFFSETS wMETADATA wOFFSET_COMMIT wOFFSET_FETCH wFIND_COORDINATOR wJOIN_GROUP wHEARTBEAT wLEAVE_GROUP wSYNC_GROUP wAPI_VERSIONS wINIT_PRODUCER_ID wADD_PARTITIONS_TO_TXN wADD_OFFSETS_TO_TXN wEND_TXN wTXN_OFFSET_COMMIT k_VALUES h0 n0 _ T76.heap _
      rw [e76]
      exact ⟨by rw [f3, if_pos hc75], N0, rfl⟩
  · have k77 : ∀ t, Steps p.tables e below (s₁.setTop (mkF m 10 #[.val (.int p0)] [(.int (1 : Int32)), (.int p0)])) t → Steps p.tables e below (s₁.setTop (entryFrame m #[(.int p0)] 1)) t := fun t kt => k74 t (by
      show Steps p.tables e below (s₁.setTop (mkF m 1 #[.val (.int p0)] [(.int p0)])) _
      refine XS.ifYes X0.here hx rfl (pc0 := 1) (pc' := 8) rfl (hb hby d3_1) rfl ((if0 _ _).trans (feq (hc75 : ¬ (p0 = (0 : Int32)))).2) (by decide) (by decide) ?_
      show Steps p.tables e below (s₁.setTop (mkF m 8 #[.val (.int p0)] [])) _
      refine XS.iloadN X0.here hx rfl (hb hby d3_8) rfl ?_
      show Steps p.tables e below (s₁.setTop (mkF m 9 #[.val (.int p0)] [(.int p0)])) _
      refine XS.iconst X0.here hx rfl (hb hby d3_9) ?_
      exact kt)
    by_cases hc78 : p0 = (1 : Int32)
    · obtain ⟨T79, X79, e79, st79⟩ := getS2 X0 hx hZ hown (host := "") (Or.inl (hw _ (List.mem_of_getElem? (i := 44) rfl))) Via.refl e0 SFETCH (g := (mkF m 13 #[.val (.int p0)] [])) rfl (hb hby d3_13)
      obtain ⟨fs, hr, hrun, hended, hW, hsame⟩ := X79.leave (v := some (.ref wFETCH)) (fun h => by rw [Bd.returns] at h; cases h)
      refine ⟨_, _, k77 _ ?_, hrun, hended, _, _, rfl, ?_, ⟨_, rfl⟩, hW, hsame.mono (by decide) (by decide)⟩
      · show Steps p.tables e below (s₁.setTop (mkF m 10 #[.val (.int p0)] [(.int (1 : Int32)), (.int p0)])) _
        refine XS.icmpNo X0.here hx rfl (hb hby d3_10) rfl (teq (hc78 : p0 = (1 : Int32))).2 ?_
        show Steps p.tables e below (s₁.setTop (mkF m 13 #[.val (.int p0)] [])) _
        refine st79 _ ?_
        show Steps p.tables e below (T79.setTop (mkF m 16 #[.val (.int p0)] [(.ref wFETCH)])) _
        exact own_retA X79 hx Bd.returns rfl rfl (hb hby d3_16) hr
      · show Q3 Z p0 w_VALUES wPRODUCE wFETCH wLIST_OFFSETS wMETADATA wOFFSET_COMMIT wOFFSET_FETCH wFIND_COORDINATOR wJOIN_GROUP wHEARTBEAT wLEAVE_GROUP wSYNC_GROUP wAPI_VERSIONS wINIT_PRODUCER_ID wADD_PARTITIONS_TO_TXN wADD_OFFSETS_TO_TXN wEND_TXN wTXN_OFFSET_COMMIT k_VALUES h0 n0 _ T79.heap _
        rw [e79]
        exact ⟨by rw [f3, if_neg hc75, if_pos hc78], N0, rfl⟩
    · have k80 : ∀ t, Steps p.tables e below (s₁.setTop (mkF m 19 #[.val (.int p0)] [(.int (2 : Int32)), (.int p0)])) t → Steps p.tables e below (s₁.setTop (entryFrame m #[(.int p0)] 1)) t := fun t kt => k77 t (by
        show Steps p.tables e below (s₁.setTop (mkF m 10 #[.val (.int p0)] [(.int (1 : Int32)), (.int p0)])) _
        refine XS.icmpYes X0.here hx rfl (pc0 := 10) (pc' := 17) rfl (hb hby d3_10) rfl (feq (hc78 : ¬ (p0 = (1 : Int32)))).2 (by decide) (by decide) ?_
        show Steps p.tables e below (s₁.setTop (mkF m 17 #[.val (.int p0)] [])) _
        refine XS.iloadN X0.here hx rfl (hb hby d3_17) rfl ?_
        show Steps p.tables e below (s₁.setTop (mkF m 18 #[.val (.int p0)] [(.int p0)])) _
        refine XS.iconst X0.here hx rfl (hb hby d3_18) ?_
        exact kt)
      by_cases hc81 : p0 = (2 : Int32)
      · obtain ⟨T82, X82, e82, st82⟩ := getS2 X0 hx hZ hown (host := "") (Or.inl (hw _ (List.mem_of_getElem? (i := 47) rfl))) Via.refl e0 SLIST_OFFSETS (g := (mkF m 22 #[.val (.int p0)] [])) rfl (hb hby d3_22)
        obtain ⟨fs, hr, hrun, hended, hW, hsame⟩ := X82.leave (v := some (.ref wLIST_OFFSETS)) (fun h => by rw [Bd.returns] at h; cases h)
        refine ⟨_, _, k80 _ ?_, hrun, hended, _, _, rfl, ?_, ⟨_, rfl⟩, hW, hsame.mono (by decide) (by decide)⟩
        · show Steps p.tables e below (s₁.setTop (mkF m 19 #[.val (.int p0)] [(.int (2 : Int32)), (.int p0)])) _
          refine XS.icmpNo X0.here hx rfl (hb hby d3_19) rfl (teq (hc81 : p0 = (2 : Int32))).2 ?_
          show Steps p.tables e below (s₁.setTop (mkF m 22 #[.val (.int p0)] [])) _
          refine st82 _ ?_
          show Steps p.tables e below (T82.setTop (mkF m 25 #[.val (.int p0)] [(.ref wLIST_OFFSETS)])) _
          exact own_retA X82 hx Bd.returns rfl rfl (hb hby d3_25) hr
        · show Q3 Z p0 w_VALUES wPRODUCE wFETCH wLIST_OFFSETS wMETADATA wOFFSET_COMMIT wOFFSET_FETCH wFIND_COORDINATOR wJOIN_GROUP wHEARTBEAT wLEAVE_GROUP wSYNC_GROUP wAPI_VERSIONS wINIT_PRODUCER_ID wADD_PARTITIONS_TO_TXN wADD_OFFSETS_TO_TXN wEND_TXN wTXN_OFFSET_COMMIT k_VALUES h0 n0 _ T82.heap _
          rw [e82]
          exact ⟨by rw [f3, if_neg hc75, if_neg hc78, if_pos hc81], N0, rfl⟩
      · have k83 : ∀ t, Steps p.tables e below (s₁.setTop (mkF m 28 #[.val (.int p0)] [(.int (3 : Int32)), (.int p0)])) t → Steps p.tables e below (s₁.setTop (entryFrame m #[(.int p0)] 1)) t := fun t kt => k80 t (by
          show Steps p.tables e below (s₁.setTop (mkF m 19 #[.val (.int p0)] [(.int (2 : Int32)), (.int p0)])) _
          refine XS.icmpYes X0.here hx rfl (pc0 := 19) (pc' := 26) rfl (hb hby d3_19) rfl (feq (hc81 : ¬ (p0 = (2 : Int32)))).2 (by decide) (by decide) ?_
          show Steps p.tables e below (s₁.setTop (mkF m 26 #[.val (.int p0)] [])) _
          refine XS.iloadN X0.here hx rfl (hb hby d3_26) rfl ?_
          show Steps p.tables e below (s₁.setTop (mkF m 27 #[.val (.int p0)] [(.int p0)])) _
          refine XS.iconst X0.here hx rfl (hb hby d3_27) ?_
          exact kt)
        by_cases hc84 : p0 = (3 : Int32)
        · obtain ⟨T85, X85, e85, st85⟩ := getS2 X0 hx hZ hown (host := "") (Or.inl (hw _ (List.mem_of_getElem? (i := 42) rfl))) Via.refl e0 SMETADATA (g := (mkF m 31 #[.val (.int p0)] [])) rfl (hb hby d3_31)
          obtain ⟨fs, hr, hrun, hended, hW, hsame⟩ := X85.leave (v := some (.ref wMETADATA)) (fun h => by rw [Bd.returns] at h; cases h)
          refine ⟨_, _, k83 _ ?_, hrun, hended, _, _, rfl, ?_, ⟨_, rfl⟩, hW, hsame.mono (by decide) (by decide)⟩
          · show Steps p.tables e below (s₁.setTop (mkF m 28 #[.val (.int p0)] [(.int (3 : Int32)), (.int p0)])) _
            refine XS.icmpNo X0.here hx rfl (hb hby d3_28) rfl (teq (hc84 : p0 = (3 : Int32))).2 ?_
            show Steps p.tables e below (s₁.setTop (mkF m 31 #[.val (.int p0)] [])) _
            refine st85 _ ?_
            show Steps p.tables e below (T85.setTop (mkF m 34 #[.val (.int p0)] [(.ref wMETADATA)])) _
            exact own_retA X85 hx Bd.returns rfl rfl (hb hby d3_34) hr
          · show Q3 Z p0 w_VALUES wPRODUCE wFETCH wLIST_OFFSETS wMETADATA wOFFSET_COMMIT wOFFSET_FETCH wFIND_COORDINATOR wJOIN_GROUP wHEARTBEAT wLEAVE_GROUP wSYNC_GROUP wAPI_VERSIONS wINIT_PRODUCER_ID wADD_PARTITIONS_TO_TXN wADD_OFFSETS_TO_TXN wEND_TXN wTXN_OFFSET_COMMIT k_VALUES h0 n0 _ T85.heap _
            rw [e85]
            exact ⟨by rw [f3, if_neg hc75, if_neg hc78, if_neg hc81, if_pos hc84], N0, rfl⟩
        · have k86 : ∀ t, Steps p.tables e below (s₁.setTop (mkF m 38 #[.val (.int p0)] [(.int (8 : Int32)), (.int p0)])) t → Steps p.tables e below (s₁.setTop (entryFrame m #[(.int p0)] 1)) t := fun t kt => k83 t (by
            show Steps p.tables e below (s₁.setTop (mkF m 28 #[.val (.int p0)] [(.int (3 : Int32)), (.int p0)])) _
            refine XS.icmpYes X0.here hx rfl (pc0 := 28) (pc' := 35) rfl (hb hby d3_28) rfl (feq (hc84 : ¬ (p0 = (3 : Int32)))).2 (by decide) (by decide) ?_
            show Steps p.tables e below (s₁.setTop (mkF m 35 #[.val (.int p0)] [])) _
            refine XS.iloadN X0.here hx rfl (hb hby d3_35) rfl ?_
            show Steps p.tables e below (s₁.setTop (mkF m 36 #[.val (.int p0)] [(.int p0)])) _
            refine XS.bipush X0.here hx rfl (hb hby d3_36) ?_
            exact kt)
          by_cases hc87 : p0 = (8 : Int32)
          · obtain ⟨T88, X88, e88, st88⟩ := getS2 X0 hx hZ hown (host := "") (Or.inl (hw _ (List.mem_of_getElem? (i := 54) rfl))) Via.refl e0 SOFFSET_COMMIT (g := (mkF m 41 #[.val (.int p0)] [])) rfl (hb hby d3_41)
            obtain ⟨fs, hr, hrun, hended, hW, hsame⟩ := X88.leave (v := some (.ref wOFFSET_COMMIT)) (fun h => by rw [Bd.returns] at h; cases h)
            refine ⟨_, _, k86 _ ?_, hrun, hended, _, _, rfl, ?_, ⟨_, rfl⟩, hW, hsame.mono (by decide) (by decide)⟩
            · show Steps p.tables e below (s₁.setTop (mkF m 38 #[.val (.int p0)] [(.int (8 : Int32)), (.int p0)])) _
              refine XS.icmpNo X0.here hx rfl (hb hby d3_38) rfl (teq (hc87 : p0 = (8 : Int32))).2 ?_
              show Steps p.tables e below (s₁.setTop (mkF m 41 #[.val (.int p0)] [])) _
              refine st88 _ ?_
              show Steps p.tables e below (T88.setTop (mkF m 44 #[.val (.int p0)] [(.ref wOFFSET_COMMIT)])) _
              exact own_retA X88 hx Bd.returns rfl rfl (hb hby d3_44) hr
            · show Q3 Z p0 w_VALUES wPRODUCE wFETCH wLIST_OFFSETS wMETADATA wOFFSET_COMMIT wOFFSET_FETCH wFIND_COORDINATOR wJOIN_GROUP wHEARTBEAT wLEAVE_GROUP wSYNC_GROUP wAPI_VERSIONS wINIT_PRODUCER_ID wADD_PARTITIONS_TO_TXN wADD_OFFSETS_TO_TXN wEND_TXN wTXN_OFFSET_COMMIT k_VALUES h0 n0 _ T88.heap _
              rw [e88]
              exact ⟨by rw [f3, if_neg hc75, if_neg hc78, if_neg hc81, if_neg hc84, if_pos hc87], N0, rfl⟩
          · have k89 : ∀ t, Steps p.tables e below (s₁.setTop (mkF m 48 #[.val (.int p0)] [(.int (9 : Int32)), (.int p0)])) t → Steps p.tables e below (s₁.setTop (entryFrame m #[(.int p0)] 1)) t := fun t kt => k86 t (by
              show Steps p.tables e below (s₁.setTop (mkF m 38 #[.val (.int p0)] [(.int (8 : Int32)), (.int p0)])) _
              refine XS.icmpYes X0.here hx rfl (pc0 := 38) (pc' := 45) rfl (hb hby d3_38) rfl (feq (hc87 : ¬ (p0 = (8 : Int32)))).2 (by decide) (by decide) ?_
              show Steps p.tables e below (s₁.setTop (mkF m 45 #[.val (.int p0)] [])) _
              refine XS.iloadN X0.here hx rfl (hb hby d3_45) rfl ?_
              show Steps p.tables e below (s₁.setTop (mkF m 46 #[.val (.int p0)] [(.int p0)])) _
              refine XS.bipush X0.here hx rfl (hb hby d3_46) ?_
              exact kt)
            by_cases hc90 : p0 = (9 : Int32)
            · obtain ⟨T91, X91, e91, st91⟩ := getS2 X0 hx hZ hown (host := "") (Or.inl (hw _ (List.mem_of_getElem? (i := 53) rfl))) Via.refl e0 SOFFSET_FETCH (g := (mkF m 51 #[.val (.int p0)] [])) rfl (hb hby d3_51)
              obtain ⟨fs, hr, hrun, hended, hW, hsame⟩ := X91.leave (v := some (.ref wOFFSET_FETCH)) (fun h => by rw [Bd.returns] at h; cases h)
              refine ⟨_, _, k89 _ ?_, hrun, hended, _, _, rfl, ?_, ⟨_, rfl⟩, hW, hsame.mono (by decide) (by decide)⟩
              · show Steps p.tables e below (s₁.setTop (mkF m 48 #[.val (.int p0)] [(.int (9 : Int32)), (.int p0)])) _
                refine XS.icmpNo X0.here hx rfl (hb hby d3_48) rfl (teq (hc90 : p0 = (9 : Int32))).2 ?_
                show Steps p.tables e below (s₁.setTop (mkF m 51 #[.val (.int p0)] [])) _
                refine st91 _ ?_
                show Steps p.tables e below (T91.setTop (mkF m 54 #[.val (.int p0)] [(.ref wOFFSET_FETCH)])) _
                exact own_retA X91 hx Bd.returns rfl rfl (hb hby d3_54) hr
              · show Q3 Z p0 w_VALUES wPRODUCE wFETCH wLIST_OFFSETS wMETADATA wOFFSET_COMMIT wOFFSET_FETCH wFIND_COORDINATOR wJOIN_GROUP wHEARTBEAT wLEAVE_GROUP wSYNC_GROUP wAPI_VERSIONS wINIT_PRODUCER_ID wADD_PARTITIONS_TO_TXN wADD_OFFSETS_TO_TXN wEND_TXN wTXN_OFFSET_COMMIT k_VALUES h0 n0 _ T91.heap _
                rw [e91]
                exact ⟨by rw [f3, if_neg hc75, if_neg hc78, if_neg hc81, if_neg hc84, if_neg hc87, if_pos hc90], N0, rfl⟩
            · have k92 : ∀ t, Steps p.tables e below (s₁.setTop (mkF m 58 #[.val (.int p0)] [(.int (10 : Int32)), (.int p0)])) t → Steps p.tables e below (s₁.setTop (entryFrame m #[(.int p0)] 1)) t := fun t kt => k89 t (by
                show Steps p.tables e below (s₁.setTop (mkF m 48 #[.val (.int p0)] [(.int (9 : Int32)), (.int p0)])) _
                refine XS.icmpYes X0.here hx rfl (pc0 := 48) (pc' := 55) rfl (hb hby d3_48) rfl (feq (hc90 : ¬ (p0 = (9 : Int32)))).2 (by decide) (by decide) ?_
                show Steps p.tables e below (s₁.setTop (mkF m 55 #[.val (.int p0)] [])) _
                refine XS.iloadN X0.here hx rfl (hb hby d3_55) rfl ?_
                show Steps p.tables e below (s₁.setTop (mkF m 56 #[.val (.int p0)] [(.int p0)])) _
                refine XS.bipush X0.here hx rfl (hb hby d3_56) ?_
                exact kt)
              by_cases hc93 : p0 = (10 : Int32)
              · obtain ⟨T94, X94, e94, st94⟩ := getS2 X0 hx hZ hown (host := "") (Or.inl (hw _ (List.mem_of_getElem? (i := 55) rfl))) Via.refl e0 SFIND_COORDINATOR (g := (mkF m 61 #[.val (.int p0)] [])) rfl (hb hby d3_61)
                obtain ⟨fs, hr, hrun, hended, hW, hsame⟩ := X94.leave (v := some (.ref wFIND_COORDINATOR)) (fun h => by rw [Bd.returns] at h; cases h)
                refine ⟨_, _, k92 _ ?_, hrun, hended, _, _, rfl, ?_, ⟨_, rfl⟩, hW, hsame.mono (by decide) (by decide)⟩
                · show Steps p.tables e below (s₁.setTop (mkF m 58 #[.val (.int p0)] [(.int (10 : Int32)), (.int p0)])) _
                  refine XS.icmpNo X0.here hx rfl (hb hby d3_58) rfl (teq (hc93 : p0 = (10 : Int32))).2 ?_
                  show Steps p.tables e below (s₁.setTop (mkF m 61 #[.val (.int p0)] [])) _
                  refine st94 _ ?_
                  show Steps p.tables e below (T94.setTop (mkF m 64 #[.val (.int p0)] [(.ref wFIND_COORDINATOR)])) _
                  exact own_retA X94 hx Bd.returns rfl rfl (hb hby d3_64) hr
                · show Q3 Z p0 w_VALUES wPRODUCE wFETCH wLIST_OFFSETS wMETADATA wOFFSET_COMMIT wOFFSET_FETCH wFIND_COORDINATOR wJOIN_GROUP wHEARTBEAT wLEAVE_GROUP wSYNC_GROUP wAPI_VERSIONS wINIT_PRODUCER_ID wADD_PARTITIONS_TO_TXN wADD_OFFSETS_TO_TXN wEND_TXN wTXN_OFFSET_COMMIT k_VALUES h0 n0 _ T94.heap _
                  rw [e94]
                  exact ⟨by rw [f3, if_neg hc75, if_neg hc78, if_neg hc81, if_neg hc84, if_neg hc87, if_neg hc90, if_pos hc93], N0, rfl⟩
              · have k95 : ∀ t, Steps p.tables e below (s₁.setTop (mkF m 68 #[.val (.int p0)] [(.int (11 : Int32)), (.int p0)])) t → Steps p.tables e below (s₁.setTop (entryFrame m #[(.int p0)] 1)) t := fun t kt => k92 t (by
                  show Steps p.tables e below (s₁.setTop (mkF m 58 #[.val (.int p0)] [(.int (10 : Int32)), (.int p0)])) _
                  refine XS.icmpYes X0.here hx rfl (pc0 := 58) (pc' := 65) rfl (hb hby d3_58) rfl (feq (hc93 : ¬ (p0 = (10 : Int32)))).2 (by decide) (by decide) ?_
                  show Steps p.tables e below (s₁.setTop (mkF m 65 #[.val (.int p0)] [])) _
                  refine XS.iloadN X0.here hx rfl (hb hby d3_65) rfl ?_
                  show Steps p.tables e below (s₁.setTop (mkF m 66 #[.val (.int p0)] [(.int p0)])) _
                  refine XS.bipush X0.here hx rfl (hb hby d3_66) ?_
                  exact kt)
                by_cases hc96 : p0 = (11 : Int32)
                · obtain ⟨T97, X97, e97, st97⟩ := getS2 X0 hx hZ hown (host := "") (Or.inl (hw _ (List.mem_of_getElem? (i := 57) rfl))) Via.refl e0 SJOIN_GROUP (g := (mkF m 71 #[.val (.int p0)] [])) rfl (hb hby d3_71)
                  obtain ⟨fs, hr, hrun, hended, hW, hsame⟩ := X97.leave (v := some (.ref wJOIN_GROUP)) (fun h => by rw [Bd.returns] at h; cases h)
                  refine ⟨_, _, k95 _ ?_, hrun, hended, _, _, rfl, ?_, ⟨_, rfl⟩, hW, hsame.mono (by decide) (by decide)⟩
                  · show Steps p.tables e below (s₁.setTop (mkF m 68 #[.val (.int p0)] [(.int (11 : Int32)), (.int p0)])) _
                    refine XS.icmpNo X0.here hx rfl (hb hby d3_68) rfl (teq (hc96 : p0 = (11 : Int32))).2 ?_
                    show Steps p.tables e below (s₁.setTop (mkF m 71 #[.val (.int p0)] [])) _
                    refine st97 _ ?_
                    show Steps p.tables e below (T97.setTop (mkF m 74 #[.val (.int p0)] [(.ref wJOIN_GROUP)])) _
                    exact own_retA X97 hx Bd.returns rfl rfl (hb hby d3_74) hr
                  · show Q3 Z p0 w_VALUES wPRODUCE wFETCH wLIST_OFFSETS wMETADATA wOFFSET_COMMIT wOFFSET_FETCH wFIND_COORDINATOR wJOIN_GROUP wHEARTBEAT wLEAVE_GROUP wSYNC_GROUP wAPI_VERSIONS wINIT_PRODUCER_ID wADD_PARTITIONS_TO_TXN wADD_OFFSETS_TO_TXN wEND_TXN wTXN_OFFSET_COMMIT k_VALUES h0 n0 _ T97.heap _
                    rw [e97]
                    exact ⟨by rw [f3, if_neg hc75, if_neg hc78, if_neg hc81, if_neg hc84, if_neg hc87, if_neg hc90, if_neg hc93, if_pos hc96], N0, rfl⟩
                · have k98 : ∀ t, Steps p.tables e below (s₁.setTop (mkF m 78 #[.val (.int p0)] [(.int (12 : Int32)), (.int p0)])) t → Steps p.tables e below (s₁.setTop (entryFrame m #[(.int p0)] 1)) t := fun t kt => k95 t (by
                    show Steps p.tables e below (s₁.setTop (mkF m 68 #[.val (.int p0)] [(.int (11 : Int32)), (.int p0)])) _
                    refine XS.icmpYes X0.here hx rfl (pc0 := 68) (pc' := 75) rfl (hb hby d3_68) rfl (feq (hc96 : ¬ (p0 = (11 : Int32)))).2 (by decide) (by decide) ?_
                    show Steps p.tables e below (s₁.setTop (mkF m 75 #[.val (.int p0)] [])) _
                    refine XS.iloadN X0.here hx rfl (hb hby d3_75) rfl ?_
                    show Steps p.tables e below (s₁.setTop (mkF m 76 #[.val (.int p0)] [(.int p0)])) _
                    refine XS.bipush X0.here hx rfl (hb hby d3_76) ?_
                    exact kt)
                  by_cases hc99 : p0 = (12 : Int32)
                  · obtain ⟨T100, X100, e100, st100⟩ := getS2 X0 hx hZ hown (host := "") (Or.inl (hw _ (List.mem_of_getElem? (i := 58) rfl))) Via.refl e0 SHEARTBEAT (g := (mkF m 81 #[.val (.int p0)] [])) rfl (hb hby d3_81)
                    obtain ⟨fs, hr, hrun, hended, hW, hsame⟩ := X100.leave (v := some (.ref wHEARTBEAT)) (fun h => by rw [Bd.returns] at h; cases h)
                    refine ⟨_, _, k98 _ ?_, hrun, hended, _, _, rfl, ?_, ⟨_, rfl⟩, hW, hsame.mono (by decide) (by decide)⟩
                    · show Steps p.tables e below (s₁.setTop (mkF m 78 #[.val (.int p0)] [(.int (12 : Int32)), (.int p0)])) _
                      refine XS.icmpNo X0.here hx rfl (hb hby d3_78) rfl (teq (hc99 : p0 = (12 : Int32))).2 ?_
                      show Steps p.tables e below (s₁.setTop (mkF m 81 #[.val (.int p0)] [])) _
                      refine st100 _ ?_
                      show Steps p.tables e below (T100.setTop (mkF m 84 #[.val (.int p0)] [(.ref wHEARTBEAT)])) _
                      exact own_retA X100 hx Bd.returns rfl rfl (hb hby d3_84) hr
                    · show Q3 Z p0 w_VALUES wPRODUCE wFETCH wLIST_OFFSETS wMETADATA wOFFSET_COMMIT wOFFSET_FETCH wFIND_COORDINATOR wJOIN_GROUP wHEARTBEAT wLEAVE_GROUP wSYNC_GROUP wAPI_VERSIONS wINIT_PRODUCER_ID wADD_PARTITIONS_TO_TXN wADD_OFFSETS_TO_TXN wEND_TXN wTXN_OFFSET_COMMIT k_VALUES h0 n0 _ T100.heap _
                      rw [e100]
                      exact ⟨by rw [f3, if_neg hc75, if_neg hc78, if_neg hc81, if_neg hc84, if_neg hc87, if_neg hc90, if_neg hc93, if_neg hc96, if_pos hc99], N0, rfl⟩
                  · have k101 : ∀ t, Steps p.tables e below (s₁.setTop (mkF m 88 #[.val (.int p0)] [(.int (13 : Int32)), (.int p0)])) t → Steps p.tables e below (s₁.setTop (entryFrame m #[(.int p0)] 1)) t := fun t kt => k98 t (by
                      show Steps p.tables e below (s₁.setTop (mkF m 78 #[.val (.int p0)] [(.int (12 : Int32)), (.int p0)])) _
                      refine XS.icmpYes X0.here hx rfl (pc0 := 78) (pc' := 85) rfl (hb hby d3_78) rfl (feq (hc99 : ¬ (p0 = (12 : Int32)))).2 (by decide) (by decide) ?_
                      show Steps p.tables e below (s₁.setTop (mkF m 85 #[.val (.int p0)] [])) _
                      refine XS.iloadN X0.here hx rfl (hb hby d3_85) rfl ?_
                      show Steps p.tables e below (s₁.setTop (mkF m 86 #[.val (.int p0)] [(.int p0)])) _
                      refine XS.bipush X0.here hx rfl (hb hby d3_86) ?_
                      exact kt)
                    by_cases hc102 : p0 = (13 : Int32)
                    · obtain ⟨T103, X103, e103, st103⟩ := getS2 X0 hx hZ hown (host := "") (Or.inl (hw _ (List.mem_of_getElem? (i := 46) rfl))) Via.refl e0 SLEAVE_GROUP (g := (mkF m 91 #[.val (.int p0)] [])) rfl (hb hby d3_91)
                      obtain ⟨fs, hr, hrun, hended, hW, hsame⟩ := X103.leave (v := some (.ref wLEAVE_GROUP)) (fun h => by rw [Bd.returns] at h; cases h)
                      refine ⟨_, _, k101 _ ?_, hrun, hended, _, _, rfl, ?_, ⟨_, rfl⟩, hW, hsame.mono (by decide) (by decide)⟩
                      · show Steps p.tables e below (s₁.setTop (mkF m 88 #[.val (.int p0)] [(.int (13 : Int32)), (.int p0)])) _
                        refine XS.icmpNo X0.here hx rfl (hb hby d3_88) rfl (teq (hc102 : p0 = (13 : Int32))).2 ?_
                        show Steps p.tables e below (s₁.setTop (mkF m 91 #[.val (.int p0)] [])) _
                        refine st103 _ ?_
                        show Steps p.tables e below (T103.setTop (mkF m 94 #[.val (.int p0)] [(.ref wLEAVE_GROUP)])) _
                        exact own_retA X103 hx Bd.returns rfl rfl (hb hby d3_94) hr
                      · show Q3 Z p0 w_VALUES wPRODUCE wFETCH wLIST_OFFSETS wMETADATA wOFFSET_COMMIT wOFFSET_FETCH wFIND_COORDINATOR wJOIN_GROUP wHEARTBEAT wLEAVE_GROUP wSYNC_GROUP wAPI_VERSIONS wINIT_PRODUCER_ID wADD_PARTITIONS_TO_TXN wADD_OFFSETS_TO_TXN wEND_TXN wTXN_OFFSET_COMMIT k_VALUES h0 n0 _ T103.heap _
                        rw [e103]
                        exact ⟨by rw [f3, if_neg hc75, if_neg hc78, if_neg hc81, if_neg hc84, if_neg hc87, if_neg hc90, if_neg hc93, if_neg hc96, if_neg hc99, if_pos hc102], N0, rfl⟩
                    · have k104 : ∀ t, Steps p.tables e below (s₁.setTop (mkF m 98 #[.val (.int p0)] [(.int (14 : Int32)), (.int p0)])) t → Steps p.tables e below (s₁.setTop (entryFrame m #[(.int p0)] 1)) t := fun t kt => k101 t (by
                        show Steps p.tables e below (s₁.setTop (mkF m 88 #[.val (.int p0)] [(.int (13 : Int32)), (.int p0)])) _
                        refine XS.icmpYes X0.here hx rfl (pc0 := 88) (pc' := 95) rfl (hb hby d3_88) rfl (feq (hc102 : ¬ (p0 = (13 : Int32)))).2 (by decide) (by decide) ?_
                        show Steps p.tables e below (s₁.setTop (mkF m 95 #[.val (.int p0)] [])) _
                        refine XS.iloadN X0.here hx rfl (hb hby d3_95) rfl ?_
                        show Steps p.tables e below (s₁.setTop (mkF m 96 #[.val (.int p0)] [(.int p0)])) _
                        refine XS.bipush X0.here hx rfl (hb hby d3_96) ?_
                        exact kt)
                      by_cases hc105 : p0 = (14 : Int32)
                      · obtain ⟨T106, X106, e106, st106⟩ := getS2 X0 hx hZ hown (host := "") (Or.inl (hw _ (List.mem_of_getElem? (i := 50) rfl))) Via.refl e0 SSYNC_GROUP (g := (mkF m 101 #[.val (.int p0)] [])) rfl (hb hby d3_101)
                        obtain ⟨fs, hr, hrun, hended, hW, hsame⟩ := X106.leave (v := some (.ref wSYNC_GROUP)) (fun h => by rw [Bd.returns] at h; cases h)
                        refine ⟨_, _, k104 _ ?_, hrun, hended, _, _, rfl, ?_, ⟨_, rfl⟩, hW, hsame.mono (by decide) (by decide)⟩
                        · show Steps p.tables e below (s₁.setTop (mkF m 98 #[.val (.int p0)] [(.int (14 : Int32)), (.int p0)])) _
                          refine XS.icmpNo X0.here hx rfl (hb hby d3_98) rfl (teq (hc105 : p0 = (14 : Int32))).2 ?_
                          show Steps p.tables e below (s₁.setTop (mkF m 101 #[.val (.int p0)] [])) _
                          refine st106 _ ?_
                          show Steps p.tables e below (T106.setTop (mkF m 104 #[.val (.int p0)] [(.ref wSYNC_GROUP)])) _
                          exact own_retA X106 hx Bd.returns rfl rfl (hb hby d3_104) hr
                        · show Q3 Z p0 w_VALUES wPRODUCE wFETCH wLIST_OFFSETS wMETADATA wOFFSET_COMMIT wOFFSET_FETCH wFIND_COORDINATOR wJOIN_GROUP wHEARTBEAT wLEAVE_GROUP wSYNC_GROUP wAPI_VERSIONS wINIT_PRODUCER_ID wADD_PARTITIONS_TO_TXN wADD_OFFSETS_TO_TXN wEND_TXN wTXN_OFFSET_COMMIT k_VALUES h0 n0 _ T106.heap _
                          rw [e106]
                          exact ⟨by rw [f3, if_neg hc75, if_neg hc78, if_neg hc81, if_neg hc84, if_neg hc87, if_neg hc90, if_neg hc93, if_neg hc96, if_neg hc99, if_neg hc102, if_pos hc105], N0, rfl⟩
                      · have k107 : ∀ t, Steps p.tables e below (s₁.setTop (mkF m 108 #[.val (.int p0)] [(.int (18 : Int32)), (.int p0)])) t → Steps p.tables e below (s₁.setTop (entryFrame m #[(.int p0)] 1)) t := fun t kt => k104 t (by
                          show Steps p.tables e below (s₁.setTop (mkF m 98 #[.val (.int p0)] [(.int (14 : Int32)), (.int p0)])) _
                          refine XS.icmpYes X0.here hx rfl (pc0 := 98) (pc' := 105) rfl (hb hby d3_98) rfl (feq (hc105 : ¬ (p0 = (14 : Int32)))).2 (by decide) (by decide) ?_
                          show Steps p.tables e below (s₁.setTop (mkF m 105 #[.val (.int p0)] [])) _
                          refine XS.iloadN X0.here hx rfl (hb hby d3_105) rfl ?_
                          show Steps p.tables e below (s₁.setTop (mkF m 106 #[.val (.int p0)] [(.int p0)])) _
                          refine XS.bipush X0.here hx rfl (hb hby d3_106) ?_
                          exact kt)
                        by_cases hc108 : p0 = (18 : Int32)
                        · obtain ⟨T109, X109, e109, st109⟩ := getS2 X0 hx hZ hown (host := "") (Or.inl (hw _ (List.mem_of_getElem? (i := 56) rfl))) Via.refl e0 SAPI_VERSIONS (g := (mkF m 111 #[.val (.int p0)] [])) rfl (hb hby d3_111)
                          obtain ⟨fs, hr, hrun, hended, hW, hsame⟩ := X109.leave (v := some (.ref wAPI_VERSIONS)) (fun h => by rw [Bd.returns] at h; cases h)
                          refine ⟨_, _, k107 _ ?_, hrun, hended, _, _, rfl, ?_, ⟨_, rfl⟩, hW, hsame.mono (by decide) (by decide)⟩
                          · show Steps p.tables e below (s₁.setTop (mkF m 108 #[.val (.int p0)] [(.int (18 : Int32)), (.int p0)])) _
                            refine XS.icmpNo X0.here hx rfl (hb hby d3_108) rfl (teq (hc108 : p0 = (18 : Int32))).2 ?_
                            show Steps p.tables e below (s₁.setTop (mkF m 111 #[.val (.int p0)] [])) _
                            refine st109 _ ?_
                            show Steps p.tables e below (T109.setTop (mkF m 114 #[.val (.int p0)] [(.ref wAPI_VERSIONS)])) _
                            exact own_retA X109 hx Bd.returns rfl rfl (hb hby d3_114) hr
                          · show Q3 Z p0 w_VALUES wPRODUCE wFETCH wLIST_OFFSETS wMETADATA wOFFSET_COMMIT wOFFSET_FETCH wFIND_COORDINATOR wJOIN_GROUP wHEARTBEAT wLEAVE_GROUP wSYNC_GROUP wAPI_VERSIONS wINIT_PRODUCER_ID wADD_PARTITIONS_TO_TXN wADD_OFFSETS_TO_TXN wEND_TXN wTXN_OFFSET_COMMIT k_VALUES h0 n0 _ T109.heap _
                            rw [e109]
                            exact ⟨by rw [f3, if_neg hc75, if_neg hc78, if_neg hc81, if_neg hc84, if_neg hc87, if_neg hc90, if_neg hc93, if_neg hc96, if_neg hc99, if_neg hc102, if_neg hc105, if_pos hc108], N0, rfl⟩
                        · have k110 : ∀ t, Steps p.tables e below (s₁.setTop (mkF m 118 #[.val (.int p0)] [(.int (22 : Int32)), (.int p0)])) t → Steps p.tables e below (s₁.setTop (entryFrame m #[(.int p0)] 1)) t := fun t kt => k107 t (by
                            show Steps p.tables e below (s₁.setTop (mkF m 108 #[.val (.int p0)] [(.int (18 : Int32)), (.int p0)])) _
                            refine XS.icmpYes X0.here hx rfl (pc0 := 108) (pc' := 115) rfl (hb hby d3_108) rfl (feq (hc108 : ¬ (p0 = (18 : Int32)))).2 (by decide) (by decide) ?_
                            show Steps p.tables e below (s₁.setTop (mkF m 115 #[.val (.int p0)] [])) _
                            refine XS.iloadN X0.here hx rfl (hb hby d3_115) rfl ?_
                            show Steps p.tables e below (s₁.setTop (mkF m 116 #[.val (.int p0)] [(.int p0)])) _
                            refine XS.bipush X0.here hx rfl (hb hby d3_116) ?_
                            exact kt)
                          by_cases hc111 : p0 = (22 : Int32)
                          · obtain ⟨T112, X112, e112, st112⟩ := getS2 X0 hx hZ hown (host := "") (Or.inl (hw _ (List.mem_of_getElem? (i := 51) rfl))) Via.refl e0 SINIT_PRODUCER_ID (g := (mkF m 121 #[.val (.int p0)] [])) rfl (hb hby d3_121)
                            obtain ⟨fs, hr, hrun, hended, hW, hsame⟩ := X112.leave (v := some (.ref wINIT_PRODUCER_ID)) (fun h => by rw [Bd.returns] at h; cases h)
                            refine ⟨_, _, k110 _ ?_, hrun, hended, _, _, rfl, ?_, ⟨_, rfl⟩, hW, hsame.mono (by decide) (by decide)⟩
                            · show Steps p.tables e below (s₁.setTop (mkF m 118 #[.val (.int p0)] [(.int (22 : Int32)), (.int p0)])) _
                              refine XS.icmpNo X0.here hx rfl (hb hby d3_118) rfl (teq (hc111 : p0 = (22 : Int32))).2 ?_
                              show Steps p.tables e below (s₁.setTop (mkF m 121 #[.val (.int p0)] [])) _
                              refine st112 _ ?_
                              show Steps p.tables e below (T112.setTop (mkF m 124 #[.val (.int p0)] [(.ref wINIT_PRODUCER_ID)])) _
                              exact own_retA X112 hx Bd.returns rfl rfl (hb hby d3_124) hr
                            · show Q3 Z p0 w_VALUES wPRODUCE wFETCH wLIST_OFFSETS wMETADATA wOFFSET_COMMIT wOFFSET_FETCH wFIND_COORDINATOR wJOIN_GROUP wHEARTBEAT wLEAVE_GROUP wSYNC_GROUP wAPI_VERSIONS wINIT_PRODUCER_ID wADD_PARTITIONS_TO_TXN wADD_OFFSETS_TO_TXN wEND_TXN wTXN_OFFSET_COMMIT k_VALUES h0 n0 _ T112.heap _
                              rw [e112]
                              exact ⟨by rw [f3, if_neg hc75, if_neg hc78, if_neg hc81, if_neg hc84, if_neg hc87, if_neg hc90, if_neg hc93, if_neg hc96, if_neg hc99, if_neg hc102, if_neg hc105, if_neg hc108, if_pos hc111], N0, rfl⟩
                          · have k113 : ∀ t, Steps p.tables e below (s₁.setTop (mkF m 128 #[.val (.int p0)] [(.int (24 : Int32)), (.int p0)])) t → Steps p.tables e below (s₁.setTop (entryFrame m #[(.int p0)] 1)) t := fun t kt => k110 t (by
                              show Steps p.tables e below (s₁.setTop (mkF m 118 #[.val (.int p0)] [(.int (22 : Int32)), (.int p0)])) _
                              refine XS.icmpYes X0.here hx rfl (pc0 := 118) (pc' := 125) rfl (hb hby d3_118) rfl (feq (hc111 : ¬ (p0 = (22 : Int32)))).2 (by decide) (by decide) ?_
                              show Steps p.tables e below (s₁.setTop (mkF m 125 #[.val (.int p0)] [])) _
                              refine XS.iloadN X0.here hx rfl (hb hby d3_125) rfl ?_
                              show Steps p.tables e below (s₁.setTop (mkF m 126 #[.val (.int p0)] [(.int p0)])) _
                              refine XS.bipush X0.here hx rfl (hb hby d3_126) ?_
                              exact kt)
                            by_cases hc114 : p0 = (24 : Int32)
                            · obtain ⟨T115, X115, e115, st115⟩ := getS2 X0 hx hZ hown (host := "") (Or.inl (hw _ (List.mem_of_getElem? (i := 49) rfl))) Via.refl e0 SADD_PARTITIONS_TO_TXN (g := (mkF m 131 #[.val (.int p0)] [])) rfl (hb hby d3_131)
                              obtain ⟨fs, hr, hrun, hended, hW, hsame⟩ := X115.leave (v := some (.ref wADD_PARTITIONS_TO_TXN)) (fun h => by rw [Bd.returns] at h; cases h)
                              refine ⟨_, _, k113 _ ?_, hrun, hended, _, _, rfl, ?_, ⟨_, rfl⟩, hW, hsame.mono (by decide) (by decide)⟩
                              · show Steps p.tables e below (s₁.setTop (mkF m 128 #[.val (.int p0)] [(.int (24 : Int32)), (.int p0)])) _
                                refine XS.icmpNo X0.here hx rfl (hb hby d3_128) rfl (teq (hc114 : p0 = (24 : Int32))).2 ?_
                                show Steps p.tables e below (s₁.setTop (mkF m 131 #[.val (.int p0)] [])) _
                                refine st115 _ ?_
                                show Steps p.tables e below (T115.setTop (mkF m 134 #[.val (.int p0)] [(.ref wADD_PARTITIONS_TO_TXN)])) _
                                exact own_retA X115 hx Bd.returns rfl rfl (hb hby d3_134) hr
                              · show Q3 Z p0 w_VALUES wPRODUCE wFETCH wLIST_OFFSETS wMETADATA wOFFSET_COMMIT wOFFSET_FETCH wFIND_COORDINATOR wJOIN_GROUP wHEARTBEAT wLEAVE_GROUP wSYNC_GROUP wAPI_VERSIONS wINIT_PRODUCER_ID wADD_PARTITIONS_TO_TXN wADD_OFFSETS_TO_TXN wEND_TXN wTXN_OFFSET_COMMIT k_VALUES h0 n0 _ T115.heap _
                                rw [e115]
                                exact ⟨by rw [f3, if_neg hc75, if_neg hc78, if_neg hc81, if_neg hc84, if_neg hc87, if_neg hc90, if_neg hc93, if_neg hc96, if_neg hc99, if_neg hc102, if_neg hc105, if_neg hc108, if_neg hc111, if_pos hc114], N0, rfl⟩
                            · have k116 : ∀ t, Steps p.tables e below (s₁.setTop (mkF m 138 #[.val (.int p0)] [(.int (25 : Int32)), (.int p0)])) t → Steps p.tables e below (s₁.setTop (entryFrame m #[(.int p0)] 1)) t := fun t kt => k113 t (by
                                show Steps p.tables e below (s₁.setTop (mkF m 128 #[.val (.int p0)] [(.int (24 : Int32)), (.int p0)])) _
                                refine XS.icmpYes X0.here hx rfl (pc0 := 128) (pc' := 135) rfl (hb hby d3_128) rfl (feq (hc114 : ¬ (p0 = (24 : Int32)))).2 (by decide) (by decide) ?_
                                show Steps p.tables e below (s₁.setTop (mkF m 135 #[.val (.int p0)] [])) _
                                refine XS.iloadN X0.here hx rfl (hb hby d3_135) rfl ?_
                                show Steps p.tables e below (s₁.setTop (mkF m 136 #[.val (.int p0)] [(.int p0)])) _
                                refine XS.bipush X0.here hx rfl (hb hby d3_136) ?_
                                exact kt)
                              by_cases hc117 : p0 = (25 : Int32)
                              · obtain ⟨T118, X118, e118, st118⟩ := getS2 X0 hx hZ hown (host := "") (Or.inl (hw _ (List.mem_of_getElem? (i := 52) rfl))) Via.refl e0 SADD_OFFSETS_TO_TXN (g := (mkF m 141 #[.val (.int p0)] [])) rfl (hb hby d3_141)
                                obtain ⟨fs, hr, hrun, hended, hW, hsame⟩ := X118.leave (v := some (.ref wADD_OFFSETS_TO_TXN)) (fun h => by rw [Bd.returns] at h; cases h)
                                refine ⟨_, _, k116 _ ?_, hrun, hended, _, _, rfl, ?_, ⟨_, rfl⟩, hW, hsame.mono (by decide) (by decide)⟩
                                · show Steps p.tables e below (s₁.setTop (mkF m 138 #[.val (.int p0)] [(.int (25 : Int32)), (.int p0)])) _
                                  refine XS.icmpNo X0.here hx rfl (hb hby d3_138) rfl (teq (hc117 : p0 = (25 : Int32))).2 ?_
                                  show Steps p.tables e below (s₁.setTop (mkF m 141 #[.val (.int p0)] [])) _
                                  refine st118 _ ?_
                                  show Steps p.tables e below (T118.setTop (mkF m 144 #[.val (.int p0)] [(.ref wADD_OFFSETS_TO_TXN)])) _
                                  exact own_retA X118 hx Bd.returns rfl rfl (hb hby d3_144) hr
                                · show Q3 Z p0 w_VALUES wPRODUCE wFETCH wLIST_OFFSETS wMETADATA wOFFSET_COMMIT wOFFSET_FETCH wFIND_COORDINATOR wJOIN_GROUP wHEARTBEAT wLEAVE_GROUP wSYNC_GROUP wAPI_VERSIONS wINIT_PRODUCER_ID wADD_PARTITIONS_TO_TXN wADD_OFFSETS_TO_TXN wEND_TXN wTXN_OFFSET_COMMIT k_VALUES h0 n0 _ T118.heap _
                                  rw [e118]
                                  exact ⟨by rw [f3, if_neg hc75, if_neg hc78, if_neg hc81, if_neg hc84, if_neg hc87, if_neg hc90, if_neg hc93, if_neg hc96, if_neg hc99, if_neg hc102, if_neg hc105, if_neg hc108, if_neg hc111, if_neg hc114, if_pos hc117], N0, rfl⟩
                              · have k119 : ∀ t, Steps p.tables e below (s₁.setTop (mkF m 148 #[.val (.int p0)] [(.int (26 : Int32)), (.int p0)])) t → Steps p.tables e below (s₁.setTop (entryFrame m #[(.int p0)] 1)) t := fun t kt => k116 t (by
                                  show Steps p.tables e below (s₁.setTop (mkF m 138 #[.val (.int p0)] [(.int (25 : Int32)), (.int p0)])) _
                                  refine XS.icmpYes X0.here hx rfl (pc0 := 138) (pc' := 145) rfl (hb hby d3_138) rfl (feq (hc117 : ¬ (p0 = (25 : Int32)))).2 (by decide) (by decide) ?_
                                  show Steps p.tables e below (s₁.setTop (mkF m 145 #[.val (.int p0)] [])) _
                                  refine XS.iloadN X0.here hx rfl (hb hby d3_145) rfl ?_
                                  show Steps p.tables e below (s₁.setTop (mkF m 146 #[.val (.int p0)] [(.int p0)])) _
                                  refine XS.bipush X0.here hx rfl (hb hby d3_146) ?_
                                  exact kt)
                                by_cases hc120 : p0 = (26 : Int32)
                                · obtain ⟨T121, X121, e121, st121⟩ := getS2 X0 hx hZ hown (host := "") (Or.inl (hw _ (List.mem_of_getElem? (i := 59) rfl))) Via.refl e0 SEND_TXN (g := (mkF m 151 #[.val (.int p0)] [])) rfl (hb hby d3_151)
                                  obtain ⟨fs, hr, hrun, hended, hW, hsame⟩ := X121.leave (v := some (.ref wEND_TXN)) (fun h => by rw [Bd.returns] at h; cases h)
                                  refine ⟨_, _, k119 _ ?_, hrun, hended, _, _, rfl, ?_, ⟨_, rfl⟩, hW, hsame.mono (by decide) (by decide)⟩
                                  · show Steps p.tables e below (s₁.setTop (mkF m 148 #[.val (.int p0)] [(.int (26 : Int32)), (.int p0)])) _
                                    refine XS.icmpNo X0.here hx rfl (hb hby d3_148) rfl (teq (hc120 : p0 = (26 : Int32))).2 ?_
                                    show Steps p.tables e below (s₁.setTop (mkF m 151 #[.val (.int p0)] [])) _
                                    refine st121 _ ?_
                                    show Steps p.tables e below (T121.setTop (mkF m 154 #[.val (.int p0)] [(.ref wEND_TXN)])) _
                                    exact own_retA X121 hx Bd.returns rfl rfl (hb hby d3_154) hr
                                  · show Q3 Z p0 w_VALUES wPRODUCE wFETCH wLIST_OFFSETS wMETADATA wOFFSET_COMMIT wOFFSET_FETCH wFIND_COORDINATOR wJOIN_GROUP wHEARTBEAT wLEAVE_GROUP wSYNC_GROUP wAPI_VERSIONS wINIT_PRODUCER_ID wADD_PARTITIONS_TO_TXN wADD_OFFSETS_TO_TXN wEND_TXN wTXN_OFFSET_COMMIT k_VALUES h0 n0 _ T121.heap _
                                    rw [e121]
                                    exact ⟨by rw [f3, if_neg hc75, if_neg hc78, if_neg hc81, if_neg hc84, if_neg hc87, if_neg hc90, if_neg hc93, if_neg hc96, if_neg hc99, if_neg hc102, if_neg hc105, if_neg hc108, if_neg hc111, if_neg hc114, if_neg hc117, if_pos hc120], N0, rfl⟩
                                · have k122 : ∀ t, Steps p.tables e below (s₁.setTop (mkF m 158 #[.val (.int p0)] [(.int (28 : Int32)), (.int p0)])) t → Steps p.tables e below (s₁.setTop (entryFrame m #[(.int p0)] 1)) t := fun t kt => k119 t (by
                                    show Steps p.tables e below (s₁.setTop (mkF m 148 #[.val (.int p0)] [(.int (26 : Int32)), (.int p0)])) _
                                    refine XS.icmpYes X0.here hx rfl (pc0 := 148) (pc' := 155) rfl (hb hby d3_148) rfl (feq (hc120 : ¬ (p0 = (26 : Int32)))).2 (by decide) (by decide) ?_
                                    show Steps p.tables e below (s₁.setTop (mkF m 155 #[.val (.int p0)] [])) _
                                    refine XS.iloadN X0.here hx rfl (hb hby d3_155) rfl ?_
                                    show Steps p.tables e below (s₁.setTop (mkF m 156 #[.val (.int p0)] [(.int p0)])) _
                                    refine XS.bipush X0.here hx rfl (hb hby d3_156) ?_
                                    exact kt)
                                  by_cases hc123 : p0 = (28 : Int32)
                                  · obtain ⟨T124, X124, e124, st124⟩ := getS2 X0 hx hZ hown (host := "") (Or.inl (hw _ (List.mem_of_getElem? (i := 48) rfl))) Via.refl e0 STXN_OFFSET_COMMIT (g := (mkF m 161 #[.val (.int p0)] [])) rfl (hb hby d3_161)
                                    obtain ⟨fs, hr, hrun, hended, hW, hsame⟩ := X124.leave (v := some (.ref wTXN_OFFSET_COMMIT)) (fun h => by rw [Bd.returns] at h; cases h)
                                    refine ⟨_, _, k122 _ ?_, hrun, hended, _, _, rfl, ?_, ⟨_, rfl⟩, hW, hsame.mono (by decide) (by decide)⟩
                                    · show Steps p.tables e below (s₁.setTop (mkF m 158 #[.val (.int p0)] [(.int (28 : Int32)), (.int p0)])) _
                                      refine XS.icmpNo X0.here hx rfl (hb hby d3_158) rfl (teq (hc123 : p0 = (28 : Int32))).2 ?_
                                      show Steps p.tables e below (s₁.setTop (mkF m 161 #[.val (.int p0)] [])) _
                                      refine st124 _ ?_
                                      show Steps p.tables e below (T124.setTop (mkF m 164 #[.val (.int p0)] [(.ref wTXN_OFFSET_COMMIT)])) _
                                      exact own_retA X124 hx Bd.returns rfl rfl (hb hby d3_164) hr
                                    · show Q3 Z p0 w_VALUES wPRODUCE wFETCH wLIST_OFFSETS wMETADATA wOFFSET_COMMIT wOFFSET_FETCH wFIND_COORDINATOR wJOIN_GROUP wHEARTBEAT wLEAVE_GROUP wSYNC_GROUP wAPI_VERSIONS wINIT_PRODUCER_ID wADD_PARTITIONS_TO_TXN wADD_OFFSETS_TO_TXN wEND_TXN wTXN_OFFSET_COMMIT k_VALUES h0 n0 _ T124.heap _
                                      rw [e124]
                                      exact ⟨by rw [f3, if_neg hc75, if_neg hc78, if_neg hc81, if_neg hc84, if_neg hc87, if_neg hc90, if_neg hc93, if_neg hc96, if_neg hc99, if_neg hc102, if_neg hc105, if_neg hc108, if_neg hc111, if_neg hc114, if_neg hc117, if_neg hc120, if_pos hc123], N0, rfl⟩
                                  · obtain ⟨fs, hr, hrun, hended, hW, hsame⟩ := X0.leave (v := some .null) (fun h => by rw [Bd.returns] at h; cases h)
                                    refine ⟨_, _, k122 _ ?_, hrun, hended, _, _, rfl, ?_, ⟨_, rfl⟩, hW, hsame.mono (by decide) (by decide)⟩
                                    · show Steps p.tables e below (s₁.setTop (mkF m 158 #[.val (.int p0)] [(.int (28 : Int32)), (.int p0)])) _
                                      refine XS.icmpYes X0.here hx rfl (pc0 := 158) (pc' := 165) rfl (hb hby d3_158) rfl (feq (hc123 : ¬ (p0 = (28 : Int32)))).2 (by decide) (by decide) ?_
                                      show Steps p.tables e below (s₁.setTop (mkF m 165 #[.val (.int p0)] [])) _
                                      refine XS.aconstNull X0.here hx rfl (hb hby d3_165) ?_
                                      show Steps p.tables e below (s₁.setTop (mkF m 166 #[.val (.int p0)] [.null])) _
                                      exact own_retA X0 hx Bd.returns rfl rfl (hb hby d3_166) hr
                                    · show Q3 Z p0 w_VALUES wPRODUCE wFETCH wLIST_OFFSETS wMETADATA wOFFSET_COMMIT wOFFSET_FETCH wFIND_COORDINATOR wJOIN_GROUP wHEARTBEAT wLEAVE_GROUP wSYNC_GROUP wAPI_VERSIONS wINIT_PRODUCER_ID wADD_PARTITIONS_TO_TXN wADD_OFFSETS_TO_TXN wEND_TXN wTXN_OFFSET_COMMIT k_VALUES h0 n0 _ s₁.heap _
                                      rw [e0]
                                      exact ⟨by rw [f3, if_neg hc75, if_neg hc78, if_neg hc81, if_neg hc84, if_neg hc87, if_neg hc90, if_neg hc93, if_neg hc96, if_neg hc99, if_neg hc102, if_neg hc105, if_neg hc108, if_neg hc111, if_neg hc114, if_neg hc117, if_neg hc120, if_neg hc123], N0, rfl⟩
theorem pd_1 : parseMethodDescriptor "(S)Lcom/example/idem_log/idemlog/protocol/Api;" = some ⟨[.short], some (.object "com/example/idem_log/idemlog/protocol/Api")⟩ := by decide +kernel
theorem pd_2 : parseMethodDescriptor "(I)Lcom/example/idem_log/idemlog/protocol/Api;" = some ⟨[.int], some (.object "com/example/idem_log/idemlog/protocol/Api")⟩ := by decide +kernel
theorem ef_0 (m : MethodId) (p0 : Int32) (p1 : Int32) : entryFrame m #[(.int p0), (.int p1)] maxLocals = mkF m 0 #[.val (.int p0), .val (.int p1), .unset, .unset, .unset] [] := by first | (simp [entryFrame, mkF, argsToLocals, Value.category, maxLocals]; done) | rfl
def Q0 (Z : State) (p0 : Int32) (p1 : Int32) (w_VALUES : Addr) (wPRODUCE : Addr) (wFETCH : Addr) (wLIST_OFFSETS : Addr) (wMETADATA : Addr) (wOFFSET_COMMIT : Addr) (wOFFSET_FETCH : Addr) (wFIND_COORDINATOR : Addr) (wJOIN_GROUP : Addr) (wHEARTBEAT : Addr) (wLEAVE_GROUP : Addr) (wSYNC_GROUP : Addr) (wAPI_VERSIONS : Addr) (wINIT_PRODUCER_ID : Addr) (wADD_PARTITIONS_TO_TXN : Addr) (wADD_OFFSETS_TO_TXN : Addr) (wEND_TXN : Addr) (wTXN_OFFSET_COMMIT : Addr) (k_VALUES : ClassId) (h0 : Heap) (n0 : Nat) (v : Option Value) (h : Heap) (L : List Loc) : Prop := v = some (.int 1) ∧ Fr n0 L
set_option maxRecDepth 65536 in
set_option maxHeartbeats 40000000 in
theorem rm0 (l : Launch) (Z : State) (a0 : Array Value) (hw : ∀ d ∈ tables_1, d.before a0 Z = true) (ws : List Jvm.Cond) (p0 : Int32) (p1 : Int32) (w_VALUES : Addr) (wPRODUCE : Addr) (wFETCH : Addr) (wLIST_OFFSETS : Addr) (wMETADATA : Addr) (wOFFSET_COMMIT : Addr) (wOFFSET_FETCH : Addr) (wFIND_COORDINATOR : Addr) (wJOIN_GROUP : Addr) (wHEARTBEAT : Addr) (wLEAVE_GROUP : Addr) (wSYNC_GROUP : Addr) (wAPI_VERSIONS : Addr) (wINIT_PRODUCER_ID : Addr) (wADD_PARTITIONS_TO_TXN : Addr) (wADD_OFFSETS_TO_TXN : Addr) (wEND_TXN : Addr) (wTXN_OFFSET_COMMIT : Addr) (k_VALUES : ClassId) (h0 : Heap) (n0 : Nat) (Z0 : n0 ≤ h0.size) (W0 : World Z h0 w_VALUES wPRODUCE wFETCH wLIST_OFFSETS wMETADATA wOFFSET_COMMIT wOFFSET_FETCH wFIND_COORDINATOR wJOIN_GROUP wHEARTBEAT wLEAVE_GROUP wSYNC_GROUP wAPI_VERSIONS wINIT_PRODUCER_ID wADD_PARTITIONS_TO_TXN wADD_OFFSETS_TO_TXN wEND_TXN wTXN_OFFSET_COMMIT k_VALUES) :
    MetFree l x (head1 (Jvm.Cond.code x code maxLocals ret :: ws) room_1) (fun a U => a = #[(.int p0), (.int p1)] ∧ Z.Warmed39 U.vm ∧ U.heap = h0) (fun _ _ _ _ _ => True) (fun _ U o U' => ∃ v L, o = .returned v ∧ Q0 Z p0 p1 w_VALUES wPRODUCE wFETCH wLIST_OFFSETS wMETADATA wOFFSET_COMMIT wOFFSET_FETCH wFIND_COORDINATOR wJOIN_GROUP wHEARTBEAT wLEAVE_GROUP wSYNC_GROUP wAPI_VERSIONS wINIT_PRODUCER_ID wADD_PARTITIONS_TO_TXN wADD_OFFSETS_TO_TXN wEND_TXN wTXN_OFFSET_COMMIT k_VALUES h0 n0 v U'.heap L ∧ FrameEnd U o U' L room_1.cells room_1.slots) := by
  refine MetFree.of_bodySF (plainFor_of_name pn_1) hisR ?_
  intro p e s m args below meth c s₁ Bd hml0 hP hK
  obtain ⟨rfl, hZ, hh⟩ := hP
  have hx := Bd.exec
  have hby := Bd.bytes
  have hml : c.maxLocals = 5 := hml0
  have hown : s.vm.findClass "com/example/idem_log/idemlog/protocol/ApiForKeyPinLaw" = some m.cls := findClass_of_methodNamed Bd.named
  have X0 : Stand p l e room_1 s m #[(.int p0), (.int p1)] below meth c s₁ [] 0 0 := Stand.of_body Bd
  have e0 : s₁.heap = h0 := by rw [← hh, Bd.state]; rfl
  have N0 := Fr.nil n0
  have W1 := W0
  obtain ⟨S_VALUES, E_VALUES, SPRODUCE, EPRODUCE, SFETCH, EFETCH, SLIST_OFFSETS, ELIST_OFFSETS, SMETADATA, EMETADATA, SOFFSET_COMMIT, EOFFSET_COMMIT, SOFFSET_FETCH, EOFFSET_FETCH, SFIND_COORDINATOR, EFIND_COORDINATOR, SJOIN_GROUP, EJOIN_GROUP, SHEARTBEAT, EHEARTBEAT, SLEAVE_GROUP, ELEAVE_GROUP, SSYNC_GROUP, ESYNC_GROUP, SAPI_VERSIONS, EAPI_VERSIONS, SINIT_PRODUCER_ID, EINIT_PRODUCER_ID, SADD_PARTITIONS_TO_TXN, EADD_PARTITIONS_TO_TXN, SADD_OFFSETS_TO_TXN, EADD_OFFSETS_TO_TXN, SEND_TXN, EEND_TXN, STXN_OFFSET_COMMIT, ETXN_OFFSET_COMMIT, FPRODUCE_key, FFETCH_key, FLIST_OFFSETS_key, FMETADATA_key, FOFFSET_COMMIT_key, FOFFSET_FETCH_key, FFIND_COORDINATOR_key, FJOIN_GROUP_key, FHEARTBEAT_key, FLEAVE_GROUP_key, FSYNC_GROUP_key, FAPI_VERSIONS_key, FINIT_PRODUCER_ID_key, FADD_PARTITIONS_TO_TXN_key, FADD_OFFSETS_TO_TXN_key, FEND_TXN_key, FTXN_OFFSET_COMMIT_key, A_VALUES, -⟩ := W1
  have pre0 : ∀ t, Steps p.tables e below (s₁.setTop (mkF m 0 #[.val (.int p0), .val (.int p1), .unset, .unset, .unset] [])) t → Steps p.tables e below (s₁.setTop (entryFrame m #[(.int p0), (.int p1)] maxLocals)) t := fun t k => castTop (ef_0 m p0 p1) k
  have k125 : ∀ t, Steps p.tables e below (s₁.setTop (mkF m 3 #[.val (.int p0), .val (.int p1), .unset, .unset, .unset] [(.int (p0 &&& (1 : Int32)))])) t → Steps p.tables e below (s₁.setTop (entryFrame m #[(.int p0), (.int p1)] maxLocals)) t := fun t kt => pre0 t (by
    show Steps p.tables e below (s₁.setTop (mkF m 0 #[.val (.int p0), .val (.int p1), .unset, .unset, .unset] [])) _
    refine XS.iloadN X0.here hx rfl (hb hby at_0) rfl ?_
    show Steps p.tables e below (s₁.setTop (mkF m 1 #[.val (.int p0), .val (.int p1), .unset, .unset, .unset] [(.int p0)])) _
    refine XS.iconst X0.here hx rfl (hb hby at_1) ?_
    show Steps p.tables e below (s₁.setTop (mkF m 2 #[.val (.int p0), .val (.int p1), .unset, .unset, .unset] [(.int (1 : Int32)), (.int p0)])) _
    refine XS.iand X0.here hx rfl (hb hby at_2) rfl ?_
    exact kt)
  by_cases hc126 : (p0 &&& (1 : Int32)) = (0 : Int32)
  · obtain ⟨i127, hi127⟩ : ∃ z, z = (p1.toInt16.toInt32) := ⟨_, rfl⟩
    obtain ⟨_, _, ⟨T128, L128, k128, n128⟩, -, X128, ⟨Lc128, hQ128, l128, y128, z128⟩, st128⟩ := Jvm.LawKit.callS X0 hx (y := (⟨"com/example/idem_log/idemlog/protocol/Api", "forKey", "(S)Lcom/example/idem_log/idemlog/protocol/Api;"⟩ : MethodName)) hown (mvT hZ (hw _ (List.mem_of_getElem? (i := 0) rfl))) (mvT hZ (hw _ (List.mem_of_getElem? (i := 1) rfl))) (mvT hZ (hw _ (List.mem_of_getElem? (i := 2) rfl))) (mvT hZ (hw _ (List.mem_of_getElem? (i := 3) rfl))) (by decide) (backOf (W := 0) (rm2 l Z a0 hw [] i127 w_VALUES wPRODUCE wFETCH wLIST_OFFSETS wMETADATA wOFFSET_COMMIT wOFFSET_FETCH wFIND_COORDINATOR wJOIN_GROUP wHEARTBEAT wLEAVE_GROUP wSYNC_GROUP wAPI_VERSIONS wINIT_PRODUCER_ID wADD_PARTITIONS_TO_TXN wADD_OFFSETS_TO_TXN wEND_TXN wTXN_OFFSET_COMMIT k_VALUES h0 n0 Z0 W0 ) hZ (hw _ (List.mem_of_getElem? (i := 3) rfl)) (hw _ (List.mem_of_getElem? (i := 2) rfl)) (by decide) (by decide)) (g := (mkF m 19 #[.val (.int p0), .val (.int p1), .val (.int i127), .unset, .unset] [(.int i127)])) rfl (by rw [hml]; rfl) (argsL := [(.int i127)]) (rest := []) (lenOf pd_1 rfl) rfl (by show 2 * 0 + _ ≤ _; exact Nat.le_of_eq rfl) (hb hby at_19) (fun _ _ => ⟨rfl, e0, (by decide : 0 + 1 ≤ _), (by decide : 0 + 17 ≤ _)⟩)
    dsimp only [Pt.U, Pt.locs, Pt.cells, Pt.slots] at X128 l128 y128 z128 st128 hQ128
    subst l128 y128 z128
    unfold Q2 at hQ128
    have k129 : ∀ t, Steps p.tables e below (s₁.setTop (mkF m 19 #[.val (.int p0), .val (.int p1), .val (.int i127), .unset, .unset] [(.int i127)])) t → Steps p.tables e below (s₁.setTop (entryFrame m #[(.int p0), (.int p1)] maxLocals)) t := fun t kt => k125 t (by
      show Steps p.tables e below (s₁.setTop (mkF m 3 #[.val (.int p0), .val (.int p1), .unset, .unset, .unset] [(.int (p0 &&& (1 : Int32)))])) _
      refine XS.ifYes X0.here hx rfl (pc0 := 3) (pc' := 15) rfl (hb hby at_3) rfl ((if0 _ _).trans (teq (hc126 : (p0 &&& (1 : Int32)) = (0 : Int32))).1) (by decide) (by decide) ?_
      show Steps p.tables e below (s₁.setTop (mkF m 15 #[.val (.int p0), .val (.int p1), .unset, .unset, .unset] [])) _
      refine XS.iloadN X0.here hx rfl (hb hby at_15) rfl ?_
      show Steps p.tables e below (s₁.setTop (mkF m 16 #[.val (.int p0), .val (.int p1), .unset, .unset, .unset] [(.int p1)])) _
      refine XS.i2s X0.here hx rfl (hb hby at_16) rfl ?_
      rw [← hi127]
      show Steps p.tables e below (s₁.setTop (mkF m 17 #[.val (.int p0), .val (.int p1), .unset, .unset, .unset] [(.int i127)])) _
      refine XS.istoreN X0.here hx rfl (hb hby at_17) rfl (l' := #[.val (.int p0), .val (.int p1), .val (.int i127), .unset, .unset]) rfl ?_
      show Steps p.tables e below (s₁.setTop (mkF m 18 #[.val (.int p0), .val (.int p1), .val (.int i127), .unset, .unset] [])) _
      refine XS.iloadN X0.here hx rfl (hb hby at_18) rfl ?_
      exact kt)
    by_cases hc130 : (0 : Int32) = i127
    · rw [((by rw [f2, if_pos (hc130 : (0 : Int32) = i127)]) : (f2 i127 w_VALUES wPRODUCE wFETCH wLIST_OFFSETS wMETADATA wOFFSET_COMMIT wOFFSET_FETCH wFIND_COORDINATOR wJOIN_GROUP wHEARTBEAT wLEAVE_GROUP wSYNC_GROUP wAPI_VERSIONS wINIT_PRODUCER_ID wADD_PARTITIONS_TO_TXN wADD_OFFSETS_TO_TXN wEND_TXN wTXN_OFFSET_COMMIT k_VALUES) = (.ref wPRODUCE))] at hQ128
      obtain ⟨rfl, N128q, E128⟩ := hQ128
      have N128 := Fr.app N0 N128q
      have EX128 : Ext h0 T128.heap := E128
      obtain ⟨_, _, ⟨T131, L131, k131, n131⟩, -, X131, ⟨Lc131, hQ131, l131, y131, z131⟩, st131⟩ := Jvm.LawKit.callS X128 hx (y := (⟨"com/example/idem_log/idemlog/protocol/ApiForKeyPinLaw", "expected", "(I)Lcom/example/idem_log/idemlog/protocol/Api;"⟩ : MethodName)) hown (mvT hZ (hw _ (List.mem_of_getElem? (i := 38) rfl))) (mvT hZ (hw _ (List.mem_of_getElem? (i := 39) rfl))) (mvT hZ (hw _ (List.mem_of_getElem? (i := 40) rfl))) (mvT hZ (hw _ (List.mem_of_getElem? (i := 41) rfl))) (by decide) (backOf (W := 0) (rm3 l Z a0 hw [] i127 w_VALUES wPRODUCE wFETCH wLIST_OFFSETS wMETADATA wOFFSET_COMMIT wOFFSET_FETCH wFIND_COORDINATOR wJOIN_GROUP wHEARTBEAT wLEAVE_GROUP wSYNC_GROUP wAPI_VERSIONS wINIT_PRODUCER_ID wADD_PARTITIONS_TO_TXN wADD_OFFSETS_TO_TXN wEND_TXN wTXN_OFFSET_COMMIT k_VALUES T128.heap n0 (Nat.le_trans Z0 EX128.1) (W0.ext EX128) ) hZ (hw _ (List.mem_of_getElem? (i := 41) rfl)) (hw _ (List.mem_of_getElem? (i := 40) rfl)) (by decide) (by decide)) (g := (mkF m 24 #[.val (.int p0), .val (.int p1), .val (.int i127), .val (.ref wPRODUCE), .unset] [(.int i127)])) rfl (by rw [hml]; rfl) (argsL := [(.int i127)]) (rest := []) (lenOf pd_2 rfl) rfl (by show 2 * 0 + _ ≤ _; exact Nat.le_of_eq rfl) (hb hby at_24) (fun _ _ => ⟨rfl, rfl, (by decide : 1 + 0 ≤ _), (by decide : 17 + 0 ≤ _)⟩)
      dsimp only [Pt.U, Pt.locs, Pt.cells, Pt.slots] at X131 l131 y131 z131 st131 hQ131
      subst l131 y131 z131
      unfold Q3 at hQ131
      have k132 : ∀ t, Steps p.tables e below (T128.setTop (mkF m 24 #[.val (.int p0), .val (.int p1), .val (.int i127), .val (.ref wPRODUCE), .unset] [(.int i127)])) t → Steps p.tables e below (s₁.setTop (entryFrame m #[(.int p0), (.int p1)] maxLocals)) t := fun t kt => k129 t (by
        show Steps p.tables e below (s₁.setTop (mkF m 19 #[.val (.int p0), .val (.int p1), .val (.int i127), .unset, .unset] [(.int i127)])) _
        refine st128 _ ?_
        show Steps p.tables e below (T128.setTop (mkF m 22 #[.val (.int p0), .val (.int p1), .val (.int i127), .unset, .unset] [(.ref wPRODUCE)])) _
        refine XS.astoreN X128.here hx rfl (hb hby at_22) rfl rfl (l' := #[.val (.int p0), .val (.int p1), .val (.int i127), .val (.ref wPRODUCE), .unset]) rfl ?_
        show Steps p.tables e below (T128.setTop (mkF m 23 #[.val (.int p0), .val (.int p1), .val (.int i127), .val (.ref wPRODUCE), .unset] [])) _
        refine XS.iloadN X128.here hx rfl (hb hby at_23) rfl ?_
        exact kt)
      rw [((by rw [f3, if_pos ((Eq.symm hc130) : i127 = (0 : Int32))]) : (f3 i127 w_VALUES wPRODUCE wFETCH wLIST_OFFSETS wMETADATA wOFFSET_COMMIT wOFFSET_FETCH wFIND_COORDINATOR wJOIN_GROUP wHEARTBEAT wLEAVE_GROUP wSYNC_GROUP wAPI_VERSIONS wINIT_PRODUCER_ID wADD_PARTITIONS_TO_TXN wADD_OFFSETS_TO_TXN wEND_TXN wTXN_OFFSET_COMMIT k_VALUES) = (.ref wPRODUCE))] at hQ131
      obtain ⟨rfl, N131q, e131⟩ := hQ131
      have N131 := Fr.app N128 N131q
      obtain ⟨T133, X133, e133, st133⟩ := getF X131 hx hZ hown (host := "") (Or.inl (hw _ (List.mem_of_getElem? (i := 43) rfl))) Via.refl e131 (FPRODUCE_key.ext EX128) (g := (mkF m 42 #[.val (.int p0), .val (.int p1), .val (.int i127), .val (.ref wPRODUCE), .val (.ref wPRODUCE)] [(.ref wPRODUCE)])) rfl rfl (hb hby at_42)
      obtain ⟨fs, hr, hrun, hended, hW, hsame⟩ := X133.leave (v := some (.int (1 : Int32))) (fun h => by rw [Bd.returns] at h; cases h)
      refine ⟨_, _, k132 _ ?_, hrun, hended, _, _, rfl, ?_, ⟨_, rfl⟩, hW, hsame.mono (by decide) (by decide)⟩
      · show Steps p.tables e below (T128.setTop (mkF m 24 #[.val (.int p0), .val (.int p1), .val (.int i127), .val (.ref wPRODUCE), .unset] [(.int i127)])) _
        refine st131 _ ?_
        show Steps p.tables e below (T131.setTop (mkF m 27 #[.val (.int p0), .val (.int p1), .val (.int i127), .val (.ref wPRODUCE), .unset] [(.ref wPRODUCE)])) _
        refine XS.astore X131.here hx rfl (hb hby at_27) rfl rfl (l' := #[.val (.int p0), .val (.int p1), .val (.int i127), .val (.ref wPRODUCE), .val (.ref wPRODUCE)]) rfl ?_
        show Steps p.tables e below (T131.setTop (mkF m 29 #[.val (.int p0), .val (.int p1), .val (.int i127), .val (.ref wPRODUCE), .val (.ref wPRODUCE)] [])) _
        refine XS.aloadN X131.here hx rfl (hb hby at_29) rfl rfl ?_
        show Steps p.tables e below (T131.setTop (mkF m 30 #[.val (.int p0), .val (.int p1), .val (.int i127), .val (.ref wPRODUCE), .val (.ref wPRODUCE)] [(.ref wPRODUCE)])) _
        refine XS.aload X131.here hx rfl (hb hby at_30) rfl rfl ?_
        show Steps p.tables e below (T131.setTop (mkF m 32 #[.val (.int p0), .val (.int p1), .val (.int i127), .val (.ref wPRODUCE), .val (.ref wPRODUCE)] [(.ref wPRODUCE), (.ref wPRODUCE)])) _
        refine Jvm.RoadKit.acmp (g := (mkF m 32 #[.val (.int p0), .val (.int p1), .val (.int i127), .val (.ref wPRODUCE), .val (.ref wPRODUCE)] [(.ref wPRODUCE), (.ref wPRODUCE)])) X131 hx rfl rfl rfl (pc0 := 32) (pc' := 37) (same := true) rfl (hb hby at_32) rfl (decide_eq_true (congrArg Value.ref (rfl : wPRODUCE = wPRODUCE))) (by decide) (by decide) ?_
        show Steps p.tables e below (T131.setTop (mkF m 37 #[.val (.int p0), .val (.int p1), .val (.int i127), .val (.ref wPRODUCE), .val (.ref wPRODUCE)] [])) _
        refine XS.aloadN X131.here hx rfl (hb hby at_37) rfl rfl ?_
        show Steps p.tables e below (T131.setTop (mkF m 38 #[.val (.int p0), .val (.int p1), .val (.int i127), .val (.ref wPRODUCE), .val (.ref wPRODUCE)] [(.ref wPRODUCE)])) _
        refine XS.ifnullNo X131.here hx rfl (hb hby at_38) rfl ?_
        show Steps p.tables e below (T131.setTop (mkF m 41 #[.val (.int p0), .val (.int p1), .val (.int i127), .val (.ref wPRODUCE), .val (.ref wPRODUCE)] [])) _
        refine XS.aloadN X131.here hx rfl (hb hby at_41) rfl rfl ?_
        show Steps p.tables e below (T131.setTop (mkF m 42 #[.val (.int p0), .val (.int p1), .val (.int i127), .val (.ref wPRODUCE), .val (.ref wPRODUCE)] [(.ref wPRODUCE)])) _
        refine st133 _ ?_
        show Steps p.tables e below (T133.setTop (mkF m 45 #[.val (.int p0), .val (.int p1), .val (.int i127), .val (.ref wPRODUCE), .val (.ref wPRODUCE)] [(.int (0 : Int32))])) _
        refine XS.iloadN X133.here hx rfl (hb hby at_45) rfl ?_
        show Steps p.tables e below (T133.setTop (mkF m 46 #[.val (.int p0), .val (.int p1), .val (.int i127), .val (.ref wPRODUCE), .val (.ref wPRODUCE)] [(.int i127), (.int (0 : Int32))])) _
        refine XS.icmpNo X133.here hx rfl (hb hby at_46) rfl (teq (hc130 : (0 : Int32) = i127)).2 ?_
        show Steps p.tables e below (T133.setTop (mkF m 49 #[.val (.int p0), .val (.int p1), .val (.int i127), .val (.ref wPRODUCE), .val (.ref wPRODUCE)] [])) _
        refine XS.iconst X133.here hx rfl (hb hby at_49) ?_
        show Steps p.tables e below (T133.setTop (mkF m 50 #[.val (.int p0), .val (.int p1), .val (.int i127), .val (.ref wPRODUCE), .val (.ref wPRODUCE)] [(.int (1 : Int32))])) _
        refine XS.goto X133.here hx rfl (pc0 := 50) (pc' := 54) rfl (hb hby at_50) (by decide) (by decide) ?_
        show Steps p.tables e below (T133.setTop (mkF m 54 #[.val (.int p0), .val (.int p1), .val (.int i127), .val (.ref wPRODUCE), .val (.ref wPRODUCE)] [(.int (1 : Int32))])) _
        exact retN X133 hx (t := .boolean) Bd.returns (by simp) (hb hby at_54) hr
      · show Q0 Z p0 p1 w_VALUES wPRODUCE wFETCH wLIST_OFFSETS wMETADATA wOFFSET_COMMIT wOFFSET_FETCH wFIND_COORDINATOR wJOIN_GROUP wHEARTBEAT wLEAVE_GROUP wSYNC_GROUP wAPI_VERSIONS wINIT_PRODUCER_ID wADD_PARTITIONS_TO_TXN wADD_OFFSETS_TO_TXN wEND_TXN wTXN_OFFSET_COMMIT k_VALUES h0 n0 _ T133.heap _
        rw [e133]
        exact ⟨rfl, N131⟩
    · by_cases hc134 : (1 : Int32) = i127
      · rw [((by rw [f2, if_neg (hc130 : ¬ ((0 : Int32) = i127)), if_pos (hc134 : (1 : Int32) = i127)]) : (f2 i127 w_VALUES wPRODUCE wFETCH wLIST_OFFSETS wMETADATA wOFFSET_COMMIT wOFFSET_FETCH wFIND_COORDINATOR wJOIN_GROUP wHEARTBEAT wLEAVE_GROUP wSYNC_GROUP wAPI_VERSIONS wINIT_PRODUCER_ID wADD_PARTITIONS_TO_TXN wADD_OFFSETS_TO_TXN wEND_TXN wTXN_OFFSET_COMMIT k_VALUES) = (.ref wFETCH))] at hQ128
        obtain ⟨rfl, N128q, E128⟩ := hQ128
        have N128 := Fr.app N0 N128q
        have EX128 : Ext h0 T128.heap := E128
        obtain ⟨_, _, ⟨T135, L135, k135, n135⟩, -, X135, ⟨Lc135, hQ135, l135, y135, z135⟩, st135⟩ := Jvm.LawKit.callS X128 hx (y := (⟨"com/example/idem_log/idemlog/protocol/ApiForKeyPinLaw", "expected", "(I)Lcom/example/idem_log/idemlog/protocol/Api;"⟩ : MethodName)) hown (mvT hZ (hw _ (List.mem_of_getElem? (i := 38) rfl))) (mvT hZ (hw _ (List.mem_of_getElem? (i := 39) rfl))) (mvT hZ (hw _ (List.mem_of_getElem? (i := 40) rfl))) (mvT hZ (hw _ (List.mem_of_getElem? (i := 41) rfl))) (by decide) (backOf (W := 0) (rm3 l Z a0 hw [] i127 w_VALUES wPRODUCE wFETCH wLIST_OFFSETS wMETADATA wOFFSET_COMMIT wOFFSET_FETCH wFIND_COORDINATOR wJOIN_GROUP wHEARTBEAT wLEAVE_GROUP wSYNC_GROUP wAPI_VERSIONS wINIT_PRODUCER_ID wADD_PARTITIONS_TO_TXN wADD_OFFSETS_TO_TXN wEND_TXN wTXN_OFFSET_COMMIT k_VALUES T128.heap n0 (Nat.le_trans Z0 EX128.1) (W0.ext EX128) ) hZ (hw _ (List.mem_of_getElem? (i := 41) rfl)) (hw _ (List.mem_of_getElem? (i := 40) rfl)) (by decide) (by decide)) (g := (mkF m 24 #[.val (.int p0), .val (.int p1), .val (.int i127), .val (.ref wFETCH), .unset] [(.int i127)])) rfl (by rw [hml]; rfl) (argsL := [(.int i127)]) (rest := []) (lenOf pd_2 rfl) rfl (by show 2 * 0 + _ ≤ _; exact Nat.le_of_eq rfl) (hb hby at_24) (fun _ _ => ⟨rfl, rfl, (by decide : 1 + 0 ≤ _), (by decide : 17 + 0 ≤ _)⟩)
        dsimp only [Pt.U, Pt.locs, Pt.cells, Pt.slots] at X135 l135 y135 z135 st135 hQ135
        subst l135 y135 z135
        unfold Q3 at hQ135
        have k136 : ∀ t, Steps p.tables e below (T128.setTop (mkF m 24 #[.val (.int p0), .val (.int p1), .val (.int i127), .val (.ref wFETCH), .unset] [(.int i127)])) t → Steps p.tables e below (s₁.setTop (entryFrame m #[(.int p0), (.int p1)] maxLocals)) t := fun t kt => k129 t (by
          show Steps p.tables e below (s₁.setTop (mkF m 19 #[.val (.int p0), .val (.int p1), .val (.int i127), .unset, .unset] [(.int i127)])) _
          refine st128 _ ?_
          show Steps p.tables e below (T128.setTop (mkF m 22 #[.val (.int p0), .val (.int p1), .val (.int i127), .unset, .unset] [(.ref wFETCH)])) _
          refine XS.astoreN X128.here hx rfl (hb hby at_22) rfl rfl (l' := #[.val (.int p0), .val (.int p1), .val (.int i127), .val (.ref wFETCH), .unset]) rfl ?_
          show Steps p.tables e below (T128.setTop (mkF m 23 #[.val (.int p0), .val (.int p1), .val (.int i127), .val (.ref wFETCH), .unset] [])) _
          refine XS.iloadN X128.here hx rfl (hb hby at_23) rfl ?_
          exact kt)
        rw [((by rw [f3, if_neg ((Ne.symm hc130) : ¬ (i127 = (0 : Int32))), if_pos ((Eq.symm hc134) : i127 = (1 : Int32))]) : (f3 i127 w_VALUES wPRODUCE wFETCH wLIST_OFFSETS wMETADATA wOFFSET_COMMIT wOFFSET_FETCH wFIND_COORDINATOR wJOIN_GROUP wHEARTBEAT wLEAVE_GROUP wSYNC_GROUP wAPI_VERSIONS wINIT_PRODUCER_ID wADD_PARTITIONS_TO_TXN wADD_OFFSETS_TO_TXN wEND_TXN wTXN_OFFSET_COMMIT k_VALUES) = (.ref wFETCH))] at hQ135
        obtain ⟨rfl, N135q, e135⟩ := hQ135
        have N135 := Fr.app N128 N135q
        obtain ⟨T137, X137, e137, st137⟩ := getF X135 hx hZ hown (host := "") (Or.inl (hw _ (List.mem_of_getElem? (i := 43) rfl))) Via.refl e135 (FFETCH_key.ext EX128) (g := (mkF m 42 #[.val (.int p0), .val (.int p1), .val (.int i127), .val (.ref wFETCH), .val (.ref wFETCH)] [(.ref wFETCH)])) rfl rfl (hb hby at_42)
        obtain ⟨fs, hr, hrun, hended, hW, hsame⟩ := X137.leave (v := some (.int (1 : Int32))) (fun h => by rw [Bd.returns] at h; cases h)
        refine ⟨_, _, k136 _ ?_, hrun, hended, _, _, rfl, ?_, ⟨_, rfl⟩, hW, hsame.mono (by decide) (by decide)⟩
        · show Steps p.tables e below (T128.setTop (mkF m 24 #[.val (.int p0), .val (.int p1), .val (.int i127), .val (.ref wFETCH), .unset] [(.int i127)])) _
          refine st135 _ ?_
          show Steps p.tables e below (T135.setTop (mkF m 27 #[.val (.int p0), .val (.int p1), .val (.int i127), .val (.ref wFETCH), .unset] [(.ref wFETCH)])) _
          refine XS.astore X135.here hx rfl (hb hby at_27) rfl rfl (l' := #[.val (.int p0), .val (.int p1), .val (.int i127), .val (.ref wFETCH), .val (.ref wFETCH)]) rfl ?_
          show Steps p.tables e below (T135.setTop (mkF m 29 #[.val (.int p0), .val (.int p1), .val (.int i127), .val (.ref wFETCH), .val (.ref wFETCH)] [])) _
          refine XS.aloadN X135.here hx rfl (hb hby at_29) rfl rfl ?_
          show Steps p.tables e below (T135.setTop (mkF m 30 #[.val (.int p0), .val (.int p1), .val (.int i127), .val (.ref wFETCH), .val (.ref wFETCH)] [(.ref wFETCH)])) _
          refine XS.aload X135.here hx rfl (hb hby at_30) rfl rfl ?_
          show Steps p.tables e below (T135.setTop (mkF m 32 #[.val (.int p0), .val (.int p1), .val (.int i127), .val (.ref wFETCH), .val (.ref wFETCH)] [(.ref wFETCH), (.ref wFETCH)])) _
          refine Jvm.RoadKit.acmp (g := (mkF m 32 #[.val (.int p0), .val (.int p1), .val (.int i127), .val (.ref wFETCH), .val (.ref wFETCH)] [(.ref wFETCH), (.ref wFETCH)])) X135 hx rfl rfl rfl (pc0 := 32) (pc' := 37) (same := true) rfl (hb hby at_32) rfl (decide_eq_true (congrArg Value.ref (rfl : wFETCH = wFETCH))) (by decide) (by decide) ?_
          show Steps p.tables e below (T135.setTop (mkF m 37 #[.val (.int p0), .val (.int p1), .val (.int i127), .val (.ref wFETCH), .val (.ref wFETCH)] [])) _
          refine XS.aloadN X135.here hx rfl (hb hby at_37) rfl rfl ?_
          show Steps p.tables e below (T135.setTop (mkF m 38 #[.val (.int p0), .val (.int p1), .val (.int i127), .val (.ref wFETCH), .val (.ref wFETCH)] [(.ref wFETCH)])) _
          refine XS.ifnullNo X135.here hx rfl (hb hby at_38) rfl ?_
          show Steps p.tables e below (T135.setTop (mkF m 41 #[.val (.int p0), .val (.int p1), .val (.int i127), .val (.ref wFETCH), .val (.ref wFETCH)] [])) _
          refine XS.aloadN X135.here hx rfl (hb hby at_41) rfl rfl ?_
          show Steps p.tables e below (T135.setTop (mkF m 42 #[.val (.int p0), .val (.int p1), .val (.int i127), .val (.ref wFETCH), .val (.ref wFETCH)] [(.ref wFETCH)])) _
          refine st137 _ ?_
          show Steps p.tables e below (T137.setTop (mkF m 45 #[.val (.int p0), .val (.int p1), .val (.int i127), .val (.ref wFETCH), .val (.ref wFETCH)] [(.int (1 : Int32))])) _
          refine XS.iloadN X137.here hx rfl (hb hby at_45) rfl ?_
          show Steps p.tables e below (T137.setTop (mkF m 46 #[.val (.int p0), .val (.int p1), .val (.int i127), .val (.ref wFETCH), .val (.ref wFETCH)] [(.int i127), (.int (1 : Int32))])) _
          refine XS.icmpNo X137.here hx rfl (hb hby at_46) rfl (teq (hc134 : (1 : Int32) = i127)).2 ?_
          show Steps p.tables e below (T137.setTop (mkF m 49 #[.val (.int p0), .val (.int p1), .val (.int i127), .val (.ref wFETCH), .val (.ref wFETCH)] [])) _
          refine XS.iconst X137.here hx rfl (hb hby at_49) ?_
          show Steps p.tables e below (T137.setTop (mkF m 50 #[.val (.int p0), .val (.int p1), .val (.int i127), .val (.ref wFETCH), .val (.ref wFETCH)] [(.int (1 : Int32))])) _
          refine XS.goto X137.here hx rfl (pc0 := 50) (pc' := 54) rfl (hb hby at_50) (by decide) (by decide) ?_
          show Steps p.tables e below (T137.setTop (mkF m 54 #[.val (.int p0), .val (.int p1), .val (.int i127), .val (.ref wFETCH), .val (.ref wFETCH)] [(.int (1 : Int32))])) _
          exact retN X137 hx (t := .boolean) Bd.returns (by simp) (hb hby at_54) hr
        · show Q0 Z p0 p1 w_VALUES wPRODUCE wFETCH wLIST_OFFSETS wMETADATA wOFFSET_COMMIT wOFFSET_FETCH wFIND_COORDINATOR wJOIN_GROUP wHEARTBEAT wLEAVE_GROUP wSYNC_GROUP wAPI_VERSIONS wINIT_PRODUCER_ID wADD_PARTITIONS_TO_TXN wADD_OFFSETS_TO_TXN wEND_TXN wTXN_OFFSET_COMMIT k_VALUES h0 n0 _ T137.heap _
          rw [e137]
          exact ⟨rfl, N135⟩
      · by_cases hc138 : (2 : Int32) = i127
        · rw [((by rw [f2, if_neg (hc130 : ¬ ((0 : Int32) = i127)), if_neg (hc134 : ¬ ((1 : Int32) = i127)), if_pos (hc138 : (2 : Int32) = i127)]) : (f2 i127 w_VALUES wPRODUCE wFETCH wLIST_OFFSETS wMETADATA wOFFSET_COMMIT wOFFSET_FETCH wFIND_COORDINATOR wJOIN_GROUP wHEARTBEAT wLEAVE_GROUP wSYNC_GROUP wAPI_VERSIONS wINIT_PRODUCER_ID wADD_PARTITIONS_TO_TXN wADD_OFFSETS_TO_TXN wEND_TXN wTXN_OFFSET_COMMIT k_VALUES) = (.ref wLIST_OFFSETS))] at hQ128
          obtain ⟨rfl, N128q, E128⟩ := hQ128
          have N128 := Fr.app N0 N128q
          have EX128 : Ext h0 T128.heap := E128
          obtain ⟨_, _, ⟨T139, L139, k139, n139⟩, -, X139, ⟨Lc139, hQ139, l139, y139, z139⟩, st139⟩ := Jvm.LawKit.callS X128 hx (y := (⟨"com/example/idem_log/idemlog/protocol/ApiForKeyPinLaw", "expected", "(I)Lcom/example/idem_log/idemlog/protocol/Api;"⟩ : MethodName)) hown (mvT hZ (hw _ (List.mem_of_getElem? (i := 38) rfl))) (mvT hZ (hw _ (List.mem_of_getElem? (i := 39) rfl))) (mvT hZ (hw _ (List.mem_of_getElem? (i := 40) rfl))) (mvT hZ (hw _ (List.mem_of_getElem? (i := 41) rfl))) (by decide) (backOf (W := 0) (rm3 l Z a0 hw [] i127 w_VALUES wPRODUCE wFETCH wLIST_OFFSETS wMETADATA wOFFSET_COMMIT wOFFSET_FETCH wFIND_COORDINATOR wJOIN_GROUP wHEARTBEAT wLEAVE_GROUP wSYNC_GROUP wAPI_VERSIONS wINIT_PRODUCER_ID wADD_PARTITIONS_TO_TXN wADD_OFFSETS_TO_TXN wEND_TXN wTXN_OFFSET_COMMIT k_VALUES T128.heap n0 (Nat.le_trans Z0 EX128.1) (W0.ext EX128) ) hZ (hw _ (List.mem_of_getElem? (i := 41) rfl)) (hw _ (List.mem_of_getElem? (i := 40) rfl)) (by decide) (by decide)) (g := (mkF m 24 #[.val (.int p0), .val (.int p1), .val (.int i127), .val (.ref wLIST_OFFSETS), .unset] [(.int i127)])) rfl (by rw [hml]; rfl) (argsL := [(.int i127)]) (rest := []) (lenOf pd_2 rfl) rfl (by show 2 * 0 + _ ≤ _; exact Nat.le_of_eq rfl) (hb hby at_24) (fun _ _ => ⟨rfl, rfl, (by decide : 1 + 0 ≤ _), (by decide : 17 + 0 ≤ _)⟩)
          dsimp only [Pt.U, Pt.locs, Pt.cells, Pt.slots] at X139 l139 y139 z139 st139 hQ139
          subst l139 y139 z139
          unfold Q3 at hQ139
          have k140 : ∀ t, Steps p.tables e below (T128.setTop (mkF m 24 #[.val (.int p0), .val (.int p1), .val (.int i127), .val (.ref wLIST_OFFSETS), .unset] [(.int i127)])) t → Steps p.tables e below (s₁.setTop (entryFrame m #[(.int p0), (.int p1)] maxLocals)) t := fun t kt => k129 t (by
            show Steps p.tables e below (s₁.setTop (mkF m 19 #[.val (.int p0), .val (.int p1), .val (.int i127), .unset, .unset] [(.int i127)])) _
            refine st128 _ ?_
            show Steps p.tables e below (T128.setTop (mkF m 22 #[.val (.int p0), .val (.int p1), .val (.int i127), .unset, .unset] [(.ref wLIST_OFFSETS)])) _
            refine XS.astoreN X128.here hx rfl (hb hby at_22) rfl rfl (l' := #[.val (.int p0), .val (.int p1), .val (.int i127), .val (.ref wLIST_OFFSETS), .unset]) rfl ?_
            show Steps p.tables e below (T128.setTop (mkF m 23 #[.val (.int p0), .val (.int p1), .val (.int i127), .val (.ref wLIST_OFFSETS), .unset] [])) _
            refine XS.iloadN X128.here hx rfl (hb hby at_23) rfl ?_
            exact kt)
          rw [((by rw [f3, if_neg ((Ne.symm hc130) : ¬ (i127 = (0 : Int32))), if_neg ((Ne.symm hc134) : ¬ (i127 = (1 : Int32))), if_pos ((Eq.symm hc138) : i127 = (2 : Int32))]) : (f3 i127 w_VALUES wPRODUCE wFETCH wLIST_OFFSETS wMETADATA wOFFSET_COMMIT wOFFSET_FETCH wFIND_COORDINATOR wJOIN_GROUP wHEARTBEAT wLEAVE_GROUP wSYNC_GROUP wAPI_VERSIONS wINIT_PRODUCER_ID wADD_PARTITIONS_TO_TXN wADD_OFFSETS_TO_TXN wEND_TXN wTXN_OFFSET_COMMIT k_VALUES) = (.ref wLIST_OFFSETS))] at hQ139
          obtain ⟨rfl, N139q, e139⟩ := hQ139
          have N139 := Fr.app N128 N139q
          obtain ⟨T141, X141, e141, st141⟩ := getF X139 hx hZ hown (host := "") (Or.inl (hw _ (List.mem_of_getElem? (i := 43) rfl))) Via.refl e139 (FLIST_OFFSETS_key.ext EX128) (g := (mkF m 42 #[.val (.int p0), .val (.int p1), .val (.int i127), .val (.ref wLIST_OFFSETS), .val (.ref wLIST_OFFSETS)] [(.ref wLIST_OFFSETS)])) rfl rfl (hb hby at_42)
          obtain ⟨fs, hr, hrun, hended, hW, hsame⟩ := X141.leave (v := some (.int (1 : Int32))) (fun h => by rw [Bd.returns] at h; cases h)
          refine ⟨_, _, k140 _ ?_, hrun, hended, _, _, rfl, ?_, ⟨_, rfl⟩, hW, hsame.mono (by decide) (by decide)⟩
          · show Steps p.tables e below (T128.setTop (mkF m 24 #[.val (.int p0), .val (.int p1), .val (.int i127), .val (.ref wLIST_OFFSETS), .unset] [(.int i127)])) _
            refine st139 _ ?_
            show Steps p.tables e below (T139.setTop (mkF m 27 #[.val (.int p0), .val (.int p1), .val (.int i127), .val (.ref wLIST_OFFSETS), .unset] [(.ref wLIST_OFFSETS)])) _
            refine XS.astore X139.here hx rfl (hb hby at_27) rfl rfl (l' := #[.val (.int p0), .val (.int p1), .val (.int i127), .val (.ref wLIST_OFFSETS), .val (.ref wLIST_OFFSETS)]) rfl ?_
            show Steps p.tables e below (T139.setTop (mkF m 29 #[.val (.int p0), .val (.int p1), .val (.int i127), .val (.ref wLIST_OFFSETS), .val (.ref wLIST_OFFSETS)] [])) _
            refine XS.aloadN X139.here hx rfl (hb hby at_29) rfl rfl ?_
            show Steps p.tables e below (T139.setTop (mkF m 30 #[.val (.int p0), .val (.int p1), .val (.int i127), .val (.ref wLIST_OFFSETS), .val (.ref wLIST_OFFSETS)] [(.ref wLIST_OFFSETS)])) _
            refine XS.aload X139.here hx rfl (hb hby at_30) rfl rfl ?_
            show Steps p.tables e below (T139.setTop (mkF m 32 #[.val (.int p0), .val (.int p1), .val (.int i127), .val (.ref wLIST_OFFSETS), .val (.ref wLIST_OFFSETS)] [(.ref wLIST_OFFSETS), (.ref wLIST_OFFSETS)])) _
            refine Jvm.RoadKit.acmp (g := (mkF m 32 #[.val (.int p0), .val (.int p1), .val (.int i127), .val (.ref wLIST_OFFSETS), .val (.ref wLIST_OFFSETS)] [(.ref wLIST_OFFSETS), (.ref wLIST_OFFSETS)])) X139 hx rfl rfl rfl (pc0 := 32) (pc' := 37) (same := true) rfl (hb hby at_32) rfl (decide_eq_true (congrArg Value.ref (rfl : wLIST_OFFSETS = wLIST_OFFSETS))) (by decide) (by decide) ?_
            show Steps p.tables e below (T139.setTop (mkF m 37 #[.val (.int p0), .val (.int p1), .val (.int i127), .val (.ref wLIST_OFFSETS), .val (.ref wLIST_OFFSETS)] [])) _
            refine XS.aloadN X139.here hx rfl (hb hby at_37) rfl rfl ?_
            show Steps p.tables e below (T139.setTop (mkF m 38 #[.val (.int p0), .val (.int p1), .val (.int i127), .val (.ref wLIST_OFFSETS), .val (.ref wLIST_OFFSETS)] [(.ref wLIST_OFFSETS)])) _
            refine XS.ifnullNo X139.here hx rfl (hb hby at_38) rfl ?_
            show Steps p.tables e below (T139.setTop (mkF m 41 #[.val (.int p0), .val (.int p1), .val (.int i127), .val (.ref wLIST_OFFSETS), .val (.ref wLIST_OFFSETS)] [])) _
            refine XS.aloadN X139.here hx rfl (hb hby at_41) rfl rfl ?_
            show Steps p.tables e below (T139.setTop (mkF m 42 #[.val (.int p0), .val (.int p1), .val (.int i127), .val (.ref wLIST_OFFSETS), .val (.ref wLIST_OFFSETS)] [(.ref wLIST_OFFSETS)])) _
            refine st141 _ ?_
            show Steps p.tables e below (T141.setTop (mkF m 45 #[.val (.int p0), .val (.int p1), .val (.int i127), .val (.ref wLIST_OFFSETS), .val (.ref wLIST_OFFSETS)] [(.int (2 : Int32))])) _
            refine XS.iloadN X141.here hx rfl (hb hby at_45) rfl ?_
            show Steps p.tables e below (T141.setTop (mkF m 46 #[.val (.int p0), .val (.int p1), .val (.int i127), .val (.ref wLIST_OFFSETS), .val (.ref wLIST_OFFSETS)] [(.int i127), (.int (2 : Int32))])) _
            refine XS.icmpNo X141.here hx rfl (hb hby at_46) rfl (teq (hc138 : (2 : Int32) = i127)).2 ?_
            show Steps p.tables e below (T141.setTop (mkF m 49 #[.val (.int p0), .val (.int p1), .val (.int i127), .val (.ref wLIST_OFFSETS), .val (.ref wLIST_OFFSETS)] [])) _
            refine XS.iconst X141.here hx rfl (hb hby at_49) ?_
            show Steps p.tables e below (T141.setTop (mkF m 50 #[.val (.int p0), .val (.int p1), .val (.int i127), .val (.ref wLIST_OFFSETS), .val (.ref wLIST_OFFSETS)] [(.int (1 : Int32))])) _
            refine XS.goto X141.here hx rfl (pc0 := 50) (pc' := 54) rfl (hb hby at_50) (by decide) (by decide) ?_
            show Steps p.tables e below (T141.setTop (mkF m 54 #[.val (.int p0), .val (.int p1), .val (.int i127), .val (.ref wLIST_OFFSETS), .val (.ref wLIST_OFFSETS)] [(.int (1 : Int32))])) _
            exact retN X141 hx (t := .boolean) Bd.returns (by simp) (hb hby at_54) hr
          · show Q0 Z p0 p1 w_VALUES wPRODUCE wFETCH wLIST_OFFSETS wMETADATA wOFFSET_COMMIT wOFFSET_FETCH wFIND_COORDINATOR wJOIN_GROUP wHEARTBEAT wLEAVE_GROUP wSYNC_GROUP wAPI_VERSIONS wINIT_PRODUCER_ID wADD_PARTITIONS_TO_TXN wADD_OFFSETS_TO_TXN wEND_TXN wTXN_OFFSET_COMMIT k_VALUES h0 n0 _ T141.heap _
            rw [e141]
            exact ⟨rfl, N139⟩
        · by_cases hc142 : (3 : Int32) = i127
          · rw [((by rw [f2, if_neg (hc130 : ¬ ((0 : Int32) = i127)), if_neg (hc134 : ¬ ((1 : Int32) = i127)), if_neg (hc138 : ¬ ((2 : Int32) = i127)), if_pos (hc142 : (3 : Int32) = i127)]) : (f2 i127 w_VALUES wPRODUCE wFETCH wLIST_OFFSETS wMETADATA wOFFSET_COMMIT wOFFSET_FETCH wFIND_COORDINATOR wJOIN_GROUP wHEARTBEAT wLEAVE_GROUP wSYNC_GROUP wAPI_VERSIONS wINIT_PRODUCER_ID wADD_PARTITIONS_TO_TXN wADD_OFFSETS_TO_TXN wEND_TXN wTXN_OFFSET_COMMIT k_VALUES) = (.ref wMETADATA))] at hQ128
            obtain ⟨rfl, N128q, E128⟩ := hQ128
            have N128 := Fr.app N0 N128q
            have EX128 : Ext h0 T128.heap := E128
            obtain ⟨_, _, ⟨T143, L143, k143, n143⟩, -, X143, ⟨Lc143, hQ143, l143, y143, z143⟩, st143⟩ := Jvm.LawKit.callS X128 hx (y := (⟨"com/example/idem_log/idemlog/protocol/ApiForKeyPinLaw", "expected", "(I)Lcom/example/idem_log/idemlog/protocol/Api;"⟩ : MethodName)) hown (mvT hZ (hw _ (List.mem_of_getElem? (i := 38) rfl))) (mvT hZ (hw _ (List.mem_of_getElem? (i := 39) rfl))) (mvT hZ (hw _ (List.mem_of_getElem? (i := 40) rfl))) (mvT hZ (hw _ (List.mem_of_getElem? (i := 41) rfl))) (by decide) (backOf (W := 0) (rm3 l Z a0 hw [] i127 w_VALUES wPRODUCE wFETCH wLIST_OFFSETS wMETADATA wOFFSET_COMMIT wOFFSET_FETCH wFIND_COORDINATOR wJOIN_GROUP wHEARTBEAT wLEAVE_GROUP wSYNC_GROUP wAPI_VERSIONS wINIT_PRODUCER_ID wADD_PARTITIONS_TO_TXN wADD_OFFSETS_TO_TXN wEND_TXN wTXN_OFFSET_COMMIT k_VALUES T128.heap n0 (Nat.le_trans Z0 EX128.1) (W0.ext EX128) ) hZ (hw _ (List.mem_of_getElem? (i := 41) rfl)) (hw _ (List.mem_of_getElem? (i := 40) rfl)) (by decide) (by decide)) (g := (mkF m 24 #[.val (.int p0), .val (.int p1), .val (.int i127), .val (.ref wMETADATA), .unset] [(.int i127)])) rfl (by rw [hml]; rfl) (argsL := [(.int i127)]) (rest := []) (lenOf pd_2 rfl) rfl (by show 2 * 0 + _ ≤ _; exact Nat.le_of_eq rfl) (hb hby at_24) (fun _ _ => ⟨rfl, rfl, (by decide : 1 + 0 ≤ _), (by decide : 17 + 0 ≤ _)⟩)
            dsimp only [Pt.U, Pt.locs, Pt.cells, Pt.slots] at X143 l143 y143 z143 st143 hQ143
            subst l143 y143 z143
            unfold Q3 at hQ143
            have k144 : ∀ t, Steps p.tables e below (T128.setTop (mkF m 24 #[.val (.int p0), .val (.int p1), .val (.int i127), .val (.ref wMETADATA), .unset] [(.int i127)])) t → Steps p.tables e below (s₁.setTop (entryFrame m #[(.int p0), (.int p1)] maxLocals)) t := fun t kt => k129 t (by
              show Steps p.tables e below (s₁.setTop (mkF m 19 #[.val (.int p0), .val (.int p1), .val (.int i127), .unset, .unset] [(.int i127)])) _
              refine st128 _ ?_
              show Steps p.tables e below (T128.setTop (mkF m 22 #[.val (.int p0), .val (.int p1), .val (.int i127), .unset, .unset] [(.ref wMETADATA)])) _
              refine XS.astoreN X128.here hx rfl (hb hby at_22) rfl rfl (l' := #[.val (.int p0), .val (.int p1), .val (.int i127), .val (.ref wMETADATA), .unset]) rfl ?_
              show Steps p.tables e below (T128.setTop (mkF m 23 #[.val (.int p0), .val (.int p1), .val (.int i127), .val (.ref wMETADATA), .unset] [])) _
              refine XS.iloadN X128.here hx rfl (hb hby at_23) rfl ?_
              exact kt)
            rw [((by rw [f3, if_neg ((Ne.symm hc130) : ¬ (i127 = (0 : Int32))), if_neg ((Ne.symm hc134) : ¬ (i127 = (1 : Int32))), if_neg ((Ne.symm hc138) : ¬ (i127 = (2 : Int32))), if_pos ((Eq.symm hc142) : i127 = (3 : Int32))]) : (f3 i127 w_VALUES wPRODUCE wFETCH wLIST_OFFSETS wMETADATA wOFFSET_COMMIT wOFFSET_FETCH wFIND_COORDINATOR wJOIN_GROUP wHEARTBEAT wLEAVE_GROUP wSYNC_GROUP wAPI_VERSIONS wINIT_PRODUCER_ID wADD_PARTITIONS_TO_TXN wADD_OFFSETS_TO_TXN wEND_TXN wTXN_OFFSET_COMMIT k_VALUES) = (.ref wMETADATA))] at hQ143
            obtain ⟨rfl, N143q, e143⟩ := hQ143
            have N143 := Fr.app N128 N143q
            obtain ⟨T145, X145, e145, st145⟩ := getF X143 hx hZ hown (host := "") (Or.inl (hw _ (List.mem_of_getElem? (i := 43) rfl))) Via.refl e143 (FMETADATA_key.ext EX128) (g := (mkF m 42 #[.val (.int p0), .val (.int p1), .val (.int i127), .val (.ref wMETADATA), .val (.ref wMETADATA)] [(.ref wMETADATA)])) rfl rfl (hb hby at_42)
            obtain ⟨fs, hr, hrun, hended, hW, hsame⟩ := X145.leave (v := some (.int (1 : Int32))) (fun h => by rw [Bd.returns] at h; cases h)
            refine ⟨_, _, k144 _ ?_, hrun, hended, _, _, rfl, ?_, ⟨_, rfl⟩, hW, hsame.mono (by decide) (by decide)⟩
            · show Steps p.tables e below (T128.setTop (mkF m 24 #[.val (.int p0), .val (.int p1), .val (.int i127), .val (.ref wMETADATA), .unset] [(.int i127)])) _
              refine st143 _ ?_
              show Steps p.tables e below (T143.setTop (mkF m 27 #[.val (.int p0), .val (.int p1), .val (.int i127), .val (.ref wMETADATA), .unset] [(.ref wMETADATA)])) _
              refine XS.astore X143.here hx rfl (hb hby at_27) rfl rfl (l' := #[.val (.int p0), .val (.int p1), .val (.int i127), .val (.ref wMETADATA), .val (.ref wMETADATA)]) rfl ?_
              show Steps p.tables e below (T143.setTop (mkF m 29 #[.val (.int p0), .val (.int p1), .val (.int i127), .val (.ref wMETADATA), .val (.ref wMETADATA)] [])) _
              refine XS.aloadN X143.here hx rfl (hb hby at_29) rfl rfl ?_
              show Steps p.tables e below (T143.setTop (mkF m 30 #[.val (.int p0), .val (.int p1), .val (.int i127), .val (.ref wMETADATA), .val (.ref wMETADATA)] [(.ref wMETADATA)])) _
              refine XS.aload X143.here hx rfl (hb hby at_30) rfl rfl ?_
              show Steps p.tables e below (T143.setTop (mkF m 32 #[.val (.int p0), .val (.int p1), .val (.int i127), .val (.ref wMETADATA), .val (.ref wMETADATA)] [(.ref wMETADATA), (.ref wMETADATA)])) _
              refine Jvm.RoadKit.acmp (g := (mkF m 32 #[.val (.int p0), .val (.int p1), .val (.int i127), .val (.ref wMETADATA), .val (.ref wMETADATA)] [(.ref wMETADATA), (.ref wMETADATA)])) X143 hx rfl rfl rfl (pc0 := 32) (pc' := 37) (same := true) rfl (hb hby at_32) rfl (decide_eq_true (congrArg Value.ref (rfl : wMETADATA = wMETADATA))) (by decide) (by decide) ?_
              show Steps p.tables e below (T143.setTop (mkF m 37 #[.val (.int p0), .val (.int p1), .val (.int i127), .val (.ref wMETADATA), .val (.ref wMETADATA)] [])) _
              refine XS.aloadN X143.here hx rfl (hb hby at_37) rfl rfl ?_
              show Steps p.tables e below (T143.setTop (mkF m 38 #[.val (.int p0), .val (.int p1), .val (.int i127), .val (.ref wMETADATA), .val (.ref wMETADATA)] [(.ref wMETADATA)])) _
              refine XS.ifnullNo X143.here hx rfl (hb hby at_38) rfl ?_
              show Steps p.tables e below (T143.setTop (mkF m 41 #[.val (.int p0), .val (.int p1), .val (.int i127), .val (.ref wMETADATA), .val (.ref wMETADATA)] [])) _
              refine XS.aloadN X143.here hx rfl (hb hby at_41) rfl rfl ?_
              show Steps p.tables e below (T143.setTop (mkF m 42 #[.val (.int p0), .val (.int p1), .val (.int i127), .val (.ref wMETADATA), .val (.ref wMETADATA)] [(.ref wMETADATA)])) _
              refine st145 _ ?_
              show Steps p.tables e below (T145.setTop (mkF m 45 #[.val (.int p0), .val (.int p1), .val (.int i127), .val (.ref wMETADATA), .val (.ref wMETADATA)] [(.int (3 : Int32))])) _
              refine XS.iloadN X145.here hx rfl (hb hby at_45) rfl ?_
              show Steps p.tables e below (T145.setTop (mkF m 46 #[.val (.int p0), .val (.int p1), .val (.int i127), .val (.ref wMETADATA), .val (.ref wMETADATA)] [(.int i127), (.int (3 : Int32))])) _
              refine XS.icmpNo X145.here hx rfl (hb hby at_46) rfl (teq (hc142 : (3 : Int32) = i127)).2 ?_
              show Steps p.tables e below (T145.setTop (mkF m 49 #[.val (.int p0), .val (.int p1), .val (.int i127), .val (.ref wMETADATA), .val (.ref wMETADATA)] [])) _
              refine XS.iconst X145.here hx rfl (hb hby at_49) ?_
              show Steps p.tables e below (T145.setTop (mkF m 50 #[.val (.int p0), .val (.int p1), .val (.int i127), .val (.ref wMETADATA), .val (.ref wMETADATA)] [(.int (1 : Int32))])) _
              refine XS.goto X145.here hx rfl (pc0 := 50) (pc' := 54) rfl (hb hby at_50) (by decide) (by decide) ?_
              show Steps p.tables e below (T145.setTop (mkF m 54 #[.val (.int p0), .val (.int p1), .val (.int i127), .val (.ref wMETADATA), .val (.ref wMETADATA)] [(.int (1 : Int32))])) _
              exact retN X145 hx (t := .boolean) Bd.returns (by simp) (hb hby at_54) hr
            · show Q0 Z p0 p1 w_VALUES wPRODUCE wFETCH wLIST_OFFSETS wMETADATA wOFFSET_COMMIT wOFFSET_FETCH wFIND_COORDINATOR wJOIN_GROUP wHEARTBEAT wLEAVE_GROUP wSYNC_GROUP wAPI_VERSIONS wINIT_PRODUCER_ID wADD_PARTITIONS_TO_TXN wADD_OFFSETS_TO_TXN wEND_TXN wTXN_OFFSET_COMMIT k_VALUES h0 n0 _ T145.heap _
              rw [e145]
              exact ⟨rfl, N143⟩
          · by_cases hc146 : (8 : Int32) = i127
            · rw [((by rw [f2, if_neg (hc130 : ¬ ((0 : Int32) = i127)), if_neg (hc134 : ¬ ((1 : Int32) = i127)), if_neg (hc138 : ¬ ((2 : Int32) = i127)), if_neg (hc142 : ¬ ((3 : Int32) = i127)), if_pos (hc146 : (8 : Int32) = i127)]) : (f2 i127 w_VALUES wPRODUCE wFETCH wLIST_OFFSETS wMETADATA wOFFSET_COMMIT wOFFSET_FETCH wFIND_COORDINATOR wJOIN_GROUP wHEARTBEAT wLEAVE_GROUP wSYNC_GROUP wAPI_VERSIONS wINIT_PRODUCER_ID wADD_PARTITIONS_TO_TXN wADD_OFFSETS_TO_TXN wEND_TXN wTXN_OFFSET_COMMIT k_VALUES) = (.ref wOFFSET_COMMIT))] at hQ128
              obtain ⟨rfl, N128q, E128⟩ := hQ128
              have N128 := Fr.app N0 N128q
              have EX128 : Ext h0 T128.heap := E128
              obtain ⟨_, _, ⟨T147, L147, k147, n147⟩, -, X147, ⟨Lc147, hQ147, l147, y147, z147⟩, st147⟩ := Jvm.LawKit.callS X128 hx (y := (⟨"com/example/idem_log/idemlog/protocol/ApiForKeyPinLaw", "expected", "(I)Lcom/example/idem_log/idemlog/protocol/Api;"⟩ : MethodName)) hown (mvT hZ (hw _ (List.mem_of_getElem? (i := 38) rfl))) (mvT hZ (hw _ (List.mem_of_getElem? (i := 39) rfl))) (mvT hZ (hw _ (List.mem_of_getElem? (i := 40) rfl))) (mvT hZ (hw _ (List.mem_of_getElem? (i := 41) rfl))) (by decide) (backOf (W := 0) (rm3 l Z a0 hw [] i127 w_VALUES wPRODUCE wFETCH wLIST_OFFSETS wMETADATA wOFFSET_COMMIT wOFFSET_FETCH wFIND_COORDINATOR wJOIN_GROUP wHEARTBEAT wLEAVE_GROUP wSYNC_GROUP wAPI_VERSIONS wINIT_PRODUCER_ID wADD_PARTITIONS_TO_TXN wADD_OFFSETS_TO_TXN wEND_TXN wTXN_OFFSET_COMMIT k_VALUES T128.heap n0 (Nat.le_trans Z0 EX128.1) (W0.ext EX128) ) hZ (hw _ (List.mem_of_getElem? (i := 41) rfl)) (hw _ (List.mem_of_getElem? (i := 40) rfl)) (by decide) (by decide)) (g := (mkF m 24 #[.val (.int p0), .val (.int p1), .val (.int i127), .val (.ref wOFFSET_COMMIT), .unset] [(.int i127)])) rfl (by rw [hml]; rfl) (argsL := [(.int i127)]) (rest := []) (lenOf pd_2 rfl) rfl (by show 2 * 0 + _ ≤ _; exact Nat.le_of_eq rfl) (hb hby at_24) (fun _ _ => ⟨rfl, rfl, (by decide : 1 + 0 ≤ _), (by decide : 17 + 0 ≤ _)⟩)
              dsimp only [Pt.U, Pt.locs, Pt.cells, Pt.slots] at X147 l147 y147 z147 st147 hQ147
              subst l147 y147 z147
              unfold Q3 at hQ147
              have k148 : ∀ t, Steps p.tables e below (T128.setTop (mkF m 24 #[.val (.int p0), .val (.int p1), .val (.int i127), .val (.ref wOFFSET_COMMIT), .unset] [(.int i127)])) t → Steps p.tables e below (s₁.setTop (entryFrame m #[(.int p0), (.int p1)] maxLocals)) t := fun t kt => k129 t (by
                show Steps p.tables e below (s₁.setTop (mkF m 19 #[.val (.int p0), .val (.int p1), .val (.int i127), .unset, .unset] [(.int i127)])) _
                refine st128 _ ?_
                show Steps p.tables e below (T128.setTop (mkF m 22 #[.val (.int p0), .val (.int p1), .val (.int i127), .unset, .unset] [(.ref wOFFSET_COMMIT)])) _
                refine XS.astoreN X128.here hx rfl (hb hby at_22) rfl rfl (l' := #[.val (.int p0), .val (.int p1), .val (.int i127), .val (.ref wOFFSET_COMMIT), .unset]) rfl ?_
                show Steps p.tables e below (T128.setTop (mkF m 23 #[.val (.int p0), .val (.int p1), .val (.int i127), .val (.ref wOFFSET_COMMIT), .unset] [])) _
                refine XS.iloadN X128.here hx rfl (hb hby at_23) rfl ?_
                exact kt)
              rw [((by rw [f3, if_neg ((Ne.symm hc130) : ¬ (i127 = (0 : Int32))), if_neg ((Ne.symm hc134) : ¬ (i127 = (1 : Int32))), if_neg ((Ne.symm hc138) : ¬ (i127 = (2 : Int32))), if_neg ((Ne.symm hc142) : ¬ (i127 = (3 : Int32))), if_pos ((Eq.symm hc146) : i127 = (8 : Int32))]) : (f3 i127 w_VALUES wPRODUCE wFETCH wLIST_OFFSETS wMETADATA wOFFSET_COMMIT wOFFSET_FETCH wFIND_COORDINATOR wJOIN_GROUP wHEARTBEAT wLEAVE_GROUP wSYNC_GROUP wAPI_VERSIONS wINIT_PRODUCER_ID wADD_PARTITIONS_TO_TXN wADD_OFFSETS_TO_TXN wEND_TXN wTXN_OFFSET_COMMIT k_VALUES) = (.ref wOFFSET_COMMIT))] at hQ147
              obtain ⟨rfl, N147q, e147⟩ := hQ147
              have N147 := Fr.app N128 N147q
              obtain ⟨T149, X149, e149, st149⟩ := getF X147 hx hZ hown (host := "") (Or.inl (hw _ (List.mem_of_getElem? (i := 43) rfl))) Via.refl e147 (FOFFSET_COMMIT_key.ext EX128) (g := (mkF m 42 #[.val (.int p0), .val (.int p1), .val (.int i127), .val (.ref wOFFSET_COMMIT), .val (.ref wOFFSET_COMMIT)] [(.ref wOFFSET_COMMIT)])) rfl rfl (hb hby at_42)
              obtain ⟨fs, hr, hrun, hended, hW, hsame⟩ := X149.leave (v := some (.int (1 : Int32))) (fun h => by rw [Bd.returns] at h; cases h)
              refine ⟨_, _, k148 _ ?_, hrun, hended, _, _, rfl, ?_, ⟨_, rfl⟩, hW, hsame.mono (by decide) (by decide)⟩
              · show Steps p.tables e below (T128.setTop (mkF m 24 #[.val (.int p0), .val (.int p1), .val (.int i127), .val (.ref wOFFSET_COMMIT), .unset] [(.int i127)])) _
                refine st147 _ ?_
                show Steps p.tables e below (T147.setTop (mkF m 27 #[.val (.int p0), .val (.int p1), .val (.int i127), .val (.ref wOFFSET_COMMIT), .unset] [(.ref wOFFSET_COMMIT)])) _
                refine XS.astore X147.here hx rfl (hb hby at_27) rfl rfl (l' := #[.val (.int p0), .val (.int p1), .val (.int i127), .val (.ref wOFFSET_COMMIT), .val (.ref wOFFSET_COMMIT)]) rfl ?_
                show Steps p.tables e below (T147.setTop (mkF m 29 #[.val (.int p0), .val (.int p1), .val (.int i127), .val (.ref wOFFSET_COMMIT), .val (.ref wOFFSET_COMMIT)] [])) _
                refine XS.aloadN X147.here hx rfl (hb hby at_29) rfl rfl ?_
                show Steps p.tables e below (T147.setTop (mkF m 30 #[.val (.int p0), .val (.int p1), .val (.int i127), .val (.ref wOFFSET_COMMIT), .val (.ref wOFFSET_COMMIT)] [(.ref wOFFSET_COMMIT)])) _
                refine XS.aload X147.here hx rfl (hb hby at_30) rfl rfl ?_
                show Steps p.tables e below (T147.setTop (mkF m 32 #[.val (.int p0), .val (.int p1), .val (.int i127), .val (.ref wOFFSET_COMMIT), .val (.ref wOFFSET_COMMIT)] [(.ref wOFFSET_COMMIT), (.ref wOFFSET_COMMIT)])) _
                refine Jvm.RoadKit.acmp (g := (mkF m 32 #[.val (.int p0), .val (.int p1), .val (.int i127), .val (.ref wOFFSET_COMMIT), .val (.ref wOFFSET_COMMIT)] [(.ref wOFFSET_COMMIT), (.ref wOFFSET_COMMIT)])) X147 hx rfl rfl rfl (pc0 := 32) (pc' := 37) (same := true) rfl (hb hby at_32) rfl (decide_eq_true (congrArg Value.ref (rfl : wOFFSET_COMMIT = wOFFSET_COMMIT))) (by decide) (by decide) ?_
                show Steps p.tables e below (T147.setTop (mkF m 37 #[.val (.int p0), .val (.int p1), .val (.int i127), .val (.ref wOFFSET_COMMIT), .val (.ref wOFFSET_COMMIT)] [])) _
                refine XS.aloadN X147.here hx rfl (hb hby at_37) rfl rfl ?_
                show Steps p.tables e below (T147.setTop (mkF m 38 #[.val (.int p0), .val (.int p1), .val (.int i127), .val (.ref wOFFSET_COMMIT), .val (.ref wOFFSET_COMMIT)] [(.ref wOFFSET_COMMIT)])) _
                refine XS.ifnullNo X147.here hx rfl (hb hby at_38) rfl ?_
                show Steps p.tables e below (T147.setTop (mkF m 41 #[.val (.int p0), .val (.int p1), .val (.int i127), .val (.ref wOFFSET_COMMIT), .val (.ref wOFFSET_COMMIT)] [])) _
                refine XS.aloadN X147.here hx rfl (hb hby at_41) rfl rfl ?_
                show Steps p.tables e below (T147.setTop (mkF m 42 #[.val (.int p0), .val (.int p1), .val (.int i127), .val (.ref wOFFSET_COMMIT), .val (.ref wOFFSET_COMMIT)] [(.ref wOFFSET_COMMIT)])) _
                refine st149 _ ?_
                show Steps p.tables e below (T149.setTop (mkF m 45 #[.val (.int p0), .val (.int p1), .val (.int i127), .val (.ref wOFFSET_COMMIT), .val (.ref wOFFSET_COMMIT)] [(.int (8 : Int32))])) _
                refine XS.iloadN X149.here hx rfl (hb hby at_45) rfl ?_
                show Steps p.tables e below (T149.setTop (mkF m 46 #[.val (.int p0), .val (.int p1), .val (.int i127), .val (.ref wOFFSET_COMMIT), .val (.ref wOFFSET_COMMIT)] [(.int i127), (.int (8 : Int32))])) _
                refine XS.icmpNo X149.here hx rfl (hb hby at_46) rfl (teq (hc146 : (8 : Int32) = i127)).2 ?_
                show Steps p.tables e below (T149.setTop (mkF m 49 #[.val (.int p0), .val (.int p1), .val (.int i127), .val (.ref wOFFSET_COMMIT), .val (.ref wOFFSET_COMMIT)] [])) _
                refine XS.iconst X149.here hx rfl (hb hby at_49) ?_
                show Steps p.tables e below (T149.setTop (mkF m 50 #[.val (.int p0), .val (.int p1), .val (.int i127), .val (.ref wOFFSET_COMMIT), .val (.ref wOFFSET_COMMIT)] [(.int (1 : Int32))])) _
                refine XS.goto X149.here hx rfl (pc0 := 50) (pc' := 54) rfl (hb hby at_50) (by decide) (by decide) ?_
                show Steps p.tables e below (T149.setTop (mkF m 54 #[.val (.int p0), .val (.int p1), .val (.int i127), .val (.ref wOFFSET_COMMIT), .val (.ref wOFFSET_COMMIT)] [(.int (1 : Int32))])) _
                exact retN X149 hx (t := .boolean) Bd.returns (by simp) (hb hby at_54) hr
              · show Q0 Z p0 p1 w_VALUES wPRODUCE wFETCH wLIST_OFFSETS wMETADATA wOFFSET_COMMIT wOFFSET_FETCH wFIND_COORDINATOR wJOIN_GROUP wHEARTBEAT wLEAVE_GROUP wSYNC_GROUP wAPI_VERSIONS wINIT_PRODUCER_ID wADD_PARTITIONS_TO_TXN wADD_OFFSETS_TO_TXN wEND_TXN wTXN_OFFSET_COMMIT k_VALUES h0 n0 _ T149.heap _
                rw [e149]
                exact ⟨rfl, N147⟩
            · by_cases hc150 : (9 : Int32) = i127
              · rw [((by rw [f2, if_neg (hc130 : ¬ ((0 : Int32) = i127)), if_neg (hc134 : ¬ ((1 : Int32) = i127)), if_neg (hc138 : ¬ ((2 : Int32) = i127)), if_neg (hc142 : ¬ ((3 : Int32) = i127)), if_neg (hc146 : ¬ ((8 : Int32) = i127)), if_pos (hc150 : (9 : Int32) = i127)]) : (f2 i127 w_VALUES wPRODUCE wFETCH wLIST_OFFSETS wMETADATA wOFFSET_COMMIT wOFFSET_FETCH wFIND_COORDINATOR wJOIN_GROUP wHEARTBEAT wLEAVE_GROUP wSYNC_GROUP wAPI_VERSIONS wINIT_PRODUCER_ID wADD_PARTITIONS_TO_TXN wADD_OFFSETS_TO_TXN wEND_TXN wTXN_OFFSET_COMMIT k_VALUES) = (.ref wOFFSET_FETCH))] at hQ128
                obtain ⟨rfl, N128q, E128⟩ := hQ128
                have N128 := Fr.app N0 N128q
                have EX128 : Ext h0 T128.heap := E128
                obtain ⟨_, _, ⟨T151, L151, k151, n151⟩, -, X151, ⟨Lc151, hQ151, l151, y151, z151⟩, st151⟩ := Jvm.LawKit.callS X128 hx (y := (⟨"com/example/idem_log/idemlog/protocol/ApiForKeyPinLaw", "expected", "(I)Lcom/example/idem_log/idemlog/protocol/Api;"⟩ : MethodName)) hown (mvT hZ (hw _ (List.mem_of_getElem? (i := 38) rfl))) (mvT hZ (hw _ (List.mem_of_getElem? (i := 39) rfl))) (mvT hZ (hw _ (List.mem_of_getElem? (i := 40) rfl))) (mvT hZ (hw _ (List.mem_of_getElem? (i := 41) rfl))) (by decide) (backOf (W := 0) (rm3 l Z a0 hw [] i127 w_VALUES wPRODUCE wFETCH wLIST_OFFSETS wMETADATA wOFFSET_COMMIT wOFFSET_FETCH wFIND_COORDINATOR wJOIN_GROUP wHEARTBEAT wLEAVE_GROUP wSYNC_GROUP wAPI_VERSIONS wINIT_PRODUCER_ID wADD_PARTITIONS_TO_TXN wADD_OFFSETS_TO_TXN wEND_TXN wTXN_OFFSET_COMMIT k_VALUES T128.heap n0 (Nat.le_trans Z0 EX128.1) (W0.ext EX128) ) hZ (hw _ (List.mem_of_getElem? (i := 41) rfl)) (hw _ (List.mem_of_getElem? (i := 40) rfl)) (by decide) (by decide)) (g := (mkF m 24 #[.val (.int p0), .val (.int p1), .val (.int i127), .val (.ref wOFFSET_FETCH), .unset] [(.int i127)])) rfl (by rw [hml]; rfl) (argsL := [(.int i127)]) (rest := []) (lenOf pd_2 rfl) rfl (by show 2 * 0 + _ ≤ _; exact Nat.le_of_eq rfl) (hb hby at_24) (fun _ _ => ⟨rfl, rfl, (by decide : 1 + 0 ≤ _), (by decide : 17 + 0 ≤ _)⟩)
                dsimp only [Pt.U, Pt.locs, Pt.cells, Pt.slots] at X151 l151 y151 z151 st151 hQ151
                subst l151 y151 z151
                unfold Q3 at hQ151
                have k152 : ∀ t, Steps p.tables e below (T128.setTop (mkF m 24 #[.val (.int p0), .val (.int p1), .val (.int i127), .val (.ref wOFFSET_FETCH), .unset] [(.int i127)])) t → Steps p.tables e below (s₁.setTop (entryFrame m #[(.int p0), (.int p1)] maxLocals)) t := fun t kt => k129 t (by
                  show Steps p.tables e below (s₁.setTop (mkF m 19 #[.val (.int p0), .val (.int p1), .val (.int i127), .unset, .unset] [(.int i127)])) _
                  refine st128 _ ?_
                  show Steps p.tables e below (T128.setTop (mkF m 22 #[.val (.int p0), .val (.int p1), .val (.int i127), .unset, .unset] [(.ref wOFFSET_FETCH)])) _
                  refine XS.astoreN X128.here hx rfl (hb hby at_22) rfl rfl (l' := #[.val (.int p0), .val (.int p1), .val (.int i127), .val (.ref wOFFSET_FETCH), .unset]) rfl ?_
                  show Steps p.tables e below (T128.setTop (mkF m 23 #[.val (.int p0), .val (.int p1), .val (.int i127), .val (.ref wOFFSET_FETCH), .unset] [])) _
                  refine XS.iloadN X128.here hx rfl (hb hby at_23) rfl ?_
                  exact kt)
                rw [((by rw [f3, if_neg ((Ne.symm hc130) : ¬ (i127 = (0 : Int32))), if_neg ((Ne.symm hc134) : ¬ (i127 = (1 : Int32))), if_neg ((Ne.symm hc138) : ¬ (i127 = (2 : Int32))), if_neg ((Ne.symm hc142) : ¬ (i127 = (3 : Int32))), if_neg ((Ne.symm hc146) : ¬ (i127 = (8 : Int32))), if_pos ((Eq.symm hc150) : i127 = (9 : Int32))]) : (f3 i127 w_VALUES wPRODUCE wFETCH wLIST_OFFSETS wMETADATA wOFFSET_COMMIT wOFFSET_FETCH wFIND_COORDINATOR wJOIN_GROUP wHEARTBEAT wLEAVE_GROUP wSYNC_GROUP wAPI_VERSIONS wINIT_PRODUCER_ID wADD_PARTITIONS_TO_TXN wADD_OFFSETS_TO_TXN wEND_TXN wTXN_OFFSET_COMMIT k_VALUES) = (.ref wOFFSET_FETCH))] at hQ151
                obtain ⟨rfl, N151q, e151⟩ := hQ151
                have N151 := Fr.app N128 N151q
                obtain ⟨T153, X153, e153, st153⟩ := getF X151 hx hZ hown (host := "") (Or.inl (hw _ (List.mem_of_getElem? (i := 43) rfl))) Via.refl e151 (FOFFSET_FETCH_key.ext EX128) (g := (mkF m 42 #[.val (.int p0), .val (.int p1), .val (.int i127), .val (.ref wOFFSET_FETCH), .val (.ref wOFFSET_FETCH)] [(.ref wOFFSET_FETCH)])) rfl rfl (hb hby at_42)
                obtain ⟨fs, hr, hrun, hended, hW, hsame⟩ := X153.leave (v := some (.int (1 : Int32))) (fun h => by rw [Bd.returns] at h; cases h)
                refine ⟨_, _, k152 _ ?_, hrun, hended, _, _, rfl, ?_, ⟨_, rfl⟩, hW, hsame.mono (by decide) (by decide)⟩
                · show Steps p.tables e below (T128.setTop (mkF m 24 #[.val (.int p0), .val (.int p1), .val (.int i127), .val (.ref wOFFSET_FETCH), .unset] [(.int i127)])) _
                  refine st151 _ ?_
                  show Steps p.tables e below (T151.setTop (mkF m 27 #[.val (.int p0), .val (.int p1), .val (.int i127), .val (.ref wOFFSET_FETCH), .unset] [(.ref wOFFSET_FETCH)])) _
                  refine XS.astore X151.here hx rfl (hb hby at_27) rfl rfl (l' := #[.val (.int p0), .val (.int p1), .val (.int i127), .val (.ref wOFFSET_FETCH), .val (.ref wOFFSET_FETCH)]) rfl ?_
                  show Steps p.tables e below (T151.setTop (mkF m 29 #[.val (.int p0), .val (.int p1), .val (.int i127), .val (.ref wOFFSET_FETCH), .val (.ref wOFFSET_FETCH)] [])) _
                  refine XS.aloadN X151.here hx rfl (hb hby at_29) rfl rfl ?_
                  show Steps p.tables e below (T151.setTop (mkF m 30 #[.val (.int p0), .val (.int p1), .val (.int i127), .val (.ref wOFFSET_FETCH), .val (.ref wOFFSET_FETCH)] [(.ref wOFFSET_FETCH)])) _
                  refine XS.aload X151.here hx rfl (hb hby at_30) rfl rfl ?_
                  show Steps p.tables e below (T151.setTop (mkF m 32 #[.val (.int p0), .val (.int p1), .val (.int i127), .val (.ref wOFFSET_FETCH), .val (.ref wOFFSET_FETCH)] [(.ref wOFFSET_FETCH), (.ref wOFFSET_FETCH)])) _
                  refine Jvm.RoadKit.acmp (g := (mkF m 32 #[.val (.int p0), .val (.int p1), .val (.int i127), .val (.ref wOFFSET_FETCH), .val (.ref wOFFSET_FETCH)] [(.ref wOFFSET_FETCH), (.ref wOFFSET_FETCH)])) X151 hx rfl rfl rfl (pc0 := 32) (pc' := 37) (same := true) rfl (hb hby at_32) rfl (decide_eq_true (congrArg Value.ref (rfl : wOFFSET_FETCH = wOFFSET_FETCH))) (by decide) (by decide) ?_
                  show Steps p.tables e below (T151.setTop (mkF m 37 #[.val (.int p0), .val (.int p1), .val (.int i127), .val (.ref wOFFSET_FETCH), .val (.ref wOFFSET_FETCH)] [])) _
                  refine XS.aloadN X151.here hx rfl (hb hby at_37) rfl rfl ?_
                  show Steps p.tables e below (T151.setTop (mkF m 38 #[.val (.int p0), .val (.int p1), .val (.int i127), .val (.ref wOFFSET_FETCH), .val (.ref wOFFSET_FETCH)] [(.ref wOFFSET_FETCH)])) _
                  refine XS.ifnullNo X151.here hx rfl (hb hby at_38) rfl ?_
                  show Steps p.tables e below (T151.setTop (mkF m 41 #[.val (.int p0), .val (.int p1), .val (.int i127), .val (.ref wOFFSET_FETCH), .val (.ref wOFFSET_FETCH)] [])) _
                  refine XS.aloadN X151.here hx rfl (hb hby at_41) rfl rfl ?_
                  show Steps p.tables e below (T151.setTop (mkF m 42 #[.val (.int p0), .val (.int p1), .val (.int i127), .val (.ref wOFFSET_FETCH), .val (.ref wOFFSET_FETCH)] [(.ref wOFFSET_FETCH)])) _
                  refine st153 _ ?_
                  show Steps p.tables e below (T153.setTop (mkF m 45 #[.val (.int p0), .val (.int p1), .val (.int i127), .val (.ref wOFFSET_FETCH), .val (.ref wOFFSET_FETCH)] [(.int (9 : Int32))])) _
                  refine XS.iloadN X153.here hx rfl (hb hby at_45) rfl ?_
                  show Steps p.tables e below (T153.setTop (mkF m 46 #[.val (.int p0), .val (.int p1), .val (.int i127), .val (.ref wOFFSET_FETCH), .val (.ref wOFFSET_FETCH)] [(.int i127), (.int (9 : Int32))])) _
                  refine XS.icmpNo X153.here hx rfl (hb hby at_46) rfl (teq (hc150 : (9 : Int32) = i127)).2 ?_
                  show Steps p.tables e below (T153.setTop (mkF m 49 #[.val (.int p0), .val (.int p1), .val (.int i127), .val (.ref wOFFSET_FETCH), .val (.ref wOFFSET_FETCH)] [])) _
                  refine XS.iconst X153.here hx rfl (hb hby at_49) ?_
                  show Steps p.tables e below (T153.setTop (mkF m 50 #[.val (.int p0), .val (.int p1), .val (.int i127), .val (.ref wOFFSET_FETCH), .val (.ref wOFFSET_FETCH)] [(.int (1 : Int32))])) _
                  refine XS.goto X153.here hx rfl (pc0 := 50) (pc' := 54) rfl (hb hby at_50) (by decide) (by decide) ?_
                  show Steps p.tables e below (T153.setTop (mkF m 54 #[.val (.int p0), .val (.int p1), .val (.int i127), .val (.ref wOFFSET_FETCH), .val (.ref wOFFSET_FETCH)] [(.int (1 : Int32))])) _
                  exact retN X153 hx (t := .boolean) Bd.returns (by simp) (hb hby at_54) hr
                · show Q0 Z p0 p1 w_VALUES wPRODUCE wFETCH wLIST_OFFSETS wMETADATA wOFFSET_COMMIT wOFFSET_FETCH wFIND_COORDINATOR wJOIN_GROUP wHEARTBEAT wLEAVE_GROUP wSYNC_GROUP wAPI_VERSIONS wINIT_PRODUCER_ID wADD_PARTITIONS_TO_TXN wADD_OFFSETS_TO_TXN wEND_TXN wTXN_OFFSET_COMMIT k_VALUES h0 n0 _ T153.heap _
                  rw [e153]
                  exact ⟨rfl, N151⟩
              · by_cases hc154 : (10 : Int32) = i127
                · rw [((by rw [f2, if_neg (hc130 : ¬ ((0 : Int32) = i127)), if_neg (hc134 : ¬ ((1 : Int32) = i127)), if_neg (hc138 : ¬ ((2 : Int32) = i127)), if_neg (hc142 : ¬ ((3 : Int32) = i127)), if_neg (hc146 : ¬ ((8 : Int32) = i127)), if_neg (hc150 : ¬ ((9 : Int32) = i127)), if_pos (hc154 : (10 : Int32) = i127)]) : (f2 i127 w_VALUES wPRODUCE wFETCH wLIST_OFFSETS wMETADATA wOFFSET_COMMIT wOFFSET_FETCH wFIND_COORDINATOR wJOIN_GROUP wHEARTBEAT wLEAVE_GROUP wSYNC_GROUP wAPI_VERSIONS wINIT_PRODUCER_ID wADD_PARTITIONS_TO_TXN wADD_OFFSETS_TO_TXN wEND_TXN wTXN_OFFSET_COMMIT k_VALUES) = (.ref wFIND_COORDINATOR))] at hQ128
                  obtain ⟨rfl, N128q, E128⟩ := hQ128
                  have N128 := Fr.app N0 N128q
                  have EX128 : Ext h0 T128.heap := E128
                  obtain ⟨_, _, ⟨T155, L155, k155, n155⟩, -, X155, ⟨Lc155, hQ155, l155, y155, z155⟩, st155⟩ := Jvm.LawKit.callS X128 hx (y := (⟨"com/example/idem_log/idemlog/protocol/ApiForKeyPinLaw", "expected", "(I)Lcom/example/idem_log/idemlog/protocol/Api;"⟩ : MethodName)) hown (mvT hZ (hw _ (List.mem_of_getElem? (i := 38) rfl))) (mvT hZ (hw _ (List.mem_of_getElem? (i := 39) rfl))) (mvT hZ (hw _ (List.mem_of_getElem? (i := 40) rfl))) (mvT hZ (hw _ (List.mem_of_getElem? (i := 41) rfl))) (by decide) (backOf (W := 0) (rm3 l Z a0 hw [] i127 w_VALUES wPRODUCE wFETCH wLIST_OFFSETS wMETADATA wOFFSET_COMMIT wOFFSET_FETCH wFIND_COORDINATOR wJOIN_GROUP wHEARTBEAT wLEAVE_GROUP wSYNC_GROUP wAPI_VERSIONS wINIT_PRODUCER_ID wADD_PARTITIONS_TO_TXN wADD_OFFSETS_TO_TXN wEND_TXN wTXN_OFFSET_COMMIT k_VALUES T128.heap n0 (Nat.le_trans Z0 EX128.1) (W0.ext EX128) ) hZ (hw _ (List.mem_of_getElem? (i := 41) rfl)) (hw _ (List.mem_of_getElem? (i := 40) rfl)) (by decide) (by decide)) (g := (mkF m 24 #[.val (.int p0), .val (.int p1), .val (.int i127), .val (.ref wFIND_COORDINATOR), .unset] [(.int i127)])) rfl (by rw [hml]; rfl) (argsL := [(.int i127)]) (rest := []) (lenOf pd_2 rfl) rfl (by show 2 * 0 + _ ≤ _; exact Nat.le_of_eq rfl) (hb hby at_24) (fun _ _ => ⟨rfl, rfl, (by decide : 1 + 0 ≤ _), (by decide : 17 + 0 ≤ _)⟩)
                  dsimp only [Pt.U, Pt.locs, Pt.cells, Pt.slots] at X155 l155 y155 z155 st155 hQ155
                  subst l155 y155 z155
                  unfold Q3 at hQ155
                  have k156 : ∀ t, Steps p.tables e below (T128.setTop (mkF m 24 #[.val (.int p0), .val (.int p1), .val (.int i127), .val (.ref wFIND_COORDINATOR), .unset] [(.int i127)])) t → Steps p.tables e below (s₁.setTop (entryFrame m #[(.int p0), (.int p1)] maxLocals)) t := fun t kt => k129 t (by
                    show Steps p.tables e below (s₁.setTop (mkF m 19 #[.val (.int p0), .val (.int p1), .val (.int i127), .unset, .unset] [(.int i127)])) _
                    refine st128 _ ?_
                    show Steps p.tables e below (T128.setTop (mkF m 22 #[.val (.int p0), .val (.int p1), .val (.int i127), .unset, .unset] [(.ref wFIND_COORDINATOR)])) _
                    refine XS.astoreN X128.here hx rfl (hb hby at_22) rfl rfl (l' := #[.val (.int p0), .val (.int p1), .val (.int i127), .val (.ref wFIND_COORDINATOR), .unset]) rfl ?_
                    show Steps p.tables e below (T128.setTop (mkF m 23 #[.val (.int p0), .val (.int p1), .val (.int i127), .val (.ref wFIND_COORDINATOR), .unset] [])) _
                    refine XS.iloadN X128.here hx rfl (hb hby at_23) rfl ?_
                    exact kt)
                  rw [((by rw [f3, if_neg ((Ne.symm hc130) : ¬ (i127 = (0 : Int32))), if_neg ((Ne.symm hc134) : ¬ (i127 = (1 : Int32))), if_neg ((Ne.symm hc138) : ¬ (i127 = (2 : Int32))), if_neg ((Ne.symm hc142) : ¬ (i127 = (3 : Int32))), if_neg ((Ne.symm hc146) : ¬ (i127 = (8 : Int32))), if_neg ((Ne.symm hc150) : ¬ (i127 = (9 : Int32))), if_pos ((Eq.symm hc154) : i127 = (10 : Int32))]) : (f3 i127 w_VALUES wPRODUCE wFETCH wLIST_OFFSETS wMETADATA wOFFSET_COMMIT wOFFSET_FETCH wFIND_COORDINATOR wJOIN_GROUP wHEARTBEAT wLEAVE_GROUP wSYNC_GROUP wAPI_VERSIONS wINIT_PRODUCER_ID wADD_PARTITIONS_TO_TXN wADD_OFFSETS_TO_TXN wEND_TXN wTXN_OFFSET_COMMIT k_VALUES) = (.ref wFIND_COORDINATOR))] at hQ155
                  obtain ⟨rfl, N155q, e155⟩ := hQ155
                  have N155 := Fr.app N128 N155q
                  obtain ⟨T157, X157, e157, st157⟩ := getF X155 hx hZ hown (host := "") (Or.inl (hw _ (List.mem_of_getElem? (i := 43) rfl))) Via.refl e155 (FFIND_COORDINATOR_key.ext EX128) (g := (mkF m 42 #[.val (.int p0), .val (.int p1), .val (.int i127), .val (.ref wFIND_COORDINATOR), .val (.ref wFIND_COORDINATOR)] [(.ref wFIND_COORDINATOR)])) rfl rfl (hb hby at_42)
                  obtain ⟨fs, hr, hrun, hended, hW, hsame⟩ := X157.leave (v := some (.int (1 : Int32))) (fun h => by rw [Bd.returns] at h; cases h)
                  refine ⟨_, _, k156 _ ?_, hrun, hended, _, _, rfl, ?_, ⟨_, rfl⟩, hW, hsame.mono (by decide) (by decide)⟩
                  · show Steps p.tables e below (T128.setTop (mkF m 24 #[.val (.int p0), .val (.int p1), .val (.int i127), .val (.ref wFIND_COORDINATOR), .unset] [(.int i127)])) _
                    refine st155 _ ?_
                    show Steps p.tables e below (T155.setTop (mkF m 27 #[.val (.int p0), .val (.int p1), .val (.int i127), .val (.ref wFIND_COORDINATOR), .unset] [(.ref wFIND_COORDINATOR)])) _
                    refine XS.astore X155.here hx rfl (hb hby at_27) rfl rfl (l' := #[.val (.int p0), .val (.int p1), .val (.int i127), .val (.ref wFIND_COORDINATOR), .val (.ref wFIND_COORDINATOR)]) rfl ?_
                    show Steps p.tables e below (T155.setTop (mkF m 29 #[.val (.int p0), .val (.int p1), .val (.int i127), .val (.ref wFIND_COORDINATOR), .val (.ref wFIND_COORDINATOR)] [])) _
                    refine XS.aloadN X155.here hx rfl (hb hby at_29) rfl rfl ?_
                    show Steps p.tables e below (T155.setTop (mkF m 30 #[.val (.int p0), .val (.int p1), .val (.int i127), .val (.ref wFIND_COORDINATOR), .val (.ref wFIND_COORDINATOR)] [(.ref wFIND_COORDINATOR)])) _
                    refine XS.aload X155.here hx rfl (hb hby at_30) rfl rfl ?_
                    show Steps p.tables e below (T155.setTop (mkF m 32 #[.val (.int p0), .val (.int p1), .val (.int i127), .val (.ref wFIND_COORDINATOR), .val (.ref wFIND_COORDINATOR)] [(.ref wFIND_COORDINATOR), (.ref wFIND_COORDINATOR)])) _
                    refine Jvm.RoadKit.acmp (g := (mkF m 32 #[.val (.int p0), .val (.int p1), .val (.int i127), .val (.ref wFIND_COORDINATOR), .val (.ref wFIND_COORDINATOR)] [(.ref wFIND_COORDINATOR), (.ref wFIND_COORDINATOR)])) X155 hx rfl rfl rfl (pc0 := 32) (pc' := 37) (same := true) rfl (hb hby at_32) rfl (decide_eq_true (congrArg Value.ref (rfl : wFIND_COORDINATOR = wFIND_COORDINATOR))) (by decide) (by decide) ?_
                    show Steps p.tables e below (T155.setTop (mkF m 37 #[.val (.int p0), .val (.int p1), .val (.int i127), .val (.ref wFIND_COORDINATOR), .val (.ref wFIND_COORDINATOR)] [])) _
                    refine XS.aloadN X155.here hx rfl (hb hby at_37) rfl rfl ?_
                    show Steps p.tables e below (T155.setTop (mkF m 38 #[.val (.int p0), .val (.int p1), .val (.int i127), .val (.ref wFIND_COORDINATOR), .val (.ref wFIND_COORDINATOR)] [(.ref wFIND_COORDINATOR)])) _
                    refine XS.ifnullNo X155.here hx rfl (hb hby at_38) rfl ?_
                    show Steps p.tables e below (T155.setTop (mkF m 41 #[.val (.int p0), .val (.int p1), .val (.int i127), .val (.ref wFIND_COORDINATOR), .val (.ref wFIND_COORDINATOR)] [])) _
                    refine XS.aloadN X155.here hx rfl (hb hby at_41) rfl rfl ?_
                    show Steps p.tables e below (T155.setTop (mkF m 42 #[.val (.int p0), .val (.int p1), .val (.int i127), .val (.ref wFIND_COORDINATOR), .val (.ref wFIND_COORDINATOR)] [(.ref wFIND_COORDINATOR)])) _
                    refine st157 _ ?_
                    show Steps p.tables e below (T157.setTop (mkF m 45 #[.val (.int p0), .val (.int p1), .val (.int i127), .val (.ref wFIND_COORDINATOR), .val (.ref wFIND_COORDINATOR)] [(.int (10 : Int32))])) _
                    refine XS.iloadN X157.here hx rfl (hb hby at_45) rfl ?_
                    show Steps p.tables e below (T157.setTop (mkF m 46 #[.val (.int p0), .val (.int p1), .val (.int i127), .val (.ref wFIND_COORDINATOR), .val (.ref wFIND_COORDINATOR)] [(.int i127), (.int (10 : Int32))])) _
                    refine XS.icmpNo X157.here hx rfl (hb hby at_46) rfl (teq (hc154 : (10 : Int32) = i127)).2 ?_
                    show Steps p.tables e below (T157.setTop (mkF m 49 #[.val (.int p0), .val (.int p1), .val (.int i127), .val (.ref wFIND_COORDINATOR), .val (.ref wFIND_COORDINATOR)] [])) _
                    refine XS.iconst X157.here hx rfl (hb hby at_49) ?_
                    show Steps p.tables e below (T157.setTop (mkF m 50 #[.val (.int p0), .val (.int p1), .val (.int i127), .val (.ref wFIND_COORDINATOR), .val (.ref wFIND_COORDINATOR)] [(.int (1 : Int32))])) _
                    refine XS.goto X157.here hx rfl (pc0 := 50) (pc' := 54) rfl (hb hby at_50) (by decide) (by decide) ?_
                    show Steps p.tables e below (T157.setTop (mkF m 54 #[.val (.int p0), .val (.int p1), .val (.int i127), .val (.ref wFIND_COORDINATOR), .val (.ref wFIND_COORDINATOR)] [(.int (1 : Int32))])) _
                    exact retN X157 hx (t := .boolean) Bd.returns (by simp) (hb hby at_54) hr
                  · show Q0 Z p0 p1 w_VALUES wPRODUCE wFETCH wLIST_OFFSETS wMETADATA wOFFSET_COMMIT wOFFSET_FETCH wFIND_COORDINATOR wJOIN_GROUP wHEARTBEAT wLEAVE_GROUP wSYNC_GROUP wAPI_VERSIONS wINIT_PRODUCER_ID wADD_PARTITIONS_TO_TXN wADD_OFFSETS_TO_TXN wEND_TXN wTXN_OFFSET_COMMIT k_VALUES h0 n0 _ T157.heap _
                    rw [e157]
                    exact ⟨rfl, N155⟩
                · by_cases hc158 : (11 : Int32) = i127
                  · rw [((by rw [f2, if_neg (hc130 : ¬ ((0 : Int32) = i127)), if_neg (hc134 : ¬ ((1 : Int32) = i127)), if_neg (hc138 : ¬ ((2 : Int32) = i127)), if_neg (hc142 : ¬ ((3 : Int32) = i127)), if_neg (hc146 : ¬ ((8 : Int32) = i127)), if_neg (hc150 : ¬ ((9 : Int32) = i127)), if_neg (hc154 : ¬ ((10 : Int32) = i127)), if_pos (hc158 : (11 : Int32) = i127)]) : (f2 i127 w_VALUES wPRODUCE wFETCH wLIST_OFFSETS wMETADATA wOFFSET_COMMIT wOFFSET_FETCH wFIND_COORDINATOR wJOIN_GROUP wHEARTBEAT wLEAVE_GROUP wSYNC_GROUP wAPI_VERSIONS wINIT_PRODUCER_ID wADD_PARTITIONS_TO_TXN wADD_OFFSETS_TO_TXN wEND_TXN wTXN_OFFSET_COMMIT k_VALUES) = (.ref wJOIN_GROUP))] at hQ128
                    obtain ⟨rfl, N128q, E128⟩ := hQ128
                    have N128 := Fr.app N0 N128q
                    have EX128 : Ext h0 T128.heap := E128
                    obtain ⟨_, _, ⟨T159, L159, k159, n159⟩, -, X159, ⟨Lc159, hQ159, l159, y159, z159⟩, st159⟩ := Jvm.LawKit.callS X128 hx (y := (⟨"com/example/idem_log/idemlog/protocol/ApiForKeyPinLaw", "expected", "(I)Lcom/example/idem_log/idemlog/protocol/Api;"⟩ : MethodName)) hown (mvT hZ (hw _ (List.mem_of_getElem? (i := 38) rfl))) (mvT hZ (hw _ (List.mem_of_getElem? (i := 39) rfl))) (mvT hZ (hw _ (List.mem_of_getElem? (i := 40) rfl))) (mvT hZ (hw _ (List.mem_of_getElem? (i := 41) rfl))) (by decide) (backOf (W := 0) (rm3 l Z a0 hw [] i127 w_VALUES wPRODUCE wFETCH wLIST_OFFSETS wMETADATA wOFFSET_COMMIT wOFFSET_FETCH wFIND_COORDINATOR wJOIN_GROUP wHEARTBEAT wLEAVE_GROUP wSYNC_GROUP wAPI_VERSIONS wINIT_PRODUCER_ID wADD_PARTITIONS_TO_TXN wADD_OFFSETS_TO_TXN wEND_TXN wTXN_OFFSET_COMMIT k_VALUES T128.heap n0 (Nat.le_trans Z0 EX128.1) (W0.ext EX128) ) hZ (hw _ (List.mem_of_getElem? (i := 41) rfl)) (hw _ (List.mem_of_getElem? (i := 40) rfl)) (by decide) (by decide)) (g := (mkF m 24 #[.val (.int p0), .val (.int p1), .val (.int i127), .val (.ref wJOIN_GROUP), .unset] [(.int i127)])) rfl (by rw [hml]; rfl) (argsL := [(.int i127)]) (rest := []) (lenOf pd_2 rfl) rfl (by show 2 * 0 + _ ≤ _; exact Nat.le_of_eq rfl) (hb hby at_24) (fun _ _ => ⟨rfl, rfl, (by decide : 1 + 0 ≤ _), (by decide : 17 + 0 ≤ _)⟩)
                    dsimp only [Pt.U, Pt.locs, Pt.cells, Pt.slots] at X159 l159 y159 z159 st159 hQ159
                    subst l159 y159 z159
                    unfold Q3 at hQ159
                    have k160 : ∀ t, Steps p.tables e below (T128.setTop (mkF m 24 #[.val (.int p0), .val (.int p1), .val (.int i127), .val (.ref wJOIN_GROUP), .unset] [(.int i127)])) t → Steps p.tables e below (s₁.setTop (entryFrame m #[(.int p0), (.int p1)] maxLocals)) t := fun t kt => k129 t (by
                      show Steps p.tables e below (s₁.setTop (mkF m 19 #[.val (.int p0), .val (.int p1), .val (.int i127), .unset, .unset] [(.int i127)])) _
                      refine st128 _ ?_
                      show Steps p.tables e below (T128.setTop (mkF m 22 #[.val (.int p0), .val (.int p1), .val (.int i127), .unset, .unset] [(.ref wJOIN_GROUP)])) _
                      refine XS.astoreN X128.here hx rfl (hb hby at_22) rfl rfl (l' := #[.val (.int p0), .val (.int p1), .val (.int i127), .val (.ref wJOIN_GROUP), .unset]) rfl ?_
                      show Steps p.tables e below (T128.setTop (mkF m 23 #[.val (.int p0), .val (.int p1), .val (.int i127), .val (.ref wJOIN_GROUP), .unset] [])) _
                      refine XS.iloadN X128.here hx rfl (hb hby at_23) rfl ?_
                      exact kt)
                    rw [((by rw [f3, if_neg ((Ne.symm hc130) : ¬ (i127 = (0 : Int32))), if_neg ((Ne.symm hc134) : ¬ (i127 = (1 : Int32))), if_neg ((Ne.symm hc138) : ¬ (i127 = (2 : Int32))), if_neg ((Ne.symm hc142) : ¬ (i127 = (3 : Int32))), if_neg ((Ne.symm hc146) : ¬ (i127 = (8 : Int32))), if_neg ((Ne.symm hc150) : ¬ (i127 = (9 : Int32))), if_neg ((Ne.symm hc154) : ¬ (i127 = (10 : Int32))), if_pos ((Eq.symm hc158) : i127 = (11 : Int32))]) : (f3 i127 w_VALUES wPRODUCE wFETCH wLIST_OFFSETS wMETADATA wOFFSET_COMMIT wOFFSET_FETCH wFIND_COORDINATOR wJOIN_GROUP wHEARTBEAT wLEAVE_GROUP wSYNC_GROUP wAPI_VERSIONS wINIT_PRODUCER_ID wADD_PARTITIONS_TO_TXN wADD_OFFSETS_TO_TXN wEND_TXN wTXN_OFFSET_COMMIT k_VALUES) = (.ref wJOIN_GROUP))] at hQ159
                    obtain ⟨rfl, N159q, e159⟩ := hQ159
                    have N159 := Fr.app N128 N159q
                    obtain ⟨T161, X161, e161, st161⟩ := getF X159 hx hZ hown (host := "") (Or.inl (hw _ (List.mem_of_getElem? (i := 43) rfl))) Via.refl e159 (FJOIN_GROUP_key.ext EX128) (g := (mkF m 42 #[.val (.int p0), .val (.int p1), .val (.int i127), .val (.ref wJOIN_GROUP), .val (.ref wJOIN_GROUP)] [(.ref wJOIN_GROUP)])) rfl rfl (hb hby at_42)
                    obtain ⟨fs, hr, hrun, hended, hW, hsame⟩ := X161.leave (v := some (.int (1 : Int32))) (fun h => by rw [Bd.returns] at h; cases h)
                    refine ⟨_, _, k160 _ ?_, hrun, hended, _, _, rfl, ?_, ⟨_, rfl⟩, hW, hsame.mono (by decide) (by decide)⟩
                    · show Steps p.tables e below (T128.setTop (mkF m 24 #[.val (.int p0), .val (.int p1), .val (.int i127), .val (.ref wJOIN_GROUP), .unset] [(.int i127)])) _
                      refine st159 _ ?_
                      show Steps p.tables e below (T159.setTop (mkF m 27 #[.val (.int p0), .val (.int p1), .val (.int i127), .val (.ref wJOIN_GROUP), .unset] [(.ref wJOIN_GROUP)])) _
                      refine XS.astore X159.here hx rfl (hb hby at_27) rfl rfl (l' := #[.val (.int p0), .val (.int p1), .val (.int i127), .val (.ref wJOIN_GROUP), .val (.ref wJOIN_GROUP)]) rfl ?_
                      show Steps p.tables e below (T159.setTop (mkF m 29 #[.val (.int p0), .val (.int p1), .val (.int i127), .val (.ref wJOIN_GROUP), .val (.ref wJOIN_GROUP)] [])) _
                      refine XS.aloadN X159.here hx rfl (hb hby at_29) rfl rfl ?_
                      show Steps p.tables e below (T159.setTop (mkF m 30 #[.val (.int p0), .val (.int p1), .val (.int i127), .val (.ref wJOIN_GROUP), .val (.ref wJOIN_GROUP)] [(.ref wJOIN_GROUP)])) _
                      refine XS.aload X159.here hx rfl (hb hby at_30) rfl rfl ?_
                      show Steps p.tables e below (T159.setTop (mkF m 32 #[.val (.int p0), .val (.int p1), .val (.int i127), .val (.ref wJOIN_GROUP), .val (.ref wJOIN_GROUP)] [(.ref wJOIN_GROUP), (.ref wJOIN_GROUP)])) _
                      refine Jvm.RoadKit.acmp (g := (mkF m 32 #[.val (.int p0), .val (.int p1), .val (.int i127), .val (.ref wJOIN_GROUP), .val (.ref wJOIN_GROUP)] [(.ref wJOIN_GROUP), (.ref wJOIN_GROUP)])) X159 hx rfl rfl rfl (pc0 := 32) (pc' := 37) (same := true) rfl (hb hby at_32) rfl (decide_eq_true (congrArg Value.ref (rfl : wJOIN_GROUP = wJOIN_GROUP))) (by decide) (by decide) ?_
                      show Steps p.tables e below (T159.setTop (mkF m 37 #[.val (.int p0), .val (.int p1), .val (.int i127), .val (.ref wJOIN_GROUP), .val (.ref wJOIN_GROUP)] [])) _
                      refine XS.aloadN X159.here hx rfl (hb hby at_37) rfl rfl ?_
                      show Steps p.tables e below (T159.setTop (mkF m 38 #[.val (.int p0), .val (.int p1), .val (.int i127), .val (.ref wJOIN_GROUP), .val (.ref wJOIN_GROUP)] [(.ref wJOIN_GROUP)])) _
                      refine XS.ifnullNo X159.here hx rfl (hb hby at_38) rfl ?_
                      show Steps p.tables e below (T159.setTop (mkF m 41 #[.val (.int p0), .val (.int p1), .val (.int i127), .val (.ref wJOIN_GROUP), .val (.ref wJOIN_GROUP)] [])) _
                      refine XS.aloadN X159.here hx rfl (hb hby at_41) rfl rfl ?_
                      show Steps p.tables e below (T159.setTop (mkF m 42 #[.val (.int p0), .val (.int p1), .val (.int i127), .val (.ref wJOIN_GROUP), .val (.ref wJOIN_GROUP)] [(.ref wJOIN_GROUP)])) _
                      refine st161 _ ?_
                      show Steps p.tables e below (T161.setTop (mkF m 45 #[.val (.int p0), .val (.int p1), .val (.int i127), .val (.ref wJOIN_GROUP), .val (.ref wJOIN_GROUP)] [(.int (11 : Int32))])) _
                      refine XS.iloadN X161.here hx rfl (hb hby at_45) rfl ?_
                      show Steps p.tables e below (T161.setTop (mkF m 46 #[.val (.int p0), .val (.int p1), .val (.int i127), .val (.ref wJOIN_GROUP), .val (.ref wJOIN_GROUP)] [(.int i127), (.int (11 : Int32))])) _
                      refine XS.icmpNo X161.here hx rfl (hb hby at_46) rfl (teq (hc158 : (11 : Int32) = i127)).2 ?_
                      show Steps p.tables e below (T161.setTop (mkF m 49 #[.val (.int p0), .val (.int p1), .val (.int i127), .val (.ref wJOIN_GROUP), .val (.ref wJOIN_GROUP)] [])) _
                      refine XS.iconst X161.here hx rfl (hb hby at_49) ?_
                      show Steps p.tables e below (T161.setTop (mkF m 50 #[.val (.int p0), .val (.int p1), .val (.int i127), .val (.ref wJOIN_GROUP), .val (.ref wJOIN_GROUP)] [(.int (1 : Int32))])) _
                      refine XS.goto X161.here hx rfl (pc0 := 50) (pc' := 54) rfl (hb hby at_50) (by decide) (by decide) ?_
                      show Steps p.tables e below (T161.setTop (mkF m 54 #[.val (.int p0), .val (.int p1), .val (.int i127), .val (.ref wJOIN_GROUP), .val (.ref wJOIN_GROUP)] [(.int (1 : Int32))])) _
                      exact retN X161 hx (t := .boolean) Bd.returns (by simp) (hb hby at_54) hr
                    · show Q0 Z p0 p1 w_VALUES wPRODUCE wFETCH wLIST_OFFSETS wMETADATA wOFFSET_COMMIT wOFFSET_FETCH wFIND_COORDINATOR wJOIN_GROUP wHEARTBEAT wLEAVE_GROUP wSYNC_GROUP wAPI_VERSIONS wINIT_PRODUCER_ID wADD_PARTITIONS_TO_TXN wADD_OFFSETS_TO_TXN wEND_TXN wTXN_OFFSET_COMMIT k_VALUES h0 n0 _ T161.heap _
                      rw [e161]
                      exact ⟨rfl, N159⟩
                  · by_cases hc162 : (12 : Int32) = i127
                    · rw [((by rw [f2, if_neg (hc130 : ¬ ((0 : Int32) = i127)), if_neg (hc134 : ¬ ((1 : Int32) = i127)), if_neg (hc138 : ¬ ((2 : Int32) = i127)), if_neg (hc142 : ¬ ((3 : Int32) = i127)), if_neg (hc146 : ¬ ((8 : Int32) = i127)), if_neg (hc150 : ¬ ((9 : Int32) = i127)), if_neg (hc154 : ¬ ((10 : Int32) = i127)), if_neg (hc158 : ¬ ((11 : Int32) = i127)), if_pos (hc162 : (12 : Int32) = i127)]) : (f2 i127 w_VALUES wPRODUCE wFETCH wLIST_OFFSETS wMETADATA wOFFSET_COMMIT wOFFSET_FETCH wFIND_COORDINATOR wJOIN_GROUP wHEARTBEAT wLEAVE_GROUP wSYNC_GROUP wAPI_VERSIONS wINIT_PRODUCER_ID wADD_PARTITIONS_TO_TXN wADD_OFFSETS_TO_TXN wEND_TXN wTXN_OFFSET_COMMIT k_VALUES) = (.ref wHEARTBEAT))] at hQ128
                      obtain ⟨rfl, N128q, E128⟩ := hQ128
                      have N128 := Fr.app N0 N128q
                      have EX128 : Ext h0 T128.heap := E128
                      obtain ⟨_, _, ⟨T163, L163, k163, n163⟩, -, X163, ⟨Lc163, hQ163, l163, y163, z163⟩, st163⟩ := Jvm.LawKit.callS X128 hx (y := (⟨"com/example/idem_log/idemlog/protocol/ApiForKeyPinLaw", "expected", "(I)Lcom/example/idem_log/idemlog/protocol/Api;"⟩ : MethodName)) hown (mvT hZ (hw _ (List.mem_of_getElem? (i := 38) rfl))) (mvT hZ (hw _ (List.mem_of_getElem? (i := 39) rfl))) (mvT hZ (hw _ (List.mem_of_getElem? (i := 40) rfl))) (mvT hZ (hw _ (List.mem_of_getElem? (i := 41) rfl))) (by decide) (backOf (W := 0) (rm3 l Z a0 hw [] i127 w_VALUES wPRODUCE wFETCH wLIST_OFFSETS wMETADATA wOFFSET_COMMIT wOFFSET_FETCH wFIND_COORDINATOR wJOIN_GROUP wHEARTBEAT wLEAVE_GROUP wSYNC_GROUP wAPI_VERSIONS wINIT_PRODUCER_ID wADD_PARTITIONS_TO_TXN wADD_OFFSETS_TO_TXN wEND_TXN wTXN_OFFSET_COMMIT k_VALUES T128.heap n0 (Nat.le_trans Z0 EX128.1) (W0.ext EX128) ) hZ (hw _ (List.mem_of_getElem? (i := 41) rfl)) (hw _ (List.mem_of_getElem? (i := 40) rfl)) (by decide) (by decide)) (g := (mkF m 24 #[.val (.int p0), .val (.int p1), .val (.int i127), .val (.ref wHEARTBEAT), .unset] [(.int i127)])) rfl (by rw [hml]; rfl) (argsL := [(.int i127)]) (rest := []) (lenOf pd_2 rfl) rfl (by show 2 * 0 + _ ≤ _; exact Nat.le_of_eq rfl) (hb hby at_24) (fun _ _ => ⟨rfl, rfl, (by decide : 1 + 0 ≤ _), (by decide : 17 + 0 ≤ _)⟩)
                      dsimp only [Pt.U, Pt.locs, Pt.cells, Pt.slots] at X163 l163 y163 z163 st163 hQ163
                      subst l163 y163 z163
                      unfold Q3 at hQ163
                      have k164 : ∀ t, Steps p.tables e below (T128.setTop (mkF m 24 #[.val (.int p0), .val (.int p1), .val (.int i127), .val (.ref wHEARTBEAT), .unset] [(.int i127)])) t → Steps p.tables e below (s₁.setTop (entryFrame m #[(.int p0), (.int p1)] maxLocals)) t := fun t kt => k129 t (by
                        show Steps p.tables e below (s₁.setTop (mkF m 19 #[.val (.int p0), .val (.int p1), .val (.int i127), .unset, .unset] [(.int i127)])) _
                        refine st128 _ ?_
                        show Steps p.tables e below (T128.setTop (mkF m 22 #[.val (.int p0), .val (.int p1), .val (.int i127), .unset, .unset] [(.ref wHEARTBEAT)])) _
                        refine XS.astoreN X128.here hx rfl (hb hby at_22) rfl rfl (l' := #[.val (.int p0), .val (.int p1), .val (.int i127), .val (.ref wHEARTBEAT), .unset]) rfl ?_
                        show Steps p.tables e below (T128.setTop (mkF m 23 #[.val (.int p0), .val (.int p1), .val (.int i127), .val (.ref wHEARTBEAT), .unset] [])) _
                        refine XS.iloadN X128.here hx rfl (hb hby at_23) rfl ?_
                        exact kt)
                      rw [((by rw [f3, if_neg ((Ne.symm hc130) : ¬ (i127 = (0 : Int32))), if_neg ((Ne.symm hc134) : ¬ (i127 = (1 : Int32))), if_neg ((Ne.symm hc138) : ¬ (i127 = (2 : Int32))), if_neg ((Ne.symm hc142) : ¬ (i127 = (3 : Int32))), if_neg ((Ne.symm hc146) : ¬ (i127 = (8 : Int32))), if_neg ((Ne.symm hc150) : ¬ (i127 = (9 : Int32))), if_neg ((Ne.symm hc154) : ¬ (i127 = (10 : Int32))), if_neg ((Ne.symm hc158) : ¬ (i127 = (11 : Int32))), if_pos ((Eq.symm hc162) : i127 = (12 : Int32))]) : (f3 i127 w_VALUES wPRODUCE wFETCH wLIST_OFFSETS wMETADATA wOFFSET_COMMIT wOFFSET_FETCH wFIND_COORDINATOR wJOIN_GROUP wHEARTBEAT wLEAVE_GROUP wSYNC_GROUP wAPI_VERSIONS wINIT_PRODUCER_ID wADD_PARTITIONS_TO_TXN wADD_OFFSETS_TO_TXN wEND_TXN wTXN_OFFSET_COMMIT k_VALUES) = (.ref wHEARTBEAT))] at hQ163
                      obtain ⟨rfl, N163q, e163⟩ := hQ163
                      have N163 := Fr.app N128 N163q
                      obtain ⟨T165, X165, e165, st165⟩ := getF X163 hx hZ hown (host := "") (Or.inl (hw _ (List.mem_of_getElem? (i := 43) rfl))) Via.refl e163 (FHEARTBEAT_key.ext EX128) (g := (mkF m 42 #[.val (.int p0), .val (.int p1), .val (.int i127), .val (.ref wHEARTBEAT), .val (.ref wHEARTBEAT)] [(.ref wHEARTBEAT)])) rfl rfl (hb hby at_42)
                      obtain ⟨fs, hr, hrun, hended, hW, hsame⟩ := X165.leave (v := some (.int (1 : Int32))) (fun h => by rw [Bd.returns] at h; cases h)
                      refine ⟨_, _, k164 _ ?_, hrun, hended, _, _, rfl, ?_, ⟨_, rfl⟩, hW, hsame.mono (by decide) (by decide)⟩
                      · show Steps p.tables e below (T128.setTop (mkF m 24 #[.val (.int p0), .val (.int p1), .val (.int i127), .val (.ref wHEARTBEAT), .unset] [(.int i127)])) _
                        refine st163 _ ?_
                        show Steps p.tables e below (T163.setTop (mkF m 27 #[.val (.int p0), .val (.int p1), .val (.int i127), .val (.ref wHEARTBEAT), .unset] [(.ref wHEARTBEAT)])) _
                        refine XS.astore X163.here hx rfl (hb hby at_27) rfl rfl (l' := #[.val (.int p0), .val (.int p1), .val (.int i127), .val (.ref wHEARTBEAT), .val (.ref wHEARTBEAT)]) rfl ?_
                        show Steps p.tables e below (T163.setTop (mkF m 29 #[.val (.int p0), .val (.int p1), .val (.int i127), .val (.ref wHEARTBEAT), .val (.ref wHEARTBEAT)] [])) _
                        refine XS.aloadN X163.here hx rfl (hb hby at_29) rfl rfl ?_
                        show Steps p.tables e below (T163.setTop (mkF m 30 #[.val (.int p0), .val (.int p1), .val (.int i127), .val (.ref wHEARTBEAT), .val (.ref wHEARTBEAT)] [(.ref wHEARTBEAT)])) _
                        refine XS.aload X163.here hx rfl (hb hby at_30) rfl rfl ?_
                        show Steps p.tables e below (T163.setTop (mkF m 32 #[.val (.int p0), .val (.int p1), .val (.int i127), .val (.ref wHEARTBEAT), .val (.ref wHEARTBEAT)] [(.ref wHEARTBEAT), (.ref wHEARTBEAT)])) _
                        refine Jvm.RoadKit.acmp (g := (mkF m 32 #[.val (.int p0), .val (.int p1), .val (.int i127), .val (.ref wHEARTBEAT), .val (.ref wHEARTBEAT)] [(.ref wHEARTBEAT), (.ref wHEARTBEAT)])) X163 hx rfl rfl rfl (pc0 := 32) (pc' := 37) (same := true) rfl (hb hby at_32) rfl (decide_eq_true (congrArg Value.ref (rfl : wHEARTBEAT = wHEARTBEAT))) (by decide) (by decide) ?_
                        show Steps p.tables e below (T163.setTop (mkF m 37 #[.val (.int p0), .val (.int p1), .val (.int i127), .val (.ref wHEARTBEAT), .val (.ref wHEARTBEAT)] [])) _
                        refine XS.aloadN X163.here hx rfl (hb hby at_37) rfl rfl ?_
                        show Steps p.tables e below (T163.setTop (mkF m 38 #[.val (.int p0), .val (.int p1), .val (.int i127), .val (.ref wHEARTBEAT), .val (.ref wHEARTBEAT)] [(.ref wHEARTBEAT)])) _
                        refine XS.ifnullNo X163.here hx rfl (hb hby at_38) rfl ?_
                        show Steps p.tables e below (T163.setTop (mkF m 41 #[.val (.int p0), .val (.int p1), .val (.int i127), .val (.ref wHEARTBEAT), .val (.ref wHEARTBEAT)] [])) _
                        refine XS.aloadN X163.here hx rfl (hb hby at_41) rfl rfl ?_
                        show Steps p.tables e below (T163.setTop (mkF m 42 #[.val (.int p0), .val (.int p1), .val (.int i127), .val (.ref wHEARTBEAT), .val (.ref wHEARTBEAT)] [(.ref wHEARTBEAT)])) _
                        refine st165 _ ?_
                        show Steps p.tables e below (T165.setTop (mkF m 45 #[.val (.int p0), .val (.int p1), .val (.int i127), .val (.ref wHEARTBEAT), .val (.ref wHEARTBEAT)] [(.int (12 : Int32))])) _
                        refine XS.iloadN X165.here hx rfl (hb hby at_45) rfl ?_
                        show Steps p.tables e below (T165.setTop (mkF m 46 #[.val (.int p0), .val (.int p1), .val (.int i127), .val (.ref wHEARTBEAT), .val (.ref wHEARTBEAT)] [(.int i127), (.int (12 : Int32))])) _
                        refine XS.icmpNo X165.here hx rfl (hb hby at_46) rfl (teq (hc162 : (12 : Int32) = i127)).2 ?_
                        show Steps p.tables e below (T165.setTop (mkF m 49 #[.val (.int p0), .val (.int p1), .val (.int i127), .val (.ref wHEARTBEAT), .val (.ref wHEARTBEAT)] [])) _
                        refine XS.iconst X165.here hx rfl (hb hby at_49) ?_
                        show Steps p.tables e below (T165.setTop (mkF m 50 #[.val (.int p0), .val (.int p1), .val (.int i127), .val (.ref wHEARTBEAT), .val (.ref wHEARTBEAT)] [(.int (1 : Int32))])) _
                        refine XS.goto X165.here hx rfl (pc0 := 50) (pc' := 54) rfl (hb hby at_50) (by decide) (by decide) ?_
                        show Steps p.tables e below (T165.setTop (mkF m 54 #[.val (.int p0), .val (.int p1), .val (.int i127), .val (.ref wHEARTBEAT), .val (.ref wHEARTBEAT)] [(.int (1 : Int32))])) _
                        exact retN X165 hx (t := .boolean) Bd.returns (by simp) (hb hby at_54) hr
                      · show Q0 Z p0 p1 w_VALUES wPRODUCE wFETCH wLIST_OFFSETS wMETADATA wOFFSET_COMMIT wOFFSET_FETCH wFIND_COORDINATOR wJOIN_GROUP wHEARTBEAT wLEAVE_GROUP wSYNC_GROUP wAPI_VERSIONS wINIT_PRODUCER_ID wADD_PARTITIONS_TO_TXN wADD_OFFSETS_TO_TXN wEND_TXN wTXN_OFFSET_COMMIT k_VALUES h0 n0 _ T165.heap _
                        rw [e165]
                        exact ⟨rfl, N163⟩
                    · by_cases hc166 : (13 : Int32) = i127
                      · rw [((by rw [f2, if_neg (hc130 : ¬ ((0 : Int32) = i127)), if_neg (hc134 : ¬ ((1 : Int32) = i127)), if_neg (hc138 : ¬ ((2 : Int32) = i127)), if_neg (hc142 : ¬ ((3 : Int32) = i127)), if_neg (hc146 : ¬ ((8 : Int32) = i127)), if_neg (hc150 : ¬ ((9 : Int32) = i127)), if_neg (hc154 : ¬ ((10 : Int32) = i127)), if_neg (hc158 : ¬ ((11 : Int32) = i127)), if_neg (hc162 : ¬ ((12 : Int32) = i127)), if_pos (hc166 : (13 : Int32) = i127)]) : (f2 i127 w_VALUES wPRODUCE wFETCH wLIST_OFFSETS wMETADATA wOFFSET_COMMIT wOFFSET_FETCH wFIND_COORDINATOR wJOIN_GROUP wHEARTBEAT wLEAVE_GROUP wSYNC_GROUP wAPI_VERSIONS wINIT_PRODUCER_ID wADD_PARTITIONS_TO_TXN wADD_OFFSETS_TO_TXN wEND_TXN wTXN_OFFSET_COMMIT k_VALUES) = (.ref wLEAVE_GROUP))] at hQ128
                        obtain ⟨rfl, N128q, E128⟩ := hQ128
                        have N128 := Fr.app N0 N128q
                        have EX128 : Ext h0 T128.heap := E128
                        obtain ⟨_, _, ⟨T167, L167, k167, n167⟩, -, X167, ⟨Lc167, hQ167, l167, y167, z167⟩, st167⟩ := Jvm.LawKit.callS X128 hx (y := (⟨"com/example/idem_log/idemlog/protocol/ApiForKeyPinLaw", "expected", "(I)Lcom/example/idem_log/idemlog/protocol/Api;"⟩ : MethodName)) hown (mvT hZ (hw _ (List.mem_of_getElem? (i := 38) rfl))) (mvT hZ (hw _ (List.mem_of_getElem? (i := 39) rfl))) (mvT hZ (hw _ (List.mem_of_getElem? (i := 40) rfl))) (mvT hZ (hw _ (List.mem_of_getElem? (i := 41) rfl))) (by decide) (backOf (W := 0) (rm3 l Z a0 hw [] i127 w_VALUES wPRODUCE wFETCH wLIST_OFFSETS wMETADATA wOFFSET_COMMIT wOFFSET_FETCH wFIND_COORDINATOR wJOIN_GROUP wHEARTBEAT wLEAVE_GROUP wSYNC_GROUP wAPI_VERSIONS wINIT_PRODUCER_ID wADD_PARTITIONS_TO_TXN wADD_OFFSETS_TO_TXN wEND_TXN wTXN_OFFSET_COMMIT k_VALUES T128.heap n0 (Nat.le_trans Z0 EX128.1) (W0.ext EX128) ) hZ (hw _ (List.mem_of_getElem? (i := 41) rfl)) (hw _ (List.mem_of_getElem? (i := 40) rfl)) (by decide) (by decide)) (g := (mkF m 24 #[.val (.int p0), .val (.int p1), .val (.int i127), .val (.ref wLEAVE_GROUP), .unset] [(.int i127)])) rfl (by rw [hml]; rfl) (argsL := [(.int i127)]) (rest := []) (lenOf pd_2 rfl) rfl (by show 2 * 0 + _ ≤ _; exact Nat.le_of_eq rfl) (hb hby at_24) (fun _ _ => ⟨rfl, rfl, (by decide : 1 + 0 ≤ _), (by decide : 17 + 0 ≤ _)⟩)
                        dsimp only [Pt.U, Pt.locs, Pt.cells, Pt.slots] at X167 l167 y167 z167 st167 hQ167
                        subst l167 y167 z167
                        unfold Q3 at hQ167
                        have k168 : ∀ t, Steps p.tables e below (T128.setTop (mkF m 24 #[.val (.int p0), .val (.int p1), .val (.int i127), .val (.ref wLEAVE_GROUP), .unset] [(.int i127)])) t → Steps p.tables e below (s₁.setTop (entryFrame m #[(.int p0), (.int p1)] maxLocals)) t := fun t kt => k129 t (by
                          show Steps p.tables e below (s₁.setTop (mkF m 19 #[.val (.int p0), .val (.int p1), .val (.int i127), .unset, .unset] [(.int i127)])) _
                          refine st128 _ ?_
                          show Steps p.tables e below (T128.setTop (mkF m 22 #[.val (.int p0), .val (.int p1), .val (.int i127), .unset, .unset] [(.ref wLEAVE_GROUP)])) _
                          refine XS.astoreN X128.here hx rfl (hb hby at_22) rfl rfl (l' := #[.val (.int p0), .val (.int p1), .val (.int i127), .val (.ref wLEAVE_GROUP), .unset]) rfl ?_
                          show Steps p.tables e below (T128.setTop (mkF m 23 #[.val (.int p0), .val (.int p1), .val (.int i127), .val (.ref wLEAVE_GROUP), .unset] [])) _
                          refine XS.iloadN X128.here hx rfl (hb hby at_23) rfl ?_
                          exact kt)
                        rw [((by rw [f3, if_neg ((Ne.symm hc130) : ¬ (i127 = (0 : Int32))), if_neg ((Ne.symm hc134) : ¬ (i127 = (1 : Int32))), if_neg ((Ne.symm hc138) : ¬ (i127 = (2 : Int32))), if_neg ((Ne.symm hc142) : ¬ (i127 = (3 : Int32))), if_neg ((Ne.symm hc146) : ¬ (i127 = (8 : Int32))), if_neg ((Ne.symm hc150) : ¬ (i127 = (9 : Int32))), if_neg ((Ne.symm hc154) : ¬ (i127 = (10 : Int32))), if_neg ((Ne.symm hc158) : ¬ (i127 = (11 : Int32))), if_neg ((Ne.symm hc162) : ¬ (i127 = (12 : Int32))), if_pos ((Eq.symm hc166) : i127 = (13 : Int32))]) : (f3 i127 w_VALUES wPRODUCE wFETCH wLIST_OFFSETS wMETADATA wOFFSET_COMMIT wOFFSET_FETCH wFIND_COORDINATOR wJOIN_GROUP wHEARTBEAT wLEAVE_GROUP wSYNC_GROUP wAPI_VERSIONS wINIT_PRODUCER_ID wADD_PARTITIONS_TO_TXN wADD_OFFSETS_TO_TXN wEND_TXN wTXN_OFFSET_COMMIT k_VALUES) = (.ref wLEAVE_GROUP))] at hQ167
                        obtain ⟨rfl, N167q, e167⟩ := hQ167
                        have N167 := Fr.app N128 N167q
                        obtain ⟨T169, X169, e169, st169⟩ := getF X167 hx hZ hown (host := "") (Or.inl (hw _ (List.mem_of_getElem? (i := 43) rfl))) Via.refl e167 (FLEAVE_GROUP_key.ext EX128) (g := (mkF m 42 #[.val (.int p0), .val (.int p1), .val (.int i127), .val (.ref wLEAVE_GROUP), .val (.ref wLEAVE_GROUP)] [(.ref wLEAVE_GROUP)])) rfl rfl (hb hby at_42)
                        obtain ⟨fs, hr, hrun, hended, hW, hsame⟩ := X169.leave (v := some (.int (1 : Int32))) (fun h => by rw [Bd.returns] at h; cases h)
                        refine ⟨_, _, k168 _ ?_, hrun, hended, _, _, rfl, ?_, ⟨_, rfl⟩, hW, hsame.mono (by decide) (by decide)⟩
                        · show Steps p.tables e below (T128.setTop (mkF m 24 #[.val (.int p0), .val (.int p1), .val (.int i127), .val (.ref wLEAVE_GROUP), .unset] [(.int i127)])) _
                          refine st167 _ ?_
                          show Steps p.tables e below (T167.setTop (mkF m 27 #[.val (.int p0), .val (.int p1), .val (.int i127), .val (.ref wLEAVE_GROUP), .unset] [(.ref wLEAVE_GROUP)])) _
                          refine XS.astore X167.here hx rfl (hb hby at_27) rfl rfl (l' := #[.val (.int p0), .val (.int p1), .val (.int i127), .val (.ref wLEAVE_GROUP), .val (.ref wLEAVE_GROUP)]) rfl ?_
                          show Steps p.tables e below (T167.setTop (mkF m 29 #[.val (.int p0), .val (.int p1), .val (.int i127), .val (.ref wLEAVE_GROUP), .val (.ref wLEAVE_GROUP)] [])) _
                          refine XS.aloadN X167.here hx rfl (hb hby at_29) rfl rfl ?_
                          show Steps p.tables e below (T167.setTop (mkF m 30 #[.val (.int p0), .val (.int p1), .val (.int i127), .val (.ref wLEAVE_GROUP), .val (.ref wLEAVE_GROUP)] [(.ref wLEAVE_GROUP)])) _
                          refine XS.aload X167.here hx rfl (hb hby at_30) rfl rfl ?_
                          show Steps p.tables e below (T167.setTop (mkF m 32 #[.val (.int p0), .val (.int p1), .val (.int i127), .val (.ref wLEAVE_GROUP), .val (.ref wLEAVE_GROUP)] [(.ref wLEAVE_GROUP), (.ref wLEAVE_GROUP)])) _
                          refine Jvm.RoadKit.acmp (g := (mkF m 32 #[.val (.int p0), .val (.int p1), .val (.int i127), .val (.ref wLEAVE_GROUP), .val (.ref wLEAVE_GROUP)] [(.ref wLEAVE_GROUP), (.ref wLEAVE_GROUP)])) X167 hx rfl rfl rfl (pc0 := 32) (pc' := 37) (same := true) rfl (hb hby at_32) rfl (decide_eq_true (congrArg Value.ref (rfl : wLEAVE_GROUP = wLEAVE_GROUP))) (by decide) (by decide) ?_
                          show Steps p.tables e below (T167.setTop (mkF m 37 #[.val (.int p0), .val (.int p1), .val (.int i127), .val (.ref wLEAVE_GROUP), .val (.ref wLEAVE_GROUP)] [])) _
                          refine XS.aloadN X167.here hx rfl (hb hby at_37) rfl rfl ?_
                          show Steps p.tables e below (T167.setTop (mkF m 38 #[.val (.int p0), .val (.int p1), .val (.int i127), .val (.ref wLEAVE_GROUP), .val (.ref wLEAVE_GROUP)] [(.ref wLEAVE_GROUP)])) _
                          refine XS.ifnullNo X167.here hx rfl (hb hby at_38) rfl ?_
                          show Steps p.tables e below (T167.setTop (mkF m 41 #[.val (.int p0), .val (.int p1), .val (.int i127), .val (.ref wLEAVE_GROUP), .val (.ref wLEAVE_GROUP)] [])) _
                          refine XS.aloadN X167.here hx rfl (hb hby at_41) rfl rfl ?_
                          show Steps p.tables e below (T167.setTop (mkF m 42 #[.val (.int p0), .val (.int p1), .val (.int i127), .val (.ref wLEAVE_GROUP), .val (.ref wLEAVE_GROUP)] [(.ref wLEAVE_GROUP)])) _
                          refine st169 _ ?_
                          show Steps p.tables e below (T169.setTop (mkF m 45 #[.val (.int p0), .val (.int p1), .val (.int i127), .val (.ref wLEAVE_GROUP), .val (.ref wLEAVE_GROUP)] [(.int (13 : Int32))])) _
                          refine XS.iloadN X169.here hx rfl (hb hby at_45) rfl ?_
                          show Steps p.tables e below (T169.setTop (mkF m 46 #[.val (.int p0), .val (.int p1), .val (.int i127), .val (.ref wLEAVE_GROUP), .val (.ref wLEAVE_GROUP)] [(.int i127), (.int (13 : Int32))])) _
                          refine XS.icmpNo X169.here hx rfl (hb hby at_46) rfl (teq (hc166 : (13 : Int32) = i127)).2 ?_
                          show Steps p.tables e below (T169.setTop (mkF m 49 #[.val (.int p0), .val (.int p1), .val (.int i127), .val (.ref wLEAVE_GROUP), .val (.ref wLEAVE_GROUP)] [])) _
                          refine XS.iconst X169.here hx rfl (hb hby at_49) ?_
                          show Steps p.tables e below (T169.setTop (mkF m 50 #[.val (.int p0), .val (.int p1), .val (.int i127), .val (.ref wLEAVE_GROUP), .val (.ref wLEAVE_GROUP)] [(.int (1 : Int32))])) _
                          refine XS.goto X169.here hx rfl (pc0 := 50) (pc' := 54) rfl (hb hby at_50) (by decide) (by decide) ?_
                          show Steps p.tables e below (T169.setTop (mkF m 54 #[.val (.int p0), .val (.int p1), .val (.int i127), .val (.ref wLEAVE_GROUP), .val (.ref wLEAVE_GROUP)] [(.int (1 : Int32))])) _
                          exact retN X169 hx (t := .boolean) Bd.returns (by simp) (hb hby at_54) hr
                        · show Q0 Z p0 p1 w_VALUES wPRODUCE wFETCH wLIST_OFFSETS wMETADATA wOFFSET_COMMIT wOFFSET_FETCH wFIND_COORDINATOR wJOIN_GROUP wHEARTBEAT wLEAVE_GROUP wSYNC_GROUP wAPI_VERSIONS wINIT_PRODUCER_ID wADD_PARTITIONS_TO_TXN wADD_OFFSETS_TO_TXN wEND_TXN wTXN_OFFSET_COMMIT k_VALUES h0 n0 _ T169.heap _
                          rw [e169]
                          exact ⟨rfl, N167⟩
                      · by_cases hc170 : (14 : Int32) = i127
                        · rw [((by rw [f2, if_neg (hc130 : ¬ ((0 : Int32) = i127)), if_neg (hc134 : ¬ ((1 : Int32) = i127)), if_neg (hc138 : ¬ ((2 : Int32) = i127)), if_neg (hc142 : ¬ ((3 : Int32) = i127)), if_neg (hc146 : ¬ ((8 : Int32) = i127)), if_neg (hc150 : ¬ ((9 : Int32) = i127)), if_neg (hc154 : ¬ ((10 : Int32) = i127)), if_neg (hc158 : ¬ ((11 : Int32) = i127)), if_neg (hc162 : ¬ ((12 : Int32) = i127)), if_neg (hc166 : ¬ ((13 : Int32) = i127)), if_pos (hc170 : (14 : Int32) = i127)]) : (f2 i127 w_VALUES wPRODUCE wFETCH wLIST_OFFSETS wMETADATA wOFFSET_COMMIT wOFFSET_FETCH wFIND_COORDINATOR wJOIN_GROUP wHEARTBEAT wLEAVE_GROUP wSYNC_GROUP wAPI_VERSIONS wINIT_PRODUCER_ID wADD_PARTITIONS_TO_TXN wADD_OFFSETS_TO_TXN wEND_TXN wTXN_OFFSET_COMMIT k_VALUES) = (.ref wSYNC_GROUP))] at hQ128
                          obtain ⟨rfl, N128q, E128⟩ := hQ128
                          have N128 := Fr.app N0 N128q
                          have EX128 : Ext h0 T128.heap := E128
                          obtain ⟨_, _, ⟨T171, L171, k171, n171⟩, -, X171, ⟨Lc171, hQ171, l171, y171, z171⟩, st171⟩ := Jvm.LawKit.callS X128 hx (y := (⟨"com/example/idem_log/idemlog/protocol/ApiForKeyPinLaw", "expected", "(I)Lcom/example/idem_log/idemlog/protocol/Api;"⟩ : MethodName)) hown (mvT hZ (hw _ (List.mem_of_getElem? (i := 38) rfl))) (mvT hZ (hw _ (List.mem_of_getElem? (i := 39) rfl))) (mvT hZ (hw _ (List.mem_of_getElem? (i := 40) rfl))) (mvT hZ (hw _ (List.mem_of_getElem? (i := 41) rfl))) (by decide) (backOf (W := 0) (rm3 l Z a0 hw [] i127 w_VALUES wPRODUCE wFETCH wLIST_OFFSETS wMETADATA wOFFSET_COMMIT wOFFSET_FETCH wFIND_COORDINATOR wJOIN_GROUP wHEARTBEAT wLEAVE_GROUP wSYNC_GROUP wAPI_VERSIONS wINIT_PRODUCER_ID wADD_PARTITIONS_TO_TXN wADD_OFFSETS_TO_TXN wEND_TXN wTXN_OFFSET_COMMIT k_VALUES T128.heap n0 (Nat.le_trans Z0 EX128.1) (W0.ext EX128) ) hZ (hw _ (List.mem_of_getElem? (i := 41) rfl)) (hw _ (List.mem_of_getElem? (i := 40) rfl)) (by decide) (by decide)) (g := (mkF m 24 #[.val (.int p0), .val (.int p1), .val (.int i127), .val (.ref wSYNC_GROUP), .unset] [(.int i127)])) rfl (by rw [hml]; rfl) (argsL := [(.int i127)]) (rest := []) (lenOf pd_2 rfl) rfl (by show 2 * 0 + _ ≤ _; exact Nat.le_of_eq rfl) (hb hby at_24) (fun _ _ => ⟨rfl, rfl, (by decide : 1 + 0 ≤ _), (by decide : 17 + 0 ≤ _)⟩)
                          dsimp only [Pt.U, Pt.locs, Pt.cells, Pt.slots] at X171 l171 y171 z171 st171 hQ171
                          subst l171 y171 z171
                          unfold Q3 at hQ171
                          have k172 : ∀ t, Steps p.tables e below (T128.setTop (mkF m 24 #[.val (.int p0), .val (.int p1), .val (.int i127), .val (.ref wSYNC_GROUP), .unset] [(.int i127)])) t → Steps p.tables e below (s₁.setTop (entryFrame m #[(.int p0), (.int p1)] maxLocals)) t := fun t kt => k129 t (by
                            show Steps p.tables e below (s₁.setTop (mkF m 19 #[.val (.int p0), .val (.int p1), .val (.int i127), .unset, .unset] [(.int i127)])) _
                            refine st128 _ ?_
                            show Steps p.tables e below (T128.setTop (mkF m 22 #[.val (.int p0), .val (.int p1), .val (.int i127), .unset, .unset] [(.ref wSYNC_GROUP)])) _
                            refine XS.astoreN X128.here hx rfl (hb hby at_22) rfl rfl (l' := #[.val (.int p0), .val (.int p1), .val (.int i127), .val (.ref wSYNC_GROUP), .unset]) rfl ?_
                            show Steps p.tables e below (T128.setTop (mkF m 23 #[.val (.int p0), .val (.int p1), .val (.int i127), .val (.ref wSYNC_GROUP), .unset] [])) _
                            refine XS.iloadN X128.here hx rfl (hb hby at_23) rfl ?_
                            exact kt)
                          rw [((by rw [f3, if_neg ((Ne.symm hc130) : ¬ (i127 = (0 : Int32))), if_neg ((Ne.symm hc134) : ¬ (i127 = (1 : Int32))), if_neg ((Ne.symm hc138) : ¬ (i127 = (2 : Int32))), if_neg ((Ne.symm hc142) : ¬ (i127 = (3 : Int32))), if_neg ((Ne.symm hc146) : ¬ (i127 = (8 : Int32))), if_neg ((Ne.symm hc150) : ¬ (i127 = (9 : Int32))), if_neg ((Ne.symm hc154) : ¬ (i127 = (10 : Int32))), if_neg ((Ne.symm hc158) : ¬ (i127 = (11 : Int32))), if_neg ((Ne.symm hc162) : ¬ (i127 = (12 : Int32))), if_neg ((Ne.symm hc166) : ¬ (i127 = (13 : Int32))), if_pos ((Eq.symm hc170) : i127 = (14 : Int32))]) : (f3 i127 w_VALUES wPRODUCE wFETCH wLIST_OFFSETS wMETADATA wOFFSET_COMMIT wOFFSET_FETCH wFIND_COORDINATOR wJOIN_GROUP wHEARTBEAT wLEAVE_GROUP wSYNC_GROUP wAPI_VERSIONS wINIT_PRODUCER_ID wADD_PARTITIONS_TO_TXN wADD_OFFSETS_TO_TXN wEND_TXN wTXN_OFFSET_COMMIT k_VALUES) = (.ref wSYNC_GROUP))] at hQ171
                          obtain ⟨rfl, N171q, e171⟩ := hQ171
                          have N171 := Fr.app N128 N171q
                          obtain ⟨T173, X173, e173, st173⟩ := getF X171 hx hZ hown (host := "") (Or.inl (hw _ (List.mem_of_getElem? (i := 43) rfl))) Via.refl e171 (FSYNC_GROUP_key.ext EX128) (g := (mkF m 42 #[.val (.int p0), .val (.int p1), .val (.int i127), .val (.ref wSYNC_GROUP), .val (.ref wSYNC_GROUP)] [(.ref wSYNC_GROUP)])) rfl rfl (hb hby at_42)
                          obtain ⟨fs, hr, hrun, hended, hW, hsame⟩ := X173.leave (v := some (.int (1 : Int32))) (fun h => by rw [Bd.returns] at h; cases h)
                          refine ⟨_, _, k172 _ ?_, hrun, hended, _, _, rfl, ?_, ⟨_, rfl⟩, hW, hsame.mono (by decide) (by decide)⟩
                          · show Steps p.tables e below (T128.setTop (mkF m 24 #[.val (.int p0), .val (.int p1), .val (.int i127), .val (.ref wSYNC_GROUP), .unset] [(.int i127)])) _
                            refine st171 _ ?_
                            show Steps p.tables e below (T171.setTop (mkF m 27 #[.val (.int p0), .val (.int p1), .val (.int i127), .val (.ref wSYNC_GROUP), .unset] [(.ref wSYNC_GROUP)])) _
                            refine XS.astore X171.here hx rfl (hb hby at_27) rfl rfl (l' := #[.val (.int p0), .val (.int p1), .val (.int i127), .val (.ref wSYNC_GROUP), .val (.ref wSYNC_GROUP)]) rfl ?_
                            show Steps p.tables e below (T171.setTop (mkF m 29 #[.val (.int p0), .val (.int p1), .val (.int i127), .val (.ref wSYNC_GROUP), .val (.ref wSYNC_GROUP)] [])) _
                            refine XS.aloadN X171.here hx rfl (hb hby at_29) rfl rfl ?_
                            show Steps p.tables e below (T171.setTop (mkF m 30 #[.val (.int p0), .val (.int p1), .val (.int i127), .val (.ref wSYNC_GROUP), .val (.ref wSYNC_GROUP)] [(.ref wSYNC_GROUP)])) _
                            refine XS.aload X171.here hx rfl (hb hby at_30) rfl rfl ?_
                            show Steps p.tables e below (T171.setTop (mkF m 32 #[.val (.int p0), .val (.int p1), .val (.int i127), .val (.ref wSYNC_GROUP), .val (.ref wSYNC_GROUP)] [(.ref wSYNC_GROUP), (.ref wSYNC_GROUP)])) _
                            refine Jvm.RoadKit.acmp (g := (mkF m 32 #[.val (.int p0), .val (.int p1), .val (.int i127), .val (.ref wSYNC_GROUP), .val (.ref wSYNC_GROUP)] [(.ref wSYNC_GROUP), (.ref wSYNC_GROUP)])) X171 hx rfl rfl rfl (pc0 := 32) (pc' := 37) (same := true) rfl (hb hby at_32) rfl (decide_eq_true (congrArg Value.ref (rfl : wSYNC_GROUP = wSYNC_GROUP))) (by decide) (by decide) ?_
                            show Steps p.tables e below (T171.setTop (mkF m 37 #[.val (.int p0), .val (.int p1), .val (.int i127), .val (.ref wSYNC_GROUP), .val (.ref wSYNC_GROUP)] [])) _
                            refine XS.aloadN X171.here hx rfl (hb hby at_37) rfl rfl ?_
                            show Steps p.tables e below (T171.setTop (mkF m 38 #[.val (.int p0), .val (.int p1), .val (.int i127), .val (.ref wSYNC_GROUP), .val (.ref wSYNC_GROUP)] [(.ref wSYNC_GROUP)])) _
                            refine XS.ifnullNo X171.here hx rfl (hb hby at_38) rfl ?_
                            show Steps p.tables e below (T171.setTop (mkF m 41 #[.val (.int p0), .val (.int p1), .val (.int i127), .val (.ref wSYNC_GROUP), .val (.ref wSYNC_GROUP)] [])) _
                            refine XS.aloadN X171.here hx rfl (hb hby at_41) rfl rfl ?_
                            show Steps p.tables e below (T171.setTop (mkF m 42 #[.val (.int p0), .val (.int p1), .val (.int i127), .val (.ref wSYNC_GROUP), .val (.ref wSYNC_GROUP)] [(.ref wSYNC_GROUP)])) _
                            refine st173 _ ?_
                            show Steps p.tables e below (T173.setTop (mkF m 45 #[.val (.int p0), .val (.int p1), .val (.int i127), .val (.ref wSYNC_GROUP), .val (.ref wSYNC_GROUP)] [(.int (14 : Int32))])) _
                            refine XS.iloadN X173.here hx rfl (hb hby at_45) rfl ?_
                            show Steps p.tables e below (T173.setTop (mkF m 46 #[.val (.int p0), .val (.int p1), .val (.int i127), .val (.ref wSYNC_GROUP), .val (.ref wSYNC_GROUP)] [(.int i127), (.int (14 : Int32))])) _
                            refine XS.icmpNo X173.here hx rfl (hb hby at_46) rfl (teq (hc170 : (14 : Int32) = i127)).2 ?_
                            show Steps p.tables e below (T173.setTop (mkF m 49 #[.val (.int p0), .val (.int p1), .val (.int i127), .val (.ref wSYNC_GROUP), .val (.ref wSYNC_GROUP)] [])) _
                            refine XS.iconst X173.here hx rfl (hb hby at_49) ?_
                            show Steps p.tables e below (T173.setTop (mkF m 50 #[.val (.int p0), .val (.int p1), .val (.int i127), .val (.ref wSYNC_GROUP), .val (.ref wSYNC_GROUP)] [(.int (1 : Int32))])) _
                            refine XS.goto X173.here hx rfl (pc0 := 50) (pc' := 54) rfl (hb hby at_50) (by decide) (by decide) ?_
                            show Steps p.tables e below (T173.setTop (mkF m 54 #[.val (.int p0), .val (.int p1), .val (.int i127), .val (.ref wSYNC_GROUP), .val (.ref wSYNC_GROUP)] [(.int (1 : Int32))])) _
                            exact retN X173 hx (t := .boolean) Bd.returns (by simp) (hb hby at_54) hr
                          · show Q0 Z p0 p1 w_VALUES wPRODUCE wFETCH wLIST_OFFSETS wMETADATA wOFFSET_COMMIT wOFFSET_FETCH wFIND_COORDINATOR wJOIN_GROUP wHEARTBEAT wLEAVE_GROUP wSYNC_GROUP wAPI_VERSIONS wINIT_PRODUCER_ID wADD_PARTITIONS_TO_TXN wADD_OFFSETS_TO_TXN wEND_TXN wTXN_OFFSET_COMMIT k_VALUES h0 n0 _ T173.heap _
                            rw [e173]
                            exact ⟨rfl, N171⟩
                        · by_cases hc174 : (18 : Int32) = i127
                          · rw [((by rw [f2, if_neg (hc130 : ¬ ((0 : Int32) = i127)), if_neg (hc134 : ¬ ((1 : Int32) = i127)), if_neg (hc138 : ¬ ((2 : Int32) = i127)), if_neg (hc142 : ¬ ((3 : Int32) = i127)), if_neg (hc146 : ¬ ((8 : Int32) = i127)), if_neg (hc150 : ¬ ((9 : Int32) = i127)), if_neg (hc154 : ¬ ((10 : Int32) = i127)), if_neg (hc158 : ¬ ((11 : Int32) = i127)), if_neg (hc162 : ¬ ((12 : Int32) = i127)), if_neg (hc166 : ¬ ((13 : Int32) = i127)), if_neg (hc170 : ¬ ((14 : Int32) = i127)), if_pos (hc174 : (18 : Int32) = i127)]) : (f2 i127 w_VALUES wPRODUCE wFETCH wLIST_OFFSETS wMETADATA wOFFSET_COMMIT wOFFSET_FETCH wFIND_COORDINATOR wJOIN_GROUP wHEARTBEAT wLEAVE_GROUP wSYNC_GROUP wAPI_VERSIONS wINIT_PRODUCER_ID wADD_PARTITIONS_TO_TXN wADD_OFFSETS_TO_TXN wEND_TXN wTXN_OFFSET_COMMIT k_VALUES) = (.ref wAPI_VERSIONS))] at hQ128
                            obtain ⟨rfl, N128q, E128⟩ := hQ128
                            have N128 := Fr.app N0 N128q
                            have EX128 : Ext h0 T128.heap := E128
                            obtain ⟨_, _, ⟨T175, L175, k175, n175⟩, -, X175, ⟨Lc175, hQ175, l175, y175, z175⟩, st175⟩ := Jvm.LawKit.callS X128 hx (y := (⟨"com/example/idem_log/idemlog/protocol/ApiForKeyPinLaw", "expected", "(I)Lcom/example/idem_log/idemlog/protocol/Api;"⟩ : MethodName)) hown (mvT hZ (hw _ (List.mem_of_getElem? (i := 38) rfl))) (mvT hZ (hw _ (List.mem_of_getElem? (i := 39) rfl))) (mvT hZ (hw _ (List.mem_of_getElem? (i := 40) rfl))) (mvT hZ (hw _ (List.mem_of_getElem? (i := 41) rfl))) (by decide) (backOf (W := 0) (rm3 l Z a0 hw [] i127 w_VALUES wPRODUCE wFETCH wLIST_OFFSETS wMETADATA wOFFSET_COMMIT wOFFSET_FETCH wFIND_COORDINATOR wJOIN_GROUP wHEARTBEAT wLEAVE_GROUP wSYNC_GROUP wAPI_VERSIONS wINIT_PRODUCER_ID wADD_PARTITIONS_TO_TXN wADD_OFFSETS_TO_TXN wEND_TXN wTXN_OFFSET_COMMIT k_VALUES T128.heap n0 (Nat.le_trans Z0 EX128.1) (W0.ext EX128) ) hZ (hw _ (List.mem_of_getElem? (i := 41) rfl)) (hw _ (List.mem_of_getElem? (i := 40) rfl)) (by decide) (by decide)) (g := (mkF m 24 #[.val (.int p0), .val (.int p1), .val (.int i127), .val (.ref wAPI_VERSIONS), .unset] [(.int i127)])) rfl (by rw [hml]; rfl) (argsL := [(.int i127)]) (rest := []) (lenOf pd_2 rfl) rfl (by show 2 * 0 + _ ≤ _; exact Nat.le_of_eq rfl) (hb hby at_24) (fun _ _ => ⟨rfl, rfl, (by decide : 1 + 0 ≤ _), (by decide : 17 + 0 ≤ _)⟩)
                            dsimp only [Pt.U, Pt.locs, Pt.cells, Pt.slots] at X175 l175 y175 z175 st175 hQ175
                            subst l175 y175 z175
                            unfold Q3 at hQ175
                            have k176 : ∀ t, Steps p.tables e below (T128.setTop (mkF m 24 #[.val (.int p0), .val (.int p1), .val (.int i127), .val (.ref wAPI_VERSIONS), .unset] [(.int i127)])) t → Steps p.tables e below (s₁.setTop (entryFrame m #[(.int p0), (.int p1)] maxLocals)) t := fun t kt => k129 t (by
                              show Steps p.tables e below (s₁.setTop (mkF m 19 #[.val (.int p0), .val (.int p1), .val (.int i127), .unset, .unset] [(.int i127)])) _
                              refine st128 _ ?_
                              show Steps p.tables e below (T128.setTop (mkF m 22 #[.val (.int p0), .val (.int p1), .val (.int i127), .unset, .unset] [(.ref wAPI_VERSIONS)])) _
                              refine XS.astoreN X128.here hx rfl (hb hby at_22) rfl rfl (l' := #[.val (.int p0), .val (.int p1), .val (.int i127), .val (.ref wAPI_VERSIONS), .unset]) rfl ?_
                              show Steps p.tables e below (T128.setTop (mkF m 23 #[.val (.int p0), .val (.int p1), .val (.int i127), .val (.ref wAPI_VERSIONS), .unset] [])) _
                              refine XS.iloadN X128.here hx rfl (hb hby at_23) rfl ?_
                              exact kt)
                            rw [((by rw [f3, if_neg ((Ne.symm hc130) : ¬ (i127 = (0 : Int32))), if_neg ((Ne.symm hc134) : ¬ (i127 = (1 : Int32))), if_neg ((Ne.symm hc138) : ¬ (i127 = (2 : Int32))), if_neg ((Ne.symm hc142) : ¬ (i127 = (3 : Int32))), if_neg ((Ne.symm hc146) : ¬ (i127 = (8 : Int32))), if_neg ((Ne.symm hc150) : ¬ (i127 = (9 : Int32))), if_neg ((Ne.symm hc154) : ¬ (i127 = (10 : Int32))), if_neg ((Ne.symm hc158) : ¬ (i127 = (11 : Int32))), if_neg ((Ne.symm hc162) : ¬ (i127 = (12 : Int32))), if_neg ((Ne.symm hc166) : ¬ (i127 = (13 : Int32))), if_neg ((Ne.symm hc170) : ¬ (i127 = (14 : Int32))), if_pos ((Eq.symm hc174) : i127 = (18 : Int32))]) : (f3 i127 w_VALUES wPRODUCE wFETCH wLIST_OFFSETS wMETADATA wOFFSET_COMMIT wOFFSET_FETCH wFIND_COORDINATOR wJOIN_GROUP wHEARTBEAT wLEAVE_GROUP wSYNC_GROUP wAPI_VERSIONS wINIT_PRODUCER_ID wADD_PARTITIONS_TO_TXN wADD_OFFSETS_TO_TXN wEND_TXN wTXN_OFFSET_COMMIT k_VALUES) = (.ref wAPI_VERSIONS))] at hQ175
                            obtain ⟨rfl, N175q, e175⟩ := hQ175
                            have N175 := Fr.app N128 N175q
                            obtain ⟨T177, X177, e177, st177⟩ := getF X175 hx hZ hown (host := "") (Or.inl (hw _ (List.mem_of_getElem? (i := 43) rfl))) Via.refl e175 (FAPI_VERSIONS_key.ext EX128) (g := (mkF m 42 #[.val (.int p0), .val (.int p1), .val (.int i127), .val (.ref wAPI_VERSIONS), .val (.ref wAPI_VERSIONS)] [(.ref wAPI_VERSIONS)])) rfl rfl (hb hby at_42)
                            obtain ⟨fs, hr, hrun, hended, hW, hsame⟩ := X177.leave (v := some (.int (1 : Int32))) (fun h => by rw [Bd.returns] at h; cases h)
                            refine ⟨_, _, k176 _ ?_, hrun, hended, _, _, rfl, ?_, ⟨_, rfl⟩, hW, hsame.mono (by decide) (by decide)⟩
                            · show Steps p.tables e below (T128.setTop (mkF m 24 #[.val (.int p0), .val (.int p1), .val (.int i127), .val (.ref wAPI_VERSIONS), .unset] [(.int i127)])) _
                              refine st175 _ ?_
                              show Steps p.tables e below (T175.setTop (mkF m 27 #[.val (.int p0), .val (.int p1), .val (.int i127), .val (.ref wAPI_VERSIONS), .unset] [(.ref wAPI_VERSIONS)])) _
                              refine XS.astore X175.here hx rfl (hb hby at_27) rfl rfl (l' := #[.val (.int p0), .val (.int p1), .val (.int i127), .val (.ref wAPI_VERSIONS), .val (.ref wAPI_VERSIONS)]) rfl ?_
                              show Steps p.tables e below (T175.setTop (mkF m 29 #[.val (.int p0), .val (.int p1), .val (.int i127), .val (.ref wAPI_VERSIONS), .val (.ref wAPI_VERSIONS)] [])) _
                              refine XS.aloadN X175.here hx rfl (hb hby at_29) rfl rfl ?_
                              show Steps p.tables e below (T175.setTop (mkF m 30 #[.val (.int p0), .val (.int p1), .val (.int i127), .val (.ref wAPI_VERSIONS), .val (.ref wAPI_VERSIONS)] [(.ref wAPI_VERSIONS)])) _
                              refine XS.aload X175.here hx rfl (hb hby at_30) rfl rfl ?_
                              show Steps p.tables e below (T175.setTop (mkF m 32 #[.val (.int p0), .val (.int p1), .val (.int i127), .val (.ref wAPI_VERSIONS), .val (.ref wAPI_VERSIONS)] [(.ref wAPI_VERSIONS), (.ref wAPI_VERSIONS)])) _
                              refine Jvm.RoadKit.acmp (g := (mkF m 32 #[.val (.int p0), .val (.int p1), .val (.int i127), .val (.ref wAPI_VERSIONS), .val (.ref wAPI_VERSIONS)] [(.ref wAPI_VERSIONS), (.ref wAPI_VERSIONS)])) X175 hx rfl rfl rfl (pc0 := 32) (pc' := 37) (same := true) rfl (hb hby at_32) rfl (decide_eq_true (congrArg Value.ref (rfl : wAPI_VERSIONS = wAPI_VERSIONS))) (by decide) (by decide) ?_
                              show Steps p.tables e below (T175.setTop (mkF m 37 #[.val (.int p0), .val (.int p1), .val (.int i127), .val (.ref wAPI_VERSIONS), .val (.ref wAPI_VERSIONS)] [])) _
                              refine XS.aloadN X175.here hx rfl (hb hby at_37) rfl rfl ?_
                              show Steps p.tables e below (T175.setTop (mkF m 38 #[.val (.int p0), .val (.int p1), .val (.int i127), .val (.ref wAPI_VERSIONS), .val (.ref wAPI_VERSIONS)] [(.ref wAPI_VERSIONS)])) _
                              refine XS.ifnullNo X175.here hx rfl (hb hby at_38) rfl ?_
                              show Steps p.tables e below (T175.setTop (mkF m 41 #[.val (.int p0), .val (.int p1), .val (.int i127), .val (.ref wAPI_VERSIONS), .val (.ref wAPI_VERSIONS)] [])) _
                              refine XS.aloadN X175.here hx rfl (hb hby at_41) rfl rfl ?_
                              show Steps p.tables e below (T175.setTop (mkF m 42 #[.val (.int p0), .val (.int p1), .val (.int i127), .val (.ref wAPI_VERSIONS), .val (.ref wAPI_VERSIONS)] [(.ref wAPI_VERSIONS)])) _
                              refine st177 _ ?_
                              show Steps p.tables e below (T177.setTop (mkF m 45 #[.val (.int p0), .val (.int p1), .val (.int i127), .val (.ref wAPI_VERSIONS), .val (.ref wAPI_VERSIONS)] [(.int (18 : Int32))])) _
                              refine XS.iloadN X177.here hx rfl (hb hby at_45) rfl ?_
                              show Steps p.tables e below (T177.setTop (mkF m 46 #[.val (.int p0), .val (.int p1), .val (.int i127), .val (.ref wAPI_VERSIONS), .val (.ref wAPI_VERSIONS)] [(.int i127), (.int (18 : Int32))])) _
                              refine XS.icmpNo X177.here hx rfl (hb hby at_46) rfl (teq (hc174 : (18 : Int32) = i127)).2 ?_
                              show Steps p.tables e below (T177.setTop (mkF m 49 #[.val (.int p0), .val (.int p1), .val (.int i127), .val (.ref wAPI_VERSIONS), .val (.ref wAPI_VERSIONS)] [])) _
                              refine XS.iconst X177.here hx rfl (hb hby at_49) ?_
                              show Steps p.tables e below (T177.setTop (mkF m 50 #[.val (.int p0), .val (.int p1), .val (.int i127), .val (.ref wAPI_VERSIONS), .val (.ref wAPI_VERSIONS)] [(.int (1 : Int32))])) _
                              refine XS.goto X177.here hx rfl (pc0 := 50) (pc' := 54) rfl (hb hby at_50) (by decide) (by decide) ?_
                              show Steps p.tables e below (T177.setTop (mkF m 54 #[.val (.int p0), .val (.int p1), .val (.int i127), .val (.ref wAPI_VERSIONS), .val (.ref wAPI_VERSIONS)] [(.int (1 : Int32))])) _
                              exact retN X177 hx (t := .boolean) Bd.returns (by simp) (hb hby at_54) hr
                            · show Q0 Z p0 p1 w_VALUES wPRODUCE wFETCH wLIST_OFFSETS wMETADATA wOFFSET_COMMIT wOFFSET_FETCH wFIND_COORDINATOR wJOIN_GROUP wHEARTBEAT wLEAVE_GROUP wSYNC_GROUP wAPI_VERSIONS wINIT_PRODUCER_ID wADD_PARTITIONS_TO_TXN wADD_OFFSETS_TO_TXN wEND_TXN wTXN_OFFSET_COMMIT k_VALUES h0 n0 _ T177.heap _
                              rw [e177]
                              exact ⟨rfl, N175⟩
                          · by_cases hc178 : (22 : Int32) = i127
                            · rw [((by rw [f2, if_neg (hc130 : ¬ ((0 : Int32) = i127)), if_neg (hc134 : ¬ ((1 : Int32) = i127)), if_neg (hc138 : ¬ ((2 : Int32) = i127)), if_neg (hc142 : ¬ ((3 : Int32) = i127)), if_neg (hc146 : ¬ ((8 : Int32) = i127)), if_neg (hc150 : ¬ ((9 : Int32) = i127)), if_neg (hc154 : ¬ ((10 : Int32) = i127)), if_neg (hc158 : ¬ ((11 : Int32) = i127)), if_neg (hc162 : ¬ ((12 : Int32) = i127)), if_neg (hc166 : ¬ ((13 : Int32) = i127)), if_neg (hc170 : ¬ ((14 : Int32) = i127)), if_neg (hc174 : ¬ ((18 : Int32) = i127)), if_pos (hc178 : (22 : Int32) = i127)]) : (f2 i127 w_VALUES wPRODUCE wFETCH wLIST_OFFSETS wMETADATA wOFFSET_COMMIT wOFFSET_FETCH wFIND_COORDINATOR wJOIN_GROUP wHEARTBEAT wLEAVE_GROUP wSYNC_GROUP wAPI_VERSIONS wINIT_PRODUCER_ID wADD_PARTITIONS_TO_TXN wADD_OFFSETS_TO_TXN wEND_TXN wTXN_OFFSET_COMMIT k_VALUES) = (.ref wINIT_PRODUCER_ID))] at hQ128
                              obtain ⟨rfl, N128q, E128⟩ := hQ128
                              have N128 := Fr.app N0 N128q
                              have EX128 : Ext h0 T128.heap := E128
                              obtain ⟨_, _, ⟨T179, L179, k179, n179⟩, -, X179, ⟨Lc179, hQ179, l179, y179, z179⟩, st179⟩ := Jvm.LawKit.callS X128 hx (y := (⟨"com/example/idem_log/idemlog/protocol/ApiForKeyPinLaw", "expected", "(I)Lcom/example/idem_log/idemlog/protocol/Api;"⟩ : MethodName)) hown (mvT hZ (hw _ (List.mem_of_getElem? (i := 38) rfl))) (mvT hZ (hw _ (List.mem_of_getElem? (i := 39) rfl))) (mvT hZ (hw _ (List.mem_of_getElem? (i := 40) rfl))) (mvT hZ (hw _ (List.mem_of_getElem? (i := 41) rfl))) (by decide) (backOf (W := 0) (rm3 l Z a0 hw [] i127 w_VALUES wPRODUCE wFETCH wLIST_OFFSETS wMETADATA wOFFSET_COMMIT wOFFSET_FETCH wFIND_COORDINATOR wJOIN_GROUP wHEARTBEAT wLEAVE_GROUP wSYNC_GROUP wAPI_VERSIONS wINIT_PRODUCER_ID wADD_PARTITIONS_TO_TXN wADD_OFFSETS_TO_TXN wEND_TXN wTXN_OFFSET_COMMIT k_VALUES T128.heap n0 (Nat.le_trans Z0 EX128.1) (W0.ext EX128) ) hZ (hw _ (List.mem_of_getElem? (i := 41) rfl)) (hw _ (List.mem_of_getElem? (i := 40) rfl)) (by decide) (by decide)) (g := (mkF m 24 #[.val (.int p0), .val (.int p1), .val (.int i127), .val (.ref wINIT_PRODUCER_ID), .unset] [(.int i127)])) rfl (by rw [hml]; rfl) (argsL := [(.int i127)]) (rest := []) (lenOf pd_2 rfl) rfl (by show 2 * 0 + _ ≤ _; exact Nat.le_of_eq rfl) (hb hby at_24) (fun _ _ => ⟨rfl, rfl, (by decide : 1 + 0 ≤ _), (by decide : 17 + 0 ≤ _)⟩)
                              dsimp only [Pt.U, Pt.locs, Pt.cells, Pt.slots] at X179 l179 y179 z179 st179 hQ179
                              subst l179 y179 z179
                              unfold Q3 at hQ179
                              have k180 : ∀ t, Steps p.tables e below (T128.setTop (mkF m 24 #[.val (.int p0), .val (.int p1), .val (.int i127), .val (.ref wINIT_PRODUCER_ID), .unset] [(.int i127)])) t → Steps p.tables e below (s₁.setTop (entryFrame m #[(.int p0), (.int p1)] maxLocals)) t := fun t kt => k129 t (by
                                show Steps p.tables e below (s₁.setTop (mkF m 19 #[.val (.int p0), .val (.int p1), .val (.int i127), .unset, .unset] [(.int i127)])) _
                                refine st128 _ ?_
                                show Steps p.tables e below (T128.setTop (mkF m 22 #[.val (.int p0), .val (.int p1), .val (.int i127), .unset, .unset] [(.ref wINIT_PRODUCER_ID)])) _
                                refine XS.astoreN X128.here hx rfl (hb hby at_22) rfl rfl (l' := #[.val (.int p0), .val (.int p1), .val (.int i127), .val (.ref wINIT_PRODUCER_ID), .unset]) rfl ?_
                                show Steps p.tables e below (T128.setTop (mkF m 23 #[.val (.int p0), .val (.int p1), .val (.int i127), .val (.ref wINIT_PRODUCER_ID), .unset] [])) _
                                refine XS.iloadN X128.here hx rfl (hb hby at_23) rfl ?_
                                exact kt)
                              rw [((by rw [f3, if_neg ((Ne.symm hc130) : ¬ (i127 = (0 : Int32))), if_neg ((Ne.symm hc134) : ¬ (i127 = (1 : Int32))), if_neg ((Ne.symm hc138) : ¬ (i127 = (2 : Int32))), if_neg ((Ne.symm hc142) : ¬ (i127 = (3 : Int32))), if_neg ((Ne.symm hc146) : ¬ (i127 = (8 : Int32))), if_neg ((Ne.symm hc150) : ¬ (i127 = (9 : Int32))), if_neg ((Ne.symm hc154) : ¬ (i127 = (10 : Int32))), if_neg ((Ne.symm hc158) : ¬ (i127 = (11 : Int32))), if_neg ((Ne.symm hc162) : ¬ (i127 = (12 : Int32))), if_neg ((Ne.symm hc166) : ¬ (i127 = (13 : Int32))), if_neg ((Ne.symm hc170) : ¬ (i127 = (14 : Int32))), if_neg ((Ne.symm hc174) : ¬ (i127 = (18 : Int32))), if_pos ((Eq.symm hc178) : i127 = (22 : Int32))]) : (f3 i127 w_VALUES wPRODUCE wFETCH wLIST_OFFSETS wMETADATA wOFFSET_COMMIT wOFFSET_FETCH wFIND_COORDINATOR wJOIN_GROUP wHEARTBEAT wLEAVE_GROUP wSYNC_GROUP wAPI_VERSIONS wINIT_PRODUCER_ID wADD_PARTITIONS_TO_TXN wADD_OFFSETS_TO_TXN wEND_TXN wTXN_OFFSET_COMMIT k_VALUES) = (.ref wINIT_PRODUCER_ID))] at hQ179
                              obtain ⟨rfl, N179q, e179⟩ := hQ179
                              have N179 := Fr.app N128 N179q
                              obtain ⟨T181, X181, e181, st181⟩ := getF X179 hx hZ hown (host := "") (Or.inl (hw _ (List.mem_of_getElem? (i := 43) rfl))) Via.refl e179 (FINIT_PRODUCER_ID_key.ext EX128) (g := (mkF m 42 #[.val (.int p0), .val (.int p1), .val (.int i127), .val (.ref wINIT_PRODUCER_ID), .val (.ref wINIT_PRODUCER_ID)] [(.ref wINIT_PRODUCER_ID)])) rfl rfl (hb hby at_42)
                              obtain ⟨fs, hr, hrun, hended, hW, hsame⟩ := X181.leave (v := some (.int (1 : Int32))) (fun h => by rw [Bd.returns] at h; cases h)
                              refine ⟨_, _, k180 _ ?_, hrun, hended, _, _, rfl, ?_, ⟨_, rfl⟩, hW, hsame.mono (by decide) (by decide)⟩
                              · show Steps p.tables e below (T128.setTop (mkF m 24 #[.val (.int p0), .val (.int p1), .val (.int i127), .val (.ref wINIT_PRODUCER_ID), .unset] [(.int i127)])) _
                                refine st179 _ ?_
                                show Steps p.tables e below (T179.setTop (mkF m 27 #[.val (.int p0), .val (.int p1), .val (.int i127), .val (.ref wINIT_PRODUCER_ID), .unset] [(.ref wINIT_PRODUCER_ID)])) _
                                refine XS.astore X179.here hx rfl (hb hby at_27) rfl rfl (l' := #[.val (.int p0), .val (.int p1), .val (.int i127), .val (.ref wINIT_PRODUCER_ID), .val (.ref wINIT_PRODUCER_ID)]) rfl ?_
                                show Steps p.tables e below (T179.setTop (mkF m 29 #[.val (.int p0), .val (.int p1), .val (.int i127), .val (.ref wINIT_PRODUCER_ID), .val (.ref wINIT_PRODUCER_ID)] [])) _
                                refine XS.aloadN X179.here hx rfl (hb hby at_29) rfl rfl ?_
                                show Steps p.tables e below (T179.setTop (mkF m 30 #[.val (.int p0), .val (.int p1), .val (.int i127), .val (.ref wINIT_PRODUCER_ID), .val (.ref wINIT_PRODUCER_ID)] [(.ref wINIT_PRODUCER_ID)])) _
                                refine XS.aload X179.here hx rfl (hb hby at_30) rfl rfl ?_
                                show Steps p.tables e below (T179.setTop (mkF m 32 #[.val (.int p0), .val (.int p1), .val (.int i127), .val (.ref wINIT_PRODUCER_ID), .val (.ref wINIT_PRODUCER_ID)] [(.ref wINIT_PRODUCER_ID), (.ref wINIT_PRODUCER_ID)])) _
                                refine Jvm.RoadKit.acmp (g := (mkF m 32 #[.val (.int p0), .val (.int p1), .val (.int i127), .val (.ref wINIT_PRODUCER_ID), .val (.ref wINIT_PRODUCER_ID)] [(.ref wINIT_PRODUCER_ID), (.ref wINIT_PRODUCER_ID)])) X179 hx rfl rfl rfl (pc0 := 32) (pc' := 37) (same := true) rfl (hb hby at_32) rfl (decide_eq_true (congrArg Value.ref (rfl : wINIT_PRODUCER_ID = wINIT_PRODUCER_ID))) (by decide) (by decide) ?_
                                show Steps p.tables e below (T179.setTop (mkF m 37 #[.val (.int p0), .val (.int p1), .val (.int i127), .val (.ref wINIT_PRODUCER_ID), .val (.ref wINIT_PRODUCER_ID)] [])) _
                                refine XS.aloadN X179.here hx rfl (hb hby at_37) rfl rfl ?_
                                show Steps p.tables e below (T179.setTop (mkF m 38 #[.val (.int p0), .val (.int p1), .val (.int i127), .val (.ref wINIT_PRODUCER_ID), .val (.ref wINIT_PRODUCER_ID)] [(.ref wINIT_PRODUCER_ID)])) _
                                refine XS.ifnullNo X179.here hx rfl (hb hby at_38) rfl ?_
                                show Steps p.tables e below (T179.setTop (mkF m 41 #[.val (.int p0), .val (.int p1), .val (.int i127), .val (.ref wINIT_PRODUCER_ID), .val (.ref wINIT_PRODUCER_ID)] [])) _
                                refine XS.aloadN X179.here hx rfl (hb hby at_41) rfl rfl ?_
                                show Steps p.tables e below (T179.setTop (mkF m 42 #[.val (.int p0), .val (.int p1), .val (.int i127), .val (.ref wINIT_PRODUCER_ID), .val (.ref wINIT_PRODUCER_ID)] [(.ref wINIT_PRODUCER_ID)])) _
                                refine st181 _ ?_
                                show Steps p.tables e below (T181.setTop (mkF m 45 #[.val (.int p0), .val (.int p1), .val (.int i127), .val (.ref wINIT_PRODUCER_ID), .val (.ref wINIT_PRODUCER_ID)] [(.int (22 : Int32))])) _
                                refine XS.iloadN X181.here hx rfl (hb hby at_45) rfl ?_
                                show Steps p.tables e below (T181.setTop (mkF m 46 #[.val (.int p0), .val (.int p1), .val (.int i127), .val (.ref wINIT_PRODUCER_ID), .val (.ref wINIT_PRODUCER_ID)] [(.int i127), (.int (22 : Int32))])) _
                                refine XS.icmpNo X181.here hx rfl (hb hby at_46) rfl (teq (hc178 : (22 : Int32) = i127)).2 ?_
                                show Steps p.tables e below (T181.setTop (mkF m 49 #[.val (.int p0), .val (.int p1), .val (.int i127), .val (.ref wINIT_PRODUCER_ID), .val (.ref wINIT_PRODUCER_ID)] [])) _
                                refine XS.iconst X181.here hx rfl (hb hby at_49) ?_
                                show Steps p.tables e below (T181.setTop (mkF m 50 #[.val (.int p0), .val (.int p1), .val (.int i127), .val (.ref wINIT_PRODUCER_ID), .val (.ref wINIT_PRODUCER_ID)] [(.int (1 : Int32))])) _
                                refine XS.goto X181.here hx rfl (pc0 := 50) (pc' := 54) rfl (hb hby at_50) (by decide) (by decide) ?_
                                show Steps p.tables e below (T181.setTop (mkF m 54 #[.val (.int p0), .val (.int p1), .val (.int i127), .val (.ref wINIT_PRODUCER_ID), .val (.ref wINIT_PRODUCER_ID)] [(.int (1 : Int32))])) _
                                exact retN X181 hx (t := .boolean) Bd.returns (by simp) (hb hby at_54) hr
                              · show Q0 Z p0 p1 w_VALUES wPRODUCE wFETCH wLIST_OFFSETS wMETADATA wOFFSET_COMMIT wOFFSET_FETCH wFIND_COORDINATOR wJOIN_GROUP wHEARTBEAT wLEAVE_GROUP wSYNC_GROUP wAPI_VERSIONS wINIT_PRODUCER_ID wADD_PARTITIONS_TO_TXN wADD_OFFSETS_TO_TXN wEND_TXN wTXN_OFFSET_COMMIT k_VALUES h0 n0 _ T181.heap _
                                rw [e181]
                                exact ⟨rfl, N179⟩
                            · by_cases hc182 : (24 : Int32) = i127
                              · rw [((by rw [f2, if_neg (hc130 : ¬ ((0 : Int32) = i127)), if_neg (hc134 : ¬ ((1 : Int32) = i127)), if_neg (hc138 : ¬ ((2 : Int32) = i127)), if_neg (hc142 : ¬ ((3 : Int32) = i127)), if_neg (hc146 : ¬ ((8 : Int32) = i127)), if_neg (hc150 : ¬ ((9 : Int32) = i127)), if_neg (hc154 : ¬ ((10 : Int32) = i127)), if_neg (hc158 : ¬ ((11 : Int32) = i127)), if_neg (hc162 : ¬ ((12 : Int32) = i127)), if_neg (hc166 : ¬ ((13 : Int32) = i127)), if_neg (hc170 : ¬ ((14 : Int32) = i127)), if_neg (hc174 : ¬ ((18 : Int32) = i127)), if_neg (hc178 : ¬ ((22 : Int32) = i127)), if_pos (hc182 : (24 : Int32) = i127)]) : (f2 i127 w_VALUES wPRODUCE wFETCH wLIST_OFFSETS wMETADATA wOFFSET_COMMIT wOFFSET_FETCH wFIND_COORDINATOR wJOIN_GROUP wHEARTBEAT wLEAVE_GROUP wSYNC_GROUP wAPI_VERSIONS wINIT_PRODUCER_ID wADD_PARTITIONS_TO_TXN wADD_OFFSETS_TO_TXN wEND_TXN wTXN_OFFSET_COMMIT k_VALUES) = (.ref wADD_PARTITIONS_TO_TXN))] at hQ128
                                obtain ⟨rfl, N128q, E128⟩ := hQ128
                                have N128 := Fr.app N0 N128q
                                have EX128 : Ext h0 T128.heap := E128
                                obtain ⟨_, _, ⟨T183, L183, k183, n183⟩, -, X183, ⟨Lc183, hQ183, l183, y183, z183⟩, st183⟩ := Jvm.LawKit.callS X128 hx (y := (⟨"com/example/idem_log/idemlog/protocol/ApiForKeyPinLaw", "expected", "(I)Lcom/example/idem_log/idemlog/protocol/Api;"⟩ : MethodName)) hown (mvT hZ (hw _ (List.mem_of_getElem? (i := 38) rfl))) (mvT hZ (hw _ (List.mem_of_getElem? (i := 39) rfl))) (mvT hZ (hw _ (List.mem_of_getElem? (i := 40) rfl))) (mvT hZ (hw _ (List.mem_of_getElem? (i := 41) rfl))) (by decide) (backOf (W := 0) (rm3 l Z a0 hw [] i127 w_VALUES wPRODUCE wFETCH wLIST_OFFSETS wMETADATA wOFFSET_COMMIT wOFFSET_FETCH wFIND_COORDINATOR wJOIN_GROUP wHEARTBEAT wLEAVE_GROUP wSYNC_GROUP wAPI_VERSIONS wINIT_PRODUCER_ID wADD_PARTITIONS_TO_TXN wADD_OFFSETS_TO_TXN wEND_TXN wTXN_OFFSET_COMMIT k_VALUES T128.heap n0 (Nat.le_trans Z0 EX128.1) (W0.ext EX128) ) hZ (hw _ (List.mem_of_getElem? (i := 41) rfl)) (hw _ (List.mem_of_getElem? (i := 40) rfl)) (by decide) (by decide)) (g := (mkF m 24 #[.val (.int p0), .val (.int p1), .val (.int i127), .val (.ref wADD_PARTITIONS_TO_TXN), .unset] [(.int i127)])) rfl (by rw [hml]; rfl) (argsL := [(.int i127)]) (rest := []) (lenOf pd_2 rfl) rfl (by show 2 * 0 + _ ≤ _; exact Nat.le_of_eq rfl) (hb hby at_24) (fun _ _ => ⟨rfl, rfl, (by decide : 1 + 0 ≤ _), (by decide : 17 + 0 ≤ _)⟩)
                                dsimp only [Pt.U, Pt.locs, Pt.cells, Pt.slots] at X183 l183 y183 z183 st183 hQ183
                                subst l183 y183 z183
                                unfold Q3 at hQ183
                                have k184 : ∀ t, Steps p.tables e below (T128.setTop (mkF m 24 #[.val (.int p0), .val (.int p1), .val (.int i127), .val (.ref wADD_PARTITIONS_TO_TXN), .unset] [(.int i127)])) t → Steps p.tables e below (s₁.setTop (entryFrame m #[(.int p0), (.int p1)] maxLocals)) t := fun t kt => k129 t (by
                                  show Steps p.tables e below (s₁.setTop (mkF m 19 #[.val (.int p0), .val (.int p1), .val (.int i127), .unset, .unset] [(.int i127)])) _
                                  refine st128 _ ?_
                                  show Steps p.tables e below (T128.setTop (mkF m 22 #[.val (.int p0), .val (.int p1), .val (.int i127), .unset, .unset] [(.ref wADD_PARTITIONS_TO_TXN)])) _
                                  refine XS.astoreN X128.here hx rfl (hb hby at_22) rfl rfl (l' := #[.val (.int p0), .val (.int p1), .val (.int i127), .val (.ref wADD_PARTITIONS_TO_TXN), .unset]) rfl ?_
                                  show Steps p.tables e below (T128.setTop (mkF m 23 #[.val (.int p0), .val (.int p1), .val (.int i127), .val (.ref wADD_PARTITIONS_TO_TXN), .unset] [])) _
                                  refine XS.iloadN X128.here hx rfl (hb hby at_23) rfl ?_
                                  exact kt)
                                rw [((by rw [f3, if_neg ((Ne.symm hc130) : ¬ (i127 = (0 : Int32))), if_neg ((Ne.symm hc134) : ¬ (i127 = (1 : Int32))), if_neg ((Ne.symm hc138) : ¬ (i127 = (2 : Int32))), if_neg ((Ne.symm hc142) : ¬ (i127 = (3 : Int32))), if_neg ((Ne.symm hc146) : ¬ (i127 = (8 : Int32))), if_neg ((Ne.symm hc150) : ¬ (i127 = (9 : Int32))), if_neg ((Ne.symm hc154) : ¬ (i127 = (10 : Int32))), if_neg ((Ne.symm hc158) : ¬ (i127 = (11 : Int32))), if_neg ((Ne.symm hc162) : ¬ (i127 = (12 : Int32))), if_neg ((Ne.symm hc166) : ¬ (i127 = (13 : Int32))), if_neg ((Ne.symm hc170) : ¬ (i127 = (14 : Int32))), if_neg ((Ne.symm hc174) : ¬ (i127 = (18 : Int32))), if_neg ((Ne.symm hc178) : ¬ (i127 = (22 : Int32))), if_pos ((Eq.symm hc182) : i127 = (24 : Int32))]) : (f3 i127 w_VALUES wPRODUCE wFETCH wLIST_OFFSETS wMETADATA wOFFSET_COMMIT wOFFSET_FETCH wFIND_COORDINATOR wJOIN_GROUP wHEARTBEAT wLEAVE_GROUP wSYNC_GROUP wAPI_VERSIONS wINIT_PRODUCER_ID wADD_PARTITIONS_TO_TXN wADD_OFFSETS_TO_TXN wEND_TXN wTXN_OFFSET_COMMIT k_VALUES) = (.ref wADD_PARTITIONS_TO_TXN))] at hQ183
                                obtain ⟨rfl, N183q, e183⟩ := hQ183
                                have N183 := Fr.app N128 N183q
                                obtain ⟨T185, X185, e185, st185⟩ := getF X183 hx hZ hown (host := "") (Or.inl (hw _ (List.mem_of_getElem? (i := 43) rfl))) Via.refl e183 (FADD_PARTITIONS_TO_TXN_key.ext EX128) (g := (mkF m 42 #[.val (.int p0), .val (.int p1), .val (.int i127), .val (.ref wADD_PARTITIONS_TO_TXN), .val (.ref wADD_PARTITIONS_TO_TXN)] [(.ref wADD_PARTITIONS_TO_TXN)])) rfl rfl (hb hby at_42)
                                obtain ⟨fs, hr, hrun, hended, hW, hsame⟩ := X185.leave (v := some (.int (1 : Int32))) (fun h => by rw [Bd.returns] at h; cases h)
                                refine ⟨_, _, k184 _ ?_, hrun, hended, _, _, rfl, ?_, ⟨_, rfl⟩, hW, hsame.mono (by decide) (by decide)⟩
                                · show Steps p.tables e below (T128.setTop (mkF m 24 #[.val (.int p0), .val (.int p1), .val (.int i127), .val (.ref wADD_PARTITIONS_TO_TXN), .unset] [(.int i127)])) _
                                  refine st183 _ ?_
                                  show Steps p.tables e below (T183.setTop (mkF m 27 #[.val (.int p0), .val (.int p1), .val (.int i127), .val (.ref wADD_PARTITIONS_TO_TXN), .unset] [(.ref wADD_PARTITIONS_TO_TXN)])) _
                                  refine XS.astore X183.here hx rfl (hb hby at_27) rfl rfl (l' := #[.val (.int p0), .val (.int p1), .val (.int i127), .val (.ref wADD_PARTITIONS_TO_TXN), .val (.ref wADD_PARTITIONS_TO_TXN)]) rfl ?_
                                  show Steps p.tables e below (T183.setTop (mkF m 29 #[.val (.int p0), .val (.int p1), .val (.int i127), .val (.ref wADD_PARTITIONS_TO_TXN), .val (.ref wADD_PARTITIONS_TO_TXN)] [])) _
                                  refine XS.aloadN X183.here hx rfl (hb hby at_29) rfl rfl ?_
                                  show Steps p.tables e below (T183.setTop (mkF m 30 #[.val (.int p0), .val (.int p1), .val (.int i127), .val (.ref wADD_PARTITIONS_TO_TXN), .val (.ref wADD_PARTITIONS_TO_TXN)] [(.ref wADD_PARTITIONS_TO_TXN)])) _
                                  refine XS.aload X183.here hx rfl (hb hby at_30) rfl rfl ?_
                                  show Steps p.tables e below (T183.setTop (mkF m 32 #[.val (.int p0), .val (.int p1), .val (.int i127), .val (.ref wADD_PARTITIONS_TO_TXN), .val (.ref wADD_PARTITIONS_TO_TXN)] [(.ref wADD_PARTITIONS_TO_TXN), (.ref wADD_PARTITIONS_TO_TXN)])) _
                                  refine Jvm.RoadKit.acmp (g := (mkF m 32 #[.val (.int p0), .val (.int p1), .val (.int i127), .val (.ref wADD_PARTITIONS_TO_TXN), .val (.ref wADD_PARTITIONS_TO_TXN)] [(.ref wADD_PARTITIONS_TO_TXN), (.ref wADD_PARTITIONS_TO_TXN)])) X183 hx rfl rfl rfl (pc0 := 32) (pc' := 37) (same := true) rfl (hb hby at_32) rfl (decide_eq_true (congrArg Value.ref (rfl : wADD_PARTITIONS_TO_TXN = wADD_PARTITIONS_TO_TXN))) (by decide) (by decide) ?_
                                  show Steps p.tables e below (T183.setTop (mkF m 37 #[.val (.int p0), .val (.int p1), .val (.int i127), .val (.ref wADD_PARTITIONS_TO_TXN), .val (.ref wADD_PARTITIONS_TO_TXN)] [])) _
                                  refine XS.aloadN X183.here hx rfl (hb hby at_37) rfl rfl ?_
                                  show Steps p.tables e below (T183.setTop (mkF m 38 #[.val (.int p0), .val (.int p1), .val (.int i127), .val (.ref wADD_PARTITIONS_TO_TXN), .val (.ref wADD_PARTITIONS_TO_TXN)] [(.ref wADD_PARTITIONS_TO_TXN)])) _
                                  refine XS.ifnullNo X183.here hx rfl (hb hby at_38) rfl ?_
                                  show Steps p.tables e below (T183.setTop (mkF m 41 #[.val (.int p0), .val (.int p1), .val (.int i127), .val (.ref wADD_PARTITIONS_TO_TXN), .val (.ref wADD_PARTITIONS_TO_TXN)] [])) _
                                  refine XS.aloadN X183.here hx rfl (hb hby at_41) rfl rfl ?_
                                  show Steps p.tables e below (T183.setTop (mkF m 42 #[.val (.int p0), .val (.int p1), .val (.int i127), .val (.ref wADD_PARTITIONS_TO_TXN), .val (.ref wADD_PARTITIONS_TO_TXN)] [(.ref wADD_PARTITIONS_TO_TXN)])) _
                                  refine st185 _ ?_
                                  show Steps p.tables e below (T185.setTop (mkF m 45 #[.val (.int p0), .val (.int p1), .val (.int i127), .val (.ref wADD_PARTITIONS_TO_TXN), .val (.ref wADD_PARTITIONS_TO_TXN)] [(.int (24 : Int32))])) _
                                  refine XS.iloadN X185.here hx rfl (hb hby at_45) rfl ?_
                                  show Steps p.tables e below (T185.setTop (mkF m 46 #[.val (.int p0), .val (.int p1), .val (.int i127), .val (.ref wADD_PARTITIONS_TO_TXN), .val (.ref wADD_PARTITIONS_TO_TXN)] [(.int i127), (.int (24 : Int32))])) _
                                  refine XS.icmpNo X185.here hx rfl (hb hby at_46) rfl (teq (hc182 : (24 : Int32) = i127)).2 ?_
                                  show Steps p.tables e below (T185.setTop (mkF m 49 #[.val (.int p0), .val (.int p1), .val (.int i127), .val (.ref wADD_PARTITIONS_TO_TXN), .val (.ref wADD_PARTITIONS_TO_TXN)] [])) _
                                  refine XS.iconst X185.here hx rfl (hb hby at_49) ?_
                                  show Steps p.tables e below (T185.setTop (mkF m 50 #[.val (.int p0), .val (.int p1), .val (.int i127), .val (.ref wADD_PARTITIONS_TO_TXN), .val (.ref wADD_PARTITIONS_TO_TXN)] [(.int (1 : Int32))])) _
                                  refine XS.goto X185.here hx rfl (pc0 := 50) (pc' := 54) rfl (hb hby at_50) (by decide) (by decide) ?_
                                  show Steps p.tables e below (T185.setTop (mkF m 54 #[.val (.int p0), .val (.int p1), .val (.int i127), .val (.ref wADD_PARTITIONS_TO_TXN), .val (.ref wADD_PARTITIONS_TO_TXN)] [(.int (1 : Int32))])) _
                                  exact retN X185 hx (t := .boolean) Bd.returns (by simp) (hb hby at_54) hr
                                · show Q0 Z p0 p1 w_VALUES wPRODUCE wFETCH wLIST_OFFSETS wMETADATA wOFFSET_COMMIT wOFFSET_FETCH wFIND_COORDINATOR wJOIN_GROUP wHEARTBEAT wLEAVE_GROUP wSYNC_GROUP wAPI_VERSIONS wINIT_PRODUCER_ID wADD_PARTITIONS_TO_TXN wADD_OFFSETS_TO_TXN wEND_TXN wTXN_OFFSET_COMMIT k_VALUES h0 n0 _ T185.heap _
                                  rw [e185]
                                  exact ⟨rfl, N183⟩
                              · by_cases hc186 : (25 : Int32) = i127
                                · rw [((by rw [f2, if_neg (hc130 : ¬ ((0 : Int32) = i127)), if_neg (hc134 : ¬ ((1 : Int32) = i127)), if_neg (hc138 : ¬ ((2 : Int32) = i127)), if_neg (hc142 : ¬ ((3 : Int32) = i127)), if_neg (hc146 : ¬ ((8 : Int32) = i127)), if_neg (hc150 : ¬ ((9 : Int32) = i127)), if_neg (hc154 : ¬ ((10 : Int32) = i127)), if_neg (hc158 : ¬ ((11 : Int32) = i127)), if_neg (hc162 : ¬ ((12 : Int32) = i127)), if_neg (hc166 : ¬ ((13 : Int32) = i127)), if_neg (hc170 : ¬ ((14 : Int32) = i127)), if_neg (hc174 : ¬ ((18 : Int32) = i127)), if_neg (hc178 : ¬ ((22 : Int32) = i127)), if_neg (hc182 : ¬ ((24 : Int32) = i127)), if_pos (hc186 : (25 : Int32) = i127)]) : (f2 i127 w_VALUES wPRODUCE wFETCH wLIST_OFFSETS wMETADATA wOFFSET_COMMIT wOFFSET_FETCH wFIND_COORDINATOR wJOIN_GROUP wHEARTBEAT wLEAVE_GROUP wSYNC_GROUP wAPI_VERSIONS wINIT_PRODUCER_ID wADD_PARTITIONS_TO_TXN wADD_OFFSETS_TO_TXN wEND_TXN wTXN_OFFSET_COMMIT k_VALUES) = (.ref wADD_OFFSETS_TO_TXN))] at hQ128
                                  obtain ⟨rfl, N128q, E128⟩ := hQ128
                                  have N128 := Fr.app N0 N128q
                                  have EX128 : Ext h0 T128.heap := E128
                                  obtain ⟨_, _, ⟨T187, L187, k187, n187⟩, -, X187, ⟨Lc187, hQ187, l187, y187, z187⟩, st187⟩ := Jvm.LawKit.callS X128 hx (y := (⟨"com/example/idem_log/idemlog/protocol/ApiForKeyPinLaw", "expected", "(I)Lcom/example/idem_log/idemlog/protocol/Api;"⟩ : MethodName)) hown (mvT hZ (hw _ (List.mem_of_getElem? (i := 38) rfl))) (mvT hZ (hw _ (List.mem_of_getElem? (i := 39) rfl))) (mvT hZ (hw _ (List.mem_of_getElem? (i := 40) rfl))) (mvT hZ (hw _ (List.mem_of_getElem? (i := 41) rfl))) (by decide) (backOf (W := 0) (rm3 l Z a0 hw [] i127 w_VALUES wPRODUCE wFETCH wLIST_OFFSETS wMETADATA wOFFSET_COMMIT wOFFSET_FETCH wFIND_COORDINATOR wJOIN_GROUP wHEARTBEAT wLEAVE_GROUP wSYNC_GROUP wAPI_VERSIONS wINIT_PRODUCER_ID wADD_PARTITIONS_TO_TXN wADD_OFFSETS_TO_TXN wEND_TXN wTXN_OFFSET_COMMIT k_VALUES T128.heap n0 (Nat.le_trans Z0 EX128.1) (W0.ext EX128) ) hZ (hw _ (List.mem_of_getElem? (i := 41) rfl)) (hw _ (List.mem_of_getElem? (i := 40) rfl)) (by decide) (by decide)) (g := (mkF m 24 #[.val (.int p0), .val (.int p1), .val (.int i127), .val (.ref wADD_OFFSETS_TO_TXN), .unset] [(.int i127)])) rfl (by rw [hml]; rfl) (argsL := [(.int i127)]) (rest := []) (lenOf pd_2 rfl) rfl (by show 2 * 0 + _ ≤ _; exact Nat.le_of_eq rfl) (hb hby at_24) (fun _ _ => ⟨rfl, rfl, (by decide : 1 + 0 ≤ _), (by decide : 17 + 0 ≤ _)⟩)
                                  dsimp only [Pt.U, Pt.locs, Pt.cells, Pt.slots] at X187 l187 y187 z187 st187 hQ187
                                  subst l187 y187 z187
                                  unfold Q3 at hQ187
                                  have k188 : ∀ t, Steps p.tables e below (T128.setTop (mkF m 24 #[.val (.int p0), .val (.int p1), .val (.int i127), .val (.ref wADD_OFFSETS_TO_TXN), .unset] [(.int i127)])) t → Steps p.tables e below (s₁.setTop (entryFrame m #[(.int p0), (.int p1)] maxLocals)) t := fun t kt => k129 t (by
                                    show Steps p.tables e below (s₁.setTop (mkF m 19 #[.val (.int p0), .val (.int p1), .val (.int i127), .unset, .unset] [(.int i127)])) _
                                    refine st128 _ ?_
                                    show Steps p.tables e below (T128.setTop (mkF m 22 #[.val (.int p0), .val (.int p1), .val (.int i127), .unset, .unset] [(.ref wADD_OFFSETS_TO_TXN)])) _
                                    refine XS.astoreN X128.here hx rfl (hb hby at_22) rfl rfl (l' := #[.val (.int p0), .val (.int p1), .val (.int i127), .val (.ref wADD_OFFSETS_TO_TXN), .unset]) rfl ?_
                                    show Steps p.tables e below (T128.setTop (mkF m 23 #[.val (.int p0), .val (.int p1), .val (.int i127), .val (.ref wADD_OFFSETS_TO_TXN), .unset] [])) _
                                    refine XS.iloadN X128.here hx rfl (hb hby at_23) rfl ?_
                                    exact kt)
                                  rw [((by rw [f3, if_neg ((Ne.symm hc130) : ¬ (i127 = (0 : Int32))), if_neg ((Ne.symm hc134) : ¬ (i127 = (1 : Int32))), if_neg ((Ne.symm hc138) : ¬ (i127 = (2 : Int32))), if_neg ((Ne.symm hc142) : ¬ (i127 = (3 : Int32))), if_neg ((Ne.symm hc146) : ¬ (i127 = (8 : Int32))), if_neg ((Ne.symm hc150) : ¬ (i127 = (9 : Int32))), if_neg ((Ne.symm hc154) : ¬ (i127 = (10 : Int32))), if_neg ((Ne.symm hc158) : ¬ (i127 = (11 : Int32))), if_neg ((Ne.symm hc162) : ¬ (i127 = (12 : Int32))), if_neg ((Ne.symm hc166) : ¬ (i127 = (13 : Int32))), if_neg ((Ne.symm hc170) : ¬ (i127 = (14 : Int32))), if_neg ((Ne.symm hc174) : ¬ (i127 = (18 : Int32))), if_neg ((Ne.symm hc178) : ¬ (i127 = (22 : Int32))), if_neg ((Ne.symm hc182) : ¬ (i127 = (24 : Int32))), if_pos ((Eq.symm hc186) : i127 = (25 : Int32))]) : (f3 i127 w_VALUES wPRODUCE wFETCH wLIST_OFFSETS wMETADATA wOFFSET_COMMIT wOFFSET_FETCH wFIND_COORDINATOR wJOIN_GROUP wHEARTBEAT wLEAVE_GROUP wSYNC_GROUP wAPI_VERSIONS wINIT_PRODUCER_ID wADD_PARTITIONS_TO_TXN wADD_OFFSETS_TO_TXN wEND_TXN wTXN_OFFSET_COMMIT k_VALUES) = (.ref wADD_OFFSETS_TO_TXN))] at hQ187
                                  obtain ⟨rfl, N187q, e187⟩ := hQ187
                                  have N187 := Fr.app N128 N187q
                                  obtain ⟨T189, X189, e189, st189⟩ := getF X187 hx hZ hown (host := "") (Or.inl (hw _ (List.mem_of_getElem? (i := 43) rfl))) Via.refl e187 (FADD_OFFSETS_TO_TXN_key.ext EX128) (g := (mkF m 42 #[.val (.int p0), .val (.int p1), .val (.int i127), .val (.ref wADD_OFFSETS_TO_TXN), .val (.ref wADD_OFFSETS_TO_TXN)] [(.ref wADD_OFFSETS_TO_TXN)])) rfl rfl (hb hby at_42)
                                  obtain ⟨fs, hr, hrun, hended, hW, hsame⟩ := X189.leave (v := some (.int (1 : Int32))) (fun h => by rw [Bd.returns] at h; cases h)
                                  refine ⟨_, _, k188 _ ?_, hrun, hended, _, _, rfl, ?_, ⟨_, rfl⟩, hW, hsame.mono (by decide) (by decide)⟩
                                  · show Steps p.tables e below (T128.setTop (mkF m 24 #[.val (.int p0), .val (.int p1), .val (.int i127), .val (.ref wADD_OFFSETS_TO_TXN), .unset] [(.int i127)])) _
                                    refine st187 _ ?_
                                    show Steps p.tables e below (T187.setTop (mkF m 27 #[.val (.int p0), .val (.int p1), .val (.int i127), .val (.ref wADD_OFFSETS_TO_TXN), .unset] [(.ref wADD_OFFSETS_TO_TXN)])) _
                                    refine XS.astore X187.here hx rfl (hb hby at_27) rfl rfl (l' := #[.val (.int p0), .val (.int p1), .val (.int i127), .val (.ref wADD_OFFSETS_TO_TXN), .val (.ref wADD_OFFSETS_TO_TXN)]) rfl ?_
                                    show Steps p.tables e below (T187.setTop (mkF m 29 #[.val (.int p0), .val (.int p1), .val (.int i127), .val (.ref wADD_OFFSETS_TO_TXN), .val (.ref wADD_OFFSETS_TO_TXN)] [])) _
                                    refine XS.aloadN X187.here hx rfl (hb hby at_29) rfl rfl ?_
                                    show Steps p.tables e below (T187.setTop (mkF m 30 #[.val (.int p0), .val (.int p1), .val (.int i127), .val (.ref wADD_OFFSETS_TO_TXN), .val (.ref wADD_OFFSETS_TO_TXN)] [(.ref wADD_OFFSETS_TO_TXN)])) _
                                    refine XS.aload X187.here hx rfl (hb hby at_30) rfl rfl ?_
                                    show Steps p.tables e below (T187.setTop (mkF m 32 #[.val (.int p0), .val (.int p1), .val (.int i127), .val (.ref wADD_OFFSETS_TO_TXN), .val (.ref wADD_OFFSETS_TO_TXN)] [(.ref wADD_OFFSETS_TO_TXN), (.ref wADD_OFFSETS_TO_TXN)])) _
                                    refine Jvm.RoadKit.acmp (g := (mkF m 32 #[.val (.int p0), .val (.int p1), .val (.int i127), .val (.ref wADD_OFFSETS_TO_TXN), .val (.ref wADD_OFFSETS_TO_TXN)] [(.ref wADD_OFFSETS_TO_TXN), (.ref wADD_OFFSETS_TO_TXN)])) X187 hx rfl rfl rfl (pc0 := 32) (pc' := 37) (same := true) rfl (hb hby at_32) rfl (decide_eq_true (congrArg Value.ref (rfl : wADD_OFFSETS_TO_TXN = wADD_OFFSETS_TO_TXN))) (by decide) (by decide) ?_
                                    show Steps p.tables e below (T187.setTop (mkF m 37 #[.val (.int p0), .val (.int p1), .val (.int i127), .val (.ref wADD_OFFSETS_TO_TXN), .val (.ref wADD_OFFSETS_TO_TXN)] [])) _
                                    refine XS.aloadN X187.here hx rfl (hb hby at_37) rfl rfl ?_
                                    show Steps p.tables e below (T187.setTop (mkF m 38 #[.val (.int p0), .val (.int p1), .val (.int i127), .val (.ref wADD_OFFSETS_TO_TXN), .val (.ref wADD_OFFSETS_TO_TXN)] [(.ref wADD_OFFSETS_TO_TXN)])) _
                                    refine XS.ifnullNo X187.here hx rfl (hb hby at_38) rfl ?_
                                    show Steps p.tables e below (T187.setTop (mkF m 41 #[.val (.int p0), .val (.int p1), .val (.int i127), .val (.ref wADD_OFFSETS_TO_TXN), .val (.ref wADD_OFFSETS_TO_TXN)] [])) _
                                    refine XS.aloadN X187.here hx rfl (hb hby at_41) rfl rfl ?_
                                    show Steps p.tables e below (T187.setTop (mkF m 42 #[.val (.int p0), .val (.int p1), .val (.int i127), .val (.ref wADD_OFFSETS_TO_TXN), .val (.ref wADD_OFFSETS_TO_TXN)] [(.ref wADD_OFFSETS_TO_TXN)])) _
                                    refine st189 _ ?_
                                    show Steps p.tables e below (T189.setTop (mkF m 45 #[.val (.int p0), .val (.int p1), .val (.int i127), .val (.ref wADD_OFFSETS_TO_TXN), .val (.ref wADD_OFFSETS_TO_TXN)] [(.int (25 : Int32))])) _
                                    refine XS.iloadN X189.here hx rfl (hb hby at_45) rfl ?_
                                    show Steps p.tables e below (T189.setTop (mkF m 46 #[.val (.int p0), .val (.int p1), .val (.int i127), .val (.ref wADD_OFFSETS_TO_TXN), .val (.ref wADD_OFFSETS_TO_TXN)] [(.int i127), (.int (25 : Int32))])) _
                                    refine XS.icmpNo X189.here hx rfl (hb hby at_46) rfl (teq (hc186 : (25 : Int32) = i127)).2 ?_
                                    show Steps p.tables e below (T189.setTop (mkF m 49 #[.val (.int p0), .val (.int p1), .val (.int i127), .val (.ref wADD_OFFSETS_TO_TXN), .val (.ref wADD_OFFSETS_TO_TXN)] [])) _
                                    refine XS.iconst X189.here hx rfl (hb hby at_49) ?_
                                    show Steps p.tables e below (T189.setTop (mkF m 50 #[.val (.int p0), .val (.int p1), .val (.int i127), .val (.ref wADD_OFFSETS_TO_TXN), .val (.ref wADD_OFFSETS_TO_TXN)] [(.int (1 : Int32))])) _
                                    refine XS.goto X189.here hx rfl (pc0 := 50) (pc' := 54) rfl (hb hby at_50) (by decide) (by decide) ?_
                                    show Steps p.tables e below (T189.setTop (mkF m 54 #[.val (.int p0), .val (.int p1), .val (.int i127), .val (.ref wADD_OFFSETS_TO_TXN), .val (.ref wADD_OFFSETS_TO_TXN)] [(.int (1 : Int32))])) _
                                    exact retN X189 hx (t := .boolean) Bd.returns (by simp) (hb hby at_54) hr
                                  · show Q0 Z p0 p1 w_VALUES wPRODUCE wFETCH wLIST_OFFSETS wMETADATA wOFFSET_COMMIT wOFFSET_FETCH wFIND_COORDINATOR wJOIN_GROUP wHEARTBEAT wLEAVE_GROUP wSYNC_GROUP wAPI_VERSIONS wINIT_PRODUCER_ID wADD_PARTITIONS_TO_TXN wADD_OFFSETS_TO_TXN wEND_TXN wTXN_OFFSET_COMMIT k_VALUES h0 n0 _ T189.heap _
                                    rw [e189]
                                    exact ⟨rfl, N187⟩
                                · by_cases hc190 : (26 : Int32) = i127
                                  · rw [((by rw [f2, if_neg (hc130 : ¬ ((0 : Int32) = i127)), if_neg (hc134 : ¬ ((1 : Int32) = i127)), if_neg (hc138 : ¬ ((2 : Int32) = i127)), if_neg (hc142 : ¬ ((3 : Int32) = i127)), if_neg (hc146 : ¬ ((8 : Int32) = i127)), if_neg (hc150 : ¬ ((9 : Int32) = i127)), if_neg (hc154 : ¬ ((10 : Int32) = i127)), if_neg (hc158 : ¬ ((11 : Int32) = i127)), if_neg (hc162 : ¬ ((12 : Int32) = i127)), if_neg (hc166 : ¬ ((13 : Int32) = i127)), if_neg (hc170 : ¬ ((14 : Int32) = i127)), if_neg (hc174 : ¬ ((18 : Int32) = i127)), if_neg (hc178 : ¬ ((22 : Int32) = i127)), if_neg (hc182 : ¬ ((24 : Int32) = i127)), if_neg (hc186 : ¬ ((25 : Int32) = i127)), if_pos (hc190 : (26 : Int32) = i127)]) : (f2 i127 w_VALUES wPRODUCE wFETCH wLIST_OFFSETS wMETADATA wOFFSET_COMMIT wOFFSET_FETCH wFIND_COORDINATOR wJOIN_GROUP wHEARTBEAT wLEAVE_GROUP wSYNC_GROUP wAPI_VERSIONS wINIT_PRODUCER_ID wADD_PARTITIONS_TO_TXN wADD_OFFSETS_TO_TXN wEND_TXN wTXN_OFFSET_COMMIT k_VALUES) = (.ref wEND_TXN))] at hQ128
                                    obtain ⟨rfl, N128q, E128⟩ := hQ128
                                    have N128 := Fr.app N0 N128q
                                    have EX128 : Ext h0 T128.heap := E128
                                    obtain ⟨_, _, ⟨T191, L191, k191, n191⟩, -, X191, ⟨Lc191, hQ191, l191, y191, z191⟩, st191⟩ := Jvm.LawKit.callS X128 hx (y := (⟨"com/example/idem_log/idemlog/protocol/ApiForKeyPinLaw", "expected", "(I)Lcom/example/idem_log/idemlog/protocol/Api;"⟩ : MethodName)) hown (mvT hZ (hw _ (List.mem_of_getElem? (i := 38) rfl))) (mvT hZ (hw _ (List.mem_of_getElem? (i := 39) rfl))) (mvT hZ (hw _ (List.mem_of_getElem? (i := 40) rfl))) (mvT hZ (hw _ (List.mem_of_getElem? (i := 41) rfl))) (by decide) (backOf (W := 0) (rm3 l Z a0 hw [] i127 w_VALUES wPRODUCE wFETCH wLIST_OFFSETS wMETADATA wOFFSET_COMMIT wOFFSET_FETCH wFIND_COORDINATOR wJOIN_GROUP wHEARTBEAT wLEAVE_GROUP wSYNC_GROUP wAPI_VERSIONS wINIT_PRODUCER_ID wADD_PARTITIONS_TO_TXN wADD_OFFSETS_TO_TXN wEND_TXN wTXN_OFFSET_COMMIT k_VALUES T128.heap n0 (Nat.le_trans Z0 EX128.1) (W0.ext EX128) ) hZ (hw _ (List.mem_of_getElem? (i := 41) rfl)) (hw _ (List.mem_of_getElem? (i := 40) rfl)) (by decide) (by decide)) (g := (mkF m 24 #[.val (.int p0), .val (.int p1), .val (.int i127), .val (.ref wEND_TXN), .unset] [(.int i127)])) rfl (by rw [hml]; rfl) (argsL := [(.int i127)]) (rest := []) (lenOf pd_2 rfl) rfl (by show 2 * 0 + _ ≤ _; exact Nat.le_of_eq rfl) (hb hby at_24) (fun _ _ => ⟨rfl, rfl, (by decide : 1 + 0 ≤ _), (by decide : 17 + 0 ≤ _)⟩)
                                    dsimp only [Pt.U, Pt.locs, Pt.cells, Pt.slots] at X191 l191 y191 z191 st191 hQ191
                                    subst l191 y191 z191
                                    unfold Q3 at hQ191
                                    have k192 : ∀ t, Steps p.tables e below (T128.setTop (mkF m 24 #[.val (.int p0), .val (.int p1), .val (.int i127), .val (.ref wEND_TXN), .unset] [(.int i127)])) t → Steps p.tables e below (s₁.setTop (entryFrame m #[(.int p0), (.int p1)] maxLocals)) t := fun t kt => k129 t (by
                                      show Steps p.tables e below (s₁.setTop (mkF m 19 #[.val (.int p0), .val (.int p1), .val (.int i127), .unset, .unset] [(.int i127)])) _
                                      refine st128 _ ?_
                                      show Steps p.tables e below (T128.setTop (mkF m 22 #[.val (.int p0), .val (.int p1), .val (.int i127), .unset, .unset] [(.ref wEND_TXN)])) _
                                      refine XS.astoreN X128.here hx rfl (hb hby at_22) rfl rfl (l' := #[.val (.int p0), .val (.int p1), .val (.int i127), .val (.ref wEND_TXN), .unset]) rfl ?_
                                      show Steps p.tables e below (T128.setTop (mkF m 23 #[.val (.int p0), .val (.int p1), .val (.int i127), .val (.ref wEND_TXN), .unset] [])) _
                                      refine XS.iloadN X128.here hx rfl (hb hby at_23) rfl ?_
                                      exact kt)
                                    rw [((by rw [f3, if_neg ((Ne.symm hc130) : ¬ (i127 = (0 : Int32))), if_neg ((Ne.symm hc134) : ¬ (i127 = (1 : Int32))), if_neg ((Ne.symm hc138) : ¬ (i127 = (2 : Int32))), if_neg ((Ne.symm hc142) : ¬ (i127 = (3 : Int32))), if_neg ((Ne.symm hc146) : ¬ (i127 = (8 : Int32))), if_neg ((Ne.symm hc150) : ¬ (i127 = (9 : Int32))), if_neg ((Ne.symm hc154) : ¬ (i127 = (10 : Int32))), if_neg ((Ne.symm hc158) : ¬ (i127 = (11 : Int32))), if_neg ((Ne.symm hc162) : ¬ (i127 = (12 : Int32))), if_neg ((Ne.symm hc166) : ¬ (i127 = (13 : Int32))), if_neg ((Ne.symm hc170) : ¬ (i127 = (14 : Int32))), if_neg ((Ne.symm hc174) : ¬ (i127 = (18 : Int32))), if_neg ((Ne.symm hc178) : ¬ (i127 = (22 : Int32))), if_neg ((Ne.symm hc182) : ¬ (i127 = (24 : Int32))), if_neg ((Ne.symm hc186) : ¬ (i127 = (25 : Int32))), if_pos ((Eq.symm hc190) : i127 = (26 : Int32))]) : (f3 i127 w_VALUES wPRODUCE wFETCH wLIST_OFFSETS wMETADATA wOFFSET_COMMIT wOFFSET_FETCH wFIND_COORDINATOR wJOIN_GROUP wHEARTBEAT wLEAVE_GROUP wSYNC_GROUP wAPI_VERSIONS wINIT_PRODUCER_ID wADD_PARTITIONS_TO_TXN wADD_OFFSETS_TO_TXN wEND_TXN wTXN_OFFSET_COMMIT k_VALUES) = (.ref wEND_TXN))] at hQ191
                                    obtain ⟨rfl, N191q, e191⟩ := hQ191
                                    have N191 := Fr.app N128 N191q
                                    obtain ⟨T193, X193, e193, st193⟩ := getF X191 hx hZ hown (host := "") (Or.inl (hw _ (List.mem_of_getElem? (i := 43) rfl))) Via.refl e191 (FEND_TXN_key.ext EX128) (g := (mkF m 42 #[.val (.int p0), .val (.int p1), .val (.int i127), .val (.ref wEND_TXN), .val (.ref wEND_TXN)] [(.ref wEND_TXN)])) rfl rfl (hb hby at_42)
                                    obtain ⟨fs, hr, hrun, hended, hW, hsame⟩ := X193.leave (v := some (.int (1 : Int32))) (fun h => by rw [Bd.returns] at h; cases h)
                                    refine ⟨_, _, k192 _ ?_, hrun, hended, _, _, rfl, ?_, ⟨_, rfl⟩, hW, hsame.mono (by decide) (by decide)⟩
                                    · show Steps p.tables e below (T128.setTop (mkF m 24 #[.val (.int p0), .val (.int p1), .val (.int i127), .val (.ref wEND_TXN), .unset] [(.int i127)])) _
                                      refine st191 _ ?_
                                      show Steps p.tables e below (T191.setTop (mkF m 27 #[.val (.int p0), .val (.int p1), .val (.int i127), .val (.ref wEND_TXN), .unset] [(.ref wEND_TXN)])) _
                                      refine XS.astore X191.here hx rfl (hb hby at_27) rfl rfl (l' := #[.val (.int p0), .val (.int p1), .val (.int i127), .val (.ref wEND_TXN), .val (.ref wEND_TXN)]) rfl ?_
                                      show Steps p.tables e below (T191.setTop (mkF m 29 #[.val (.int p0), .val (.int p1), .val (.int i127), .val (.ref wEND_TXN), .val (.ref wEND_TXN)] [])) _
                                      refine XS.aloadN X191.here hx rfl (hb hby at_29) rfl rfl ?_
                                      show Steps p.tables e below (T191.setTop (mkF m 30 #[.val (.int p0), .val (.int p1), .val (.int i127), .val (.ref wEND_TXN), .val (.ref wEND_TXN)] [(.ref wEND_TXN)])) _
                                      refine XS.aload X191.here hx rfl (hb hby at_30) rfl rfl ?_
                                      show Steps p.tables e below (T191.setTop (mkF m 32 #[.val (.int p0), .val (.int p1), .val (.int i127), .val (.ref wEND_TXN), .val (.ref wEND_TXN)] [(.ref wEND_TXN), (.ref wEND_TXN)])) _
                                      refine Jvm.RoadKit.acmp (g := (mkF m 32 #[.val (.int p0), .val (.int p1), .val (.int i127), .val (.ref wEND_TXN), .val (.ref wEND_TXN)] [(.ref wEND_TXN), (.ref wEND_TXN)])) X191 hx rfl rfl rfl (pc0 := 32) (pc' := 37) (same := true) rfl (hb hby at_32) rfl (decide_eq_true (congrArg Value.ref (rfl : wEND_TXN = wEND_TXN))) (by decide) (by decide) ?_
                                      show Steps p.tables e below (T191.setTop (mkF m 37 #[.val (.int p0), .val (.int p1), .val (.int i127), .val (.ref wEND_TXN), .val (.ref wEND_TXN)] [])) _
                                      refine XS.aloadN X191.here hx rfl (hb hby at_37) rfl rfl ?_
                                      show Steps p.tables e below (T191.setTop (mkF m 38 #[.val (.int p0), .val (.int p1), .val (.int i127), .val (.ref wEND_TXN), .val (.ref wEND_TXN)] [(.ref wEND_TXN)])) _
                                      refine XS.ifnullNo X191.here hx rfl (hb hby at_38) rfl ?_
                                      show Steps p.tables e below (T191.setTop (mkF m 41 #[.val (.int p0), .val (.int p1), .val (.int i127), .val (.ref wEND_TXN), .val (.ref wEND_TXN)] [])) _
                                      refine XS.aloadN X191.here hx rfl (hb hby at_41) rfl rfl ?_
                                      show Steps p.tables e below (T191.setTop (mkF m 42 #[.val (.int p0), .val (.int p1), .val (.int i127), .val (.ref wEND_TXN), .val (.ref wEND_TXN)] [(.ref wEND_TXN)])) _
                                      refine st193 _ ?_
                                      show Steps p.tables e below (T193.setTop (mkF m 45 #[.val (.int p0), .val (.int p1), .val (.int i127), .val (.ref wEND_TXN), .val (.ref wEND_TXN)] [(.int (26 : Int32))])) _
                                      refine XS.iloadN X193.here hx rfl (hb hby at_45) rfl ?_
                                      show Steps p.tables e below (T193.setTop (mkF m 46 #[.val (.int p0), .val (.int p1), .val (.int i127), .val (.ref wEND_TXN), .val (.ref wEND_TXN)] [(.int i127), (.int (26 : Int32))])) _
                                      refine XS.icmpNo X193.here hx rfl (hb hby at_46) rfl (teq (hc190 : (26 : Int32) = i127)).2 ?_
                                      show Steps p.tables e below (T193.setTop (mkF m 49 #[.val (.int p0), .val (.int p1), .val (.int i127), .val (.ref wEND_TXN), .val (.ref wEND_TXN)] [])) _
                                      refine XS.iconst X193.here hx rfl (hb hby at_49) ?_
                                      show Steps p.tables e below (T193.setTop (mkF m 50 #[.val (.int p0), .val (.int p1), .val (.int i127), .val (.ref wEND_TXN), .val (.ref wEND_TXN)] [(.int (1 : Int32))])) _
                                      refine XS.goto X193.here hx rfl (pc0 := 50) (pc' := 54) rfl (hb hby at_50) (by decide) (by decide) ?_
                                      show Steps p.tables e below (T193.setTop (mkF m 54 #[.val (.int p0), .val (.int p1), .val (.int i127), .val (.ref wEND_TXN), .val (.ref wEND_TXN)] [(.int (1 : Int32))])) _
                                      exact retN X193 hx (t := .boolean) Bd.returns (by simp) (hb hby at_54) hr
                                    · show Q0 Z p0 p1 w_VALUES wPRODUCE wFETCH wLIST_OFFSETS wMETADATA wOFFSET_COMMIT wOFFSET_FETCH wFIND_COORDINATOR wJOIN_GROUP wHEARTBEAT wLEAVE_GROUP wSYNC_GROUP wAPI_VERSIONS wINIT_PRODUCER_ID wADD_PARTITIONS_TO_TXN wADD_OFFSETS_TO_TXN wEND_TXN wTXN_OFFSET_COMMIT k_VALUES h0 n0 _ T193.heap _
                                      rw [e193]
                                      exact ⟨rfl, N191⟩
                                  · by_cases hc194 : (28 : Int32) = i127
                                    · rw [((by rw [f2, if_neg (hc130 : ¬ ((0 : Int32) = i127)), if_neg (hc134 : ¬ ((1 : Int32) = i127)), if_neg (hc138 : ¬ ((2 : Int32) = i127)), if_neg (hc142 : ¬ ((3 : Int32) = i127)), if_neg (hc146 : ¬ ((8 : Int32) = i127)), if_neg (hc150 : ¬ ((9 : Int32) = i127)), if_neg (hc154 : ¬ ((10 : Int32) = i127)), if_neg (hc158 : ¬ ((11 : Int32) = i127)), if_neg (hc162 : ¬ ((12 : Int32) = i127)), if_neg (hc166 : ¬ ((13 : Int32) = i127)), if_neg (hc170 : ¬ ((14 : Int32) = i127)), if_neg (hc174 : ¬ ((18 : Int32) = i127)), if_neg (hc178 : ¬ ((22 : Int32) = i127)), if_neg (hc182 : ¬ ((24 : Int32) = i127)), if_neg (hc186 : ¬ ((25 : Int32) = i127)), if_neg (hc190 : ¬ ((26 : Int32) = i127)), if_pos (hc194 : (28 : Int32) = i127)]) : (f2 i127 w_VALUES wPRODUCE wFETCH wLIST_OFFSETS wMETADATA wOFFSET_COMMIT wOFFSET_FETCH wFIND_COORDINATOR wJOIN_GROUP wHEARTBEAT wLEAVE_GROUP wSYNC_GROUP wAPI_VERSIONS wINIT_PRODUCER_ID wADD_PARTITIONS_TO_TXN wADD_OFFSETS_TO_TXN wEND_TXN wTXN_OFFSET_COMMIT k_VALUES) = (.ref wTXN_OFFSET_COMMIT))] at hQ128
                                      obtain ⟨rfl, N128q, E128⟩ := hQ128
                                      have N128 := Fr.app N0 N128q
                                      have EX128 : Ext h0 T128.heap := E128
                                      obtain ⟨_, _, ⟨T195, L195, k195, n195⟩, -, X195, ⟨Lc195, hQ195, l195, y195, z195⟩, st195⟩ := Jvm.LawKit.callS X128 hx (y := (⟨"com/example/idem_log/idemlog/protocol/ApiForKeyPinLaw", "expected", "(I)Lcom/example/idem_log/idemlog/protocol/Api;"⟩ : MethodName)) hown (mvT hZ (hw _ (List.mem_of_getElem? (i := 38) rfl))) (mvT hZ (hw _ (List.mem_of_getElem? (i := 39) rfl))) (mvT hZ (hw _ (List.mem_of_getElem? (i := 40) rfl))) (mvT hZ (hw _ (List.mem_of_getElem? (i := 41) rfl))) (by decide) (backOf (W := 0) (rm3 l Z a0 hw [] i127 w_VALUES wPRODUCE wFETCH wLIST_OFFSETS wMETADATA wOFFSET_COMMIT wOFFSET_FETCH wFIND_COORDINATOR wJOIN_GROUP wHEARTBEAT wLEAVE_GROUP wSYNC_GROUP wAPI_VERSIONS wINIT_PRODUCER_ID wADD_PARTITIONS_TO_TXN wADD_OFFSETS_TO_TXN wEND_TXN wTXN_OFFSET_COMMIT k_VALUES T128.heap n0 (Nat.le_trans Z0 EX128.1) (W0.ext EX128) ) hZ (hw _ (List.mem_of_getElem? (i := 41) rfl)) (hw _ (List.mem_of_getElem? (i := 40) rfl)) (by decide) (by decide)) (g := (mkF m 24 #[.val (.int p0), .val (.int p1), .val (.int i127), .val (.ref wTXN_OFFSET_COMMIT), .unset] [(.int i127)])) rfl (by rw [hml]; rfl) (argsL := [(.int i127)]) (rest := []) (lenOf pd_2 rfl) rfl (by show 2 * 0 + _ ≤ _; exact Nat.le_of_eq rfl) (hb hby at_24) (fun _ _ => ⟨rfl, rfl, (by decide : 1 + 0 ≤ _), (by decide : 17 + 0 ≤ _)⟩)
                                      dsimp only [Pt.U, Pt.locs, Pt.cells, Pt.slots] at X195 l195 y195 z195 st195 hQ195
                                      subst l195 y195 z195
                                      unfold Q3 at hQ195
                                      have k196 : ∀ t, Steps p.tables e below (T128.setTop (mkF m 24 #[.val (.int p0), .val (.int p1), .val (.int i127), .val (.ref wTXN_OFFSET_COMMIT), .unset] [(.int i127)])) t → Steps p.tables e below (s₁.setTop (entryFrame m #[(.int p0), (.int p1)] maxLocals)) t := fun t kt => k129 t (by
                                        show Steps p.tables e below (s₁.setTop (mkF m 19 #[.val (.int p0), .val (.int p1), .val (.int i127), .unset, .unset] [(.int i127)])) _
                                        refine st128 _ ?_
                                        show Steps p.tables e below (T128.setTop (mkF m 22 #[.val (.int p0), .val (.int p1), .val (.int i127), .unset, .unset] [(.ref wTXN_OFFSET_COMMIT)])) _
                                        refine XS.astoreN X128.here hx rfl (hb hby at_22) rfl rfl (l' := #[.val (.int p0), .val (.int p1), .val (.int i127), .val (.ref wTXN_OFFSET_COMMIT), .unset]) rfl ?_
                                        show Steps p.tables e below (T128.setTop (mkF m 23 #[.val (.int p0), .val (.int p1), .val (.int i127), .val (.ref wTXN_OFFSET_COMMIT), .unset] [])) _
                                        refine XS.iloadN X128.here hx rfl (hb hby at_23) rfl ?_
                                        exact kt)
                                      rw [((by rw [f3, if_neg ((Ne.symm hc130) : ¬ (i127 = (0 : Int32))), if_neg ((Ne.symm hc134) : ¬ (i127 = (1 : Int32))), if_neg ((Ne.symm hc138) : ¬ (i127 = (2 : Int32))), if_neg ((Ne.symm hc142) : ¬ (i127 = (3 : Int32))), if_neg ((Ne.symm hc146) : ¬ (i127 = (8 : Int32))), if_neg ((Ne.symm hc150) : ¬ (i127 = (9 : Int32))), if_neg ((Ne.symm hc154) : ¬ (i127 = (10 : Int32))), if_neg ((Ne.symm hc158) : ¬ (i127 = (11 : Int32))), if_neg ((Ne.symm hc162) : ¬ (i127 = (12 : Int32))), if_neg ((Ne.symm hc166) : ¬ (i127 = (13 : Int32))), if_neg ((Ne.symm hc170) : ¬ (i127 = (14 : Int32))), if_neg ((Ne.symm hc174) : ¬ (i127 = (18 : Int32))), if_neg ((Ne.symm hc178) : ¬ (i127 = (22 : Int32))), if_neg ((Ne.symm hc182) : ¬ (i127 = (24 : Int32))), if_neg ((Ne.symm hc186) : ¬ (i127 = (25 : Int32))), if_neg ((Ne.symm hc190) : ¬ (i127 = (26 : Int32))), if_pos ((Eq.symm hc194) : i127 = (28 : Int32))]) : (f3 i127 w_VALUES wPRODUCE wFETCH wLIST_OFFSETS wMETADATA wOFFSET_COMMIT wOFFSET_FETCH wFIND_COORDINATOR wJOIN_GROUP wHEARTBEAT wLEAVE_GROUP wSYNC_GROUP wAPI_VERSIONS wINIT_PRODUCER_ID wADD_PARTITIONS_TO_TXN wADD_OFFSETS_TO_TXN wEND_TXN wTXN_OFFSET_COMMIT k_VALUES) = (.ref wTXN_OFFSET_COMMIT))] at hQ195
                                      obtain ⟨rfl, N195q, e195⟩ := hQ195
                                      have N195 := Fr.app N128 N195q
                                      obtain ⟨T197, X197, e197, st197⟩ := getF X195 hx hZ hown (host := "") (Or.inl (hw _ (List.mem_of_getElem? (i := 43) rfl))) Via.refl e195 (FTXN_OFFSET_COMMIT_key.ext EX128) (g := (mkF m 42 #[.val (.int p0), .val (.int p1), .val (.int i127), .val (.ref wTXN_OFFSET_COMMIT), .val (.ref wTXN_OFFSET_COMMIT)] [(.ref wTXN_OFFSET_COMMIT)])) rfl rfl (hb hby at_42)
                                      obtain ⟨fs, hr, hrun, hended, hW, hsame⟩ := X197.leave (v := some (.int (1 : Int32))) (fun h => by rw [Bd.returns] at h; cases h)
                                      refine ⟨_, _, k196 _ ?_, hrun, hended, _, _, rfl, ?_, ⟨_, rfl⟩, hW, hsame.mono (by decide) (by decide)⟩
                                      · show Steps p.tables e below (T128.setTop (mkF m 24 #[.val (.int p0), .val (.int p1), .val (.int i127), .val (.ref wTXN_OFFSET_COMMIT), .unset] [(.int i127)])) _
                                        refine st195 _ ?_
                                        show Steps p.tables e below (T195.setTop (mkF m 27 #[.val (.int p0), .val (.int p1), .val (.int i127), .val (.ref wTXN_OFFSET_COMMIT), .unset] [(.ref wTXN_OFFSET_COMMIT)])) _
                                        refine XS.astore X195.here hx rfl (hb hby at_27) rfl rfl (l' := #[.val (.int p0), .val (.int p1), .val (.int i127), .val (.ref wTXN_OFFSET_COMMIT), .val (.ref wTXN_OFFSET_COMMIT)]) rfl ?_
                                        show Steps p.tables e below (T195.setTop (mkF m 29 #[.val (.int p0), .val (.int p1), .val (.int i127), .val (.ref wTXN_OFFSET_COMMIT), .val (.ref wTXN_OFFSET_COMMIT)] [])) _
                                        refine XS.aloadN X195.here hx rfl (hb hby at_29) rfl rfl ?_
                                        show Steps p.tables e below (T195.setTop (mkF m 30 #[.val (.int p0), .val (.int p1), .val (.int i127), .val (.ref wTXN_OFFSET_COMMIT), .val (.ref wTXN_OFFSET_COMMIT)] [(.ref wTXN_OFFSET_COMMIT)])) _
                                        refine XS.aload X195.here hx rfl (hb hby at_30) rfl rfl ?_
                                        show Steps p.tables e below (T195.setTop (mkF m 32 #[.val (.int p0), .val (.int p1), .val (.int i127), .val (.ref wTXN_OFFSET_COMMIT), .val (.ref wTXN_OFFSET_COMMIT)] [(.ref wTXN_OFFSET_COMMIT), (.ref wTXN_OFFSET_COMMIT)])) _
                                        refine Jvm.RoadKit.acmp (g := (mkF m 32 #[.val (.int p0), .val (.int p1), .val (.int i127), .val (.ref wTXN_OFFSET_COMMIT), .val (.ref wTXN_OFFSET_COMMIT)] [(.ref wTXN_OFFSET_COMMIT), (.ref wTXN_OFFSET_COMMIT)])) X195 hx rfl rfl rfl (pc0 := 32) (pc' := 37) (same := true) rfl (hb hby at_32) rfl (decide_eq_true (congrArg Value.ref (rfl : wTXN_OFFSET_COMMIT = wTXN_OFFSET_COMMIT))) (by decide) (by decide) ?_
                                        show Steps p.tables e below (T195.setTop (mkF m 37 #[.val (.int p0), .val (.int p1), .val (.int i127), .val (.ref wTXN_OFFSET_COMMIT), .val (.ref wTXN_OFFSET_COMMIT)] [])) _
                                        refine XS.aloadN X195.here hx rfl (hb hby at_37) rfl rfl ?_
                                        show Steps p.tables e below (T195.setTop (mkF m 38 #[.val (.int p0), .val (.int p1), .val (.int i127), .val (.ref wTXN_OFFSET_COMMIT), .val (.ref wTXN_OFFSET_COMMIT)] [(.ref wTXN_OFFSET_COMMIT)])) _
                                        refine XS.ifnullNo X195.here hx rfl (hb hby at_38) rfl ?_
                                        show Steps p.tables e below (T195.setTop (mkF m 41 #[.val (.int p0), .val (.int p1), .val (.int i127), .val (.ref wTXN_OFFSET_COMMIT), .val (.ref wTXN_OFFSET_COMMIT)] [])) _
                                        refine XS.aloadN X195.here hx rfl (hb hby at_41) rfl rfl ?_
                                        show Steps p.tables e below (T195.setTop (mkF m 42 #[.val (.int p0), .val (.int p1), .val (.int i127), .val (.ref wTXN_OFFSET_COMMIT), .val (.ref wTXN_OFFSET_COMMIT)] [(.ref wTXN_OFFSET_COMMIT)])) _
                                        refine st197 _ ?_
                                        show Steps p.tables e below (T197.setTop (mkF m 45 #[.val (.int p0), .val (.int p1), .val (.int i127), .val (.ref wTXN_OFFSET_COMMIT), .val (.ref wTXN_OFFSET_COMMIT)] [(.int (28 : Int32))])) _
                                        refine XS.iloadN X197.here hx rfl (hb hby at_45) rfl ?_
                                        show Steps p.tables e below (T197.setTop (mkF m 46 #[.val (.int p0), .val (.int p1), .val (.int i127), .val (.ref wTXN_OFFSET_COMMIT), .val (.ref wTXN_OFFSET_COMMIT)] [(.int i127), (.int (28 : Int32))])) _
                                        refine XS.icmpNo X197.here hx rfl (hb hby at_46) rfl (teq (hc194 : (28 : Int32) = i127)).2 ?_
                                        show Steps p.tables e below (T197.setTop (mkF m 49 #[.val (.int p0), .val (.int p1), .val (.int i127), .val (.ref wTXN_OFFSET_COMMIT), .val (.ref wTXN_OFFSET_COMMIT)] [])) _
                                        refine XS.iconst X197.here hx rfl (hb hby at_49) ?_
                                        show Steps p.tables e below (T197.setTop (mkF m 50 #[.val (.int p0), .val (.int p1), .val (.int i127), .val (.ref wTXN_OFFSET_COMMIT), .val (.ref wTXN_OFFSET_COMMIT)] [(.int (1 : Int32))])) _
                                        refine XS.goto X197.here hx rfl (pc0 := 50) (pc' := 54) rfl (hb hby at_50) (by decide) (by decide) ?_
                                        show Steps p.tables e below (T197.setTop (mkF m 54 #[.val (.int p0), .val (.int p1), .val (.int i127), .val (.ref wTXN_OFFSET_COMMIT), .val (.ref wTXN_OFFSET_COMMIT)] [(.int (1 : Int32))])) _
                                        exact retN X197 hx (t := .boolean) Bd.returns (by simp) (hb hby at_54) hr
                                      · show Q0 Z p0 p1 w_VALUES wPRODUCE wFETCH wLIST_OFFSETS wMETADATA wOFFSET_COMMIT wOFFSET_FETCH wFIND_COORDINATOR wJOIN_GROUP wHEARTBEAT wLEAVE_GROUP wSYNC_GROUP wAPI_VERSIONS wINIT_PRODUCER_ID wADD_PARTITIONS_TO_TXN wADD_OFFSETS_TO_TXN wEND_TXN wTXN_OFFSET_COMMIT k_VALUES h0 n0 _ T197.heap _
                                        rw [e197]
                                        exact ⟨rfl, N195⟩
                                    · rw [((by rw [f2, if_neg (hc130 : ¬ ((0 : Int32) = i127)), if_neg (hc134 : ¬ ((1 : Int32) = i127)), if_neg (hc138 : ¬ ((2 : Int32) = i127)), if_neg (hc142 : ¬ ((3 : Int32) = i127)), if_neg (hc146 : ¬ ((8 : Int32) = i127)), if_neg (hc150 : ¬ ((9 : Int32) = i127)), if_neg (hc154 : ¬ ((10 : Int32) = i127)), if_neg (hc158 : ¬ ((11 : Int32) = i127)), if_neg (hc162 : ¬ ((12 : Int32) = i127)), if_neg (hc166 : ¬ ((13 : Int32) = i127)), if_neg (hc170 : ¬ ((14 : Int32) = i127)), if_neg (hc174 : ¬ ((18 : Int32) = i127)), if_neg (hc178 : ¬ ((22 : Int32) = i127)), if_neg (hc182 : ¬ ((24 : Int32) = i127)), if_neg (hc186 : ¬ ((25 : Int32) = i127)), if_neg (hc190 : ¬ ((26 : Int32) = i127)), if_neg (hc194 : ¬ ((28 : Int32) = i127))]) : (f2 i127 w_VALUES wPRODUCE wFETCH wLIST_OFFSETS wMETADATA wOFFSET_COMMIT wOFFSET_FETCH wFIND_COORDINATOR wJOIN_GROUP wHEARTBEAT wLEAVE_GROUP wSYNC_GROUP wAPI_VERSIONS wINIT_PRODUCER_ID wADD_PARTITIONS_TO_TXN wADD_OFFSETS_TO_TXN wEND_TXN wTXN_OFFSET_COMMIT k_VALUES) = .null)] at hQ128
                                      obtain ⟨rfl, N128q, E128⟩ := hQ128
                                      have N128 := Fr.app N0 N128q
                                      have EX128 : Ext h0 T128.heap := E128
                                      obtain ⟨_, _, ⟨T198, L198, k198, n198⟩, -, X198, ⟨Lc198, hQ198, l198, y198, z198⟩, st198⟩ := Jvm.LawKit.callS X128 hx (y := (⟨"com/example/idem_log/idemlog/protocol/ApiForKeyPinLaw", "expected", "(I)Lcom/example/idem_log/idemlog/protocol/Api;"⟩ : MethodName)) hown (mvT hZ (hw _ (List.mem_of_getElem? (i := 38) rfl))) (mvT hZ (hw _ (List.mem_of_getElem? (i := 39) rfl))) (mvT hZ (hw _ (List.mem_of_getElem? (i := 40) rfl))) (mvT hZ (hw _ (List.mem_of_getElem? (i := 41) rfl))) (by decide) (backOf (W := 0) (rm3 l Z a0 hw [] i127 w_VALUES wPRODUCE wFETCH wLIST_OFFSETS wMETADATA wOFFSET_COMMIT wOFFSET_FETCH wFIND_COORDINATOR wJOIN_GROUP wHEARTBEAT wLEAVE_GROUP wSYNC_GROUP wAPI_VERSIONS wINIT_PRODUCER_ID wADD_PARTITIONS_TO_TXN wADD_OFFSETS_TO_TXN wEND_TXN wTXN_OFFSET_COMMIT k_VALUES T128.heap n0 (Nat.le_trans Z0 EX128.1) (W0.ext EX128) ) hZ (hw _ (List.mem_of_getElem? (i := 41) rfl)) (hw _ (List.mem_of_getElem? (i := 40) rfl)) (by decide) (by decide)) (g := (mkF m 24 #[.val (.int p0), .val (.int p1), .val (.int i127), .val .null, .unset] [(.int i127)])) rfl (by rw [hml]; rfl) (argsL := [(.int i127)]) (rest := []) (lenOf pd_2 rfl) rfl (by show 2 * 0 + _ ≤ _; exact Nat.le_of_eq rfl) (hb hby at_24) (fun _ _ => ⟨rfl, rfl, (by decide : 1 + 0 ≤ _), (by decide : 17 + 0 ≤ _)⟩)
                                      dsimp only [Pt.U, Pt.locs, Pt.cells, Pt.slots] at X198 l198 y198 z198 st198 hQ198
                                      subst l198 y198 z198
                                      unfold Q3 at hQ198
                                      have k199 : ∀ t, Steps p.tables e below (T128.setTop (mkF m 24 #[.val (.int p0), .val (.int p1), .val (.int i127), .val .null, .unset] [(.int i127)])) t → Steps p.tables e below (s₁.setTop (entryFrame m #[(.int p0), (.int p1)] maxLocals)) t := fun t kt => k129 t (by
                                        show Steps p.tables e below (s₁.setTop (mkF m 19 #[.val (.int p0), .val (.int p1), .val (.int i127), .unset, .unset] [(.int i127)])) _
                                        refine st128 _ ?_
                                        show Steps p.tables e below (T128.setTop (mkF m 22 #[.val (.int p0), .val (.int p1), .val (.int i127), .unset, .unset] [.null])) _
                                        refine XS.astoreN X128.here hx rfl (hb hby at_22) rfl rfl (l' := #[.val (.int p0), .val (.int p1), .val (.int i127), .val .null, .unset]) rfl ?_
                                        show Steps p.tables e below (T128.setTop (mkF m 23 #[.val (.int p0), .val (.int p1), .val (.int i127), .val .null, .unset] [])) _
                                        refine XS.iloadN X128.here hx rfl (hb hby at_23) rfl ?_
                                        exact kt)
                                      rw [((by rw [f3, if_neg ((Ne.symm hc130) : ¬ (i127 = (0 : Int32))), if_neg ((Ne.symm hc134) : ¬ (i127 = (1 : Int32))), if_neg ((Ne.symm hc138) : ¬ (i127 = (2 : Int32))), if_neg ((Ne.symm hc142) : ¬ (i127 = (3 : Int32))), if_neg ((Ne.symm hc146) : ¬ (i127 = (8 : Int32))), if_neg ((Ne.symm hc150) : ¬ (i127 = (9 : Int32))), if_neg ((Ne.symm hc154) : ¬ (i127 = (10 : Int32))), if_neg ((Ne.symm hc158) : ¬ (i127 = (11 : Int32))), if_neg ((Ne.symm hc162) : ¬ (i127 = (12 : Int32))), if_neg ((Ne.symm hc166) : ¬ (i127 = (13 : Int32))), if_neg ((Ne.symm hc170) : ¬ (i127 = (14 : Int32))), if_neg ((Ne.symm hc174) : ¬ (i127 = (18 : Int32))), if_neg ((Ne.symm hc178) : ¬ (i127 = (22 : Int32))), if_neg ((Ne.symm hc182) : ¬ (i127 = (24 : Int32))), if_neg ((Ne.symm hc186) : ¬ (i127 = (25 : Int32))), if_neg ((Ne.symm hc190) : ¬ (i127 = (26 : Int32))), if_neg ((Ne.symm hc194) : ¬ (i127 = (28 : Int32)))]) : (f3 i127 w_VALUES wPRODUCE wFETCH wLIST_OFFSETS wMETADATA wOFFSET_COMMIT wOFFSET_FETCH wFIND_COORDINATOR wJOIN_GROUP wHEARTBEAT wLEAVE_GROUP wSYNC_GROUP wAPI_VERSIONS wINIT_PRODUCER_ID wADD_PARTITIONS_TO_TXN wADD_OFFSETS_TO_TXN wEND_TXN wTXN_OFFSET_COMMIT k_VALUES) = .null)] at hQ198
                                      obtain ⟨rfl, N198q, e198⟩ := hQ198
                                      have N198 := Fr.app N128 N198q
                                      obtain ⟨fs, hr, hrun, hended, hW, hsame⟩ := X198.leave (v := some (.int (1 : Int32))) (fun h => by rw [Bd.returns] at h; cases h)
                                      refine ⟨_, _, k199 _ ?_, hrun, hended, _, _, rfl, ?_, ⟨_, rfl⟩, hW, hsame.mono (by decide) (by decide)⟩
                                      · show Steps p.tables e below (T128.setTop (mkF m 24 #[.val (.int p0), .val (.int p1), .val (.int i127), .val .null, .unset] [(.int i127)])) _
                                        refine st198 _ ?_
                                        show Steps p.tables e below (T198.setTop (mkF m 27 #[.val (.int p0), .val (.int p1), .val (.int i127), .val .null, .unset] [.null])) _
                                        refine XS.astore X198.here hx rfl (hb hby at_27) rfl rfl (l' := #[.val (.int p0), .val (.int p1), .val (.int i127), .val .null, .val .null]) rfl ?_
                                        show Steps p.tables e below (T198.setTop (mkF m 29 #[.val (.int p0), .val (.int p1), .val (.int i127), .val .null, .val .null] [])) _
                                        refine XS.aloadN X198.here hx rfl (hb hby at_29) rfl rfl ?_
                                        show Steps p.tables e below (T198.setTop (mkF m 30 #[.val (.int p0), .val (.int p1), .val (.int i127), .val .null, .val .null] [.null])) _
                                        refine XS.aload X198.here hx rfl (hb hby at_30) rfl rfl ?_
                                        show Steps p.tables e below (T198.setTop (mkF m 32 #[.val (.int p0), .val (.int p1), .val (.int i127), .val .null, .val .null] [.null, .null])) _
                                        refine Jvm.RoadKit.acmp (g := (mkF m 32 #[.val (.int p0), .val (.int p1), .val (.int i127), .val .null, .val .null] [.null, .null])) X198 hx rfl rfl rfl (pc0 := 32) (pc' := 37) (same := true) rfl (hb hby at_32) rfl (decide_eq_true rfl) (by decide) (by decide) ?_
                                        show Steps p.tables e below (T198.setTop (mkF m 37 #[.val (.int p0), .val (.int p1), .val (.int i127), .val .null, .val .null] [])) _
                                        refine XS.aloadN X198.here hx rfl (hb hby at_37) rfl rfl ?_
                                        show Steps p.tables e below (T198.setTop (mkF m 38 #[.val (.int p0), .val (.int p1), .val (.int i127), .val .null, .val .null] [.null])) _
                                        refine XS.ifnullYes X198.here hx rfl (pc0 := 38) (pc' := 49) rfl (hb hby at_38) rfl (by decide) (by decide) ?_
                                        show Steps p.tables e below (T198.setTop (mkF m 49 #[.val (.int p0), .val (.int p1), .val (.int i127), .val .null, .val .null] [])) _
                                        refine XS.iconst X198.here hx rfl (hb hby at_49) ?_
                                        show Steps p.tables e below (T198.setTop (mkF m 50 #[.val (.int p0), .val (.int p1), .val (.int i127), .val .null, .val .null] [(.int (1 : Int32))])) _
                                        refine XS.goto X198.here hx rfl (pc0 := 50) (pc' := 54) rfl (hb hby at_50) (by decide) (by decide) ?_
                                        show Steps p.tables e below (T198.setTop (mkF m 54 #[.val (.int p0), .val (.int p1), .val (.int i127), .val .null, .val .null] [(.int (1 : Int32))])) _
                                        exact retN X198 hx (t := .boolean) Bd.returns (by simp) (hb hby at_54) hr
                                      · show Q0 Z p0 p1 w_VALUES wPRODUCE wFETCH wLIST_OFFSETS wMETADATA wOFFSET_COMMIT wOFFSET_FETCH wFIND_COORDINATOR wJOIN_GROUP wHEARTBEAT wLEAVE_GROUP wSYNC_GROUP wAPI_VERSIONS wINIT_PRODUCER_ID wADD_PARTITIONS_TO_TXN wADD_OFFSETS_TO_TXN wEND_TXN wTXN_OFFSET_COMMIT k_VALUES h0 n0 _ T198.heap _
                                        rw [e198]
                                        exact ⟨rfl, N198⟩
  · obtain ⟨i200, hi200⟩ : ∃ z, z = ((p1 &&& (31 : Int32)).toInt16.toInt32) := ⟨_, rfl⟩
    obtain ⟨_, _, ⟨T201, L201, k201, n201⟩, -, X201, ⟨Lc201, hQ201, l201, y201, z201⟩, st201⟩ := Jvm.LawKit.callS X0 hx (y := (⟨"com/example/idem_log/idemlog/protocol/Api", "forKey", "(S)Lcom/example/idem_log/idemlog/protocol/Api;"⟩ : MethodName)) hown (mvT hZ (hw _ (List.mem_of_getElem? (i := 0) rfl))) (mvT hZ (hw _ (List.mem_of_getElem? (i := 1) rfl))) (mvT hZ (hw _ (List.mem_of_getElem? (i := 2) rfl))) (mvT hZ (hw _ (List.mem_of_getElem? (i := 3) rfl))) (by decide) (backOf (W := 0) (rm2 l Z a0 hw [] i200 w_VALUES wPRODUCE wFETCH wLIST_OFFSETS wMETADATA wOFFSET_COMMIT wOFFSET_FETCH wFIND_COORDINATOR wJOIN_GROUP wHEARTBEAT wLEAVE_GROUP wSYNC_GROUP wAPI_VERSIONS wINIT_PRODUCER_ID wADD_PARTITIONS_TO_TXN wADD_OFFSETS_TO_TXN wEND_TXN wTXN_OFFSET_COMMIT k_VALUES h0 n0 Z0 W0 ) hZ (hw _ (List.mem_of_getElem? (i := 3) rfl)) (hw _ (List.mem_of_getElem? (i := 2) rfl)) (by decide) (by decide)) (g := (mkF m 19 #[.val (.int p0), .val (.int p1), .val (.int i200), .unset, .unset] [(.int i200)])) rfl (by rw [hml]; rfl) (argsL := [(.int i200)]) (rest := []) (lenOf pd_1 rfl) rfl (by show 2 * 0 + _ ≤ _; exact Nat.le_of_eq rfl) (hb hby at_19) (fun _ _ => ⟨rfl, e0, (by decide : 0 + 1 ≤ _), (by decide : 0 + 17 ≤ _)⟩)
    dsimp only [Pt.U, Pt.locs, Pt.cells, Pt.slots] at X201 l201 y201 z201 st201 hQ201
    subst l201 y201 z201
    unfold Q2 at hQ201
    have k202 : ∀ t, Steps p.tables e below (s₁.setTop (mkF m 19 #[.val (.int p0), .val (.int p1), .val (.int i200), .unset, .unset] [(.int i200)])) t → Steps p.tables e below (s₁.setTop (entryFrame m #[(.int p0), (.int p1)] maxLocals)) t := fun t kt => k125 t (by
      show Steps p.tables e below (s₁.setTop (mkF m 3 #[.val (.int p0), .val (.int p1), .unset, .unset, .unset] [(.int (p0 &&& (1 : Int32)))])) _
      refine XS.ifNo X0.here hx rfl (hb hby at_3) rfl ((if0 _ _).trans (feq (hc126 : ¬ ((p0 &&& (1 : Int32)) = (0 : Int32)))).1) ?_
      show Steps p.tables e below (s₁.setTop (mkF m 6 #[.val (.int p0), .val (.int p1), .unset, .unset, .unset] [])) _
      refine XS.iloadN X0.here hx rfl (hb hby at_6) rfl ?_
      show Steps p.tables e below (s₁.setTop (mkF m 7 #[.val (.int p0), .val (.int p1), .unset, .unset, .unset] [(.int p1)])) _
      refine XS.bipush X0.here hx rfl (hb hby at_7) ?_
      show Steps p.tables e below (s₁.setTop (mkF m 9 #[.val (.int p0), .val (.int p1), .unset, .unset, .unset] [(.int (31 : Int32)), (.int p1)])) _
      refine XS.iand X0.here hx rfl (hb hby at_9) rfl ?_
      show Steps p.tables e below (s₁.setTop (mkF m 10 #[.val (.int p0), .val (.int p1), .unset, .unset, .unset] [(.int (p1 &&& (31 : Int32)))])) _
      refine XS.i2s X0.here hx rfl (hb hby at_10) rfl ?_
      rw [← hi200]
      show Steps p.tables e below (s₁.setTop (mkF m 11 #[.val (.int p0), .val (.int p1), .unset, .unset, .unset] [(.int i200)])) _
      refine XS.istoreN X0.here hx rfl (hb hby at_11) rfl (l' := #[.val (.int p0), .val (.int p1), .val (.int i200), .unset, .unset]) rfl ?_
      show Steps p.tables e below (s₁.setTop (mkF m 12 #[.val (.int p0), .val (.int p1), .val (.int i200), .unset, .unset] [])) _
      refine XS.goto X0.here hx rfl (pc0 := 12) (pc' := 18) rfl (hb hby at_12) (by decide) (by decide) ?_
      show Steps p.tables e below (s₁.setTop (mkF m 18 #[.val (.int p0), .val (.int p1), .val (.int i200), .unset, .unset] [])) _
      refine XS.iloadN X0.here hx rfl (hb hby at_18) rfl ?_
      exact kt)
    by_cases hc203 : (0 : Int32) = i200
    · rw [((by rw [f2, if_pos (hc203 : (0 : Int32) = i200)]) : (f2 i200 w_VALUES wPRODUCE wFETCH wLIST_OFFSETS wMETADATA wOFFSET_COMMIT wOFFSET_FETCH wFIND_COORDINATOR wJOIN_GROUP wHEARTBEAT wLEAVE_GROUP wSYNC_GROUP wAPI_VERSIONS wINIT_PRODUCER_ID wADD_PARTITIONS_TO_TXN wADD_OFFSETS_TO_TXN wEND_TXN wTXN_OFFSET_COMMIT k_VALUES) = (.ref wPRODUCE))] at hQ201
      obtain ⟨rfl, N201q, E201⟩ := hQ201
      have N201 := Fr.app N0 N201q
      have EX201 : Ext h0 T201.heap := E201
      obtain ⟨_, _, ⟨T204, L204, k204, n204⟩, -, X204, ⟨Lc204, hQ204, l204, y204, z204⟩, st204⟩ := Jvm.LawKit.callS X201 hx (y := (⟨"com/example/idem_log/idemlog/protocol/ApiForKeyPinLaw", "expected", "(I)Lcom/example/idem_log/idemlog/protocol/Api;"⟩ : MethodName)) hown (mvT hZ (hw _ (List.mem_of_getElem? (i := 38) rfl))) (mvT hZ (hw _ (List.mem_of_getElem? (i := 39) rfl))) (mvT hZ (hw _ (List.mem_of_getElem? (i := 40) rfl))) (mvT hZ (hw _ (List.mem_of_getElem? (i := 41) rfl))) (by decide) (backOf (W := 0) (rm3 l Z a0 hw [] i200 w_VALUES wPRODUCE wFETCH wLIST_OFFSETS wMETADATA wOFFSET_COMMIT wOFFSET_FETCH wFIND_COORDINATOR wJOIN_GROUP wHEARTBEAT wLEAVE_GROUP wSYNC_GROUP wAPI_VERSIONS wINIT_PRODUCER_ID wADD_PARTITIONS_TO_TXN wADD_OFFSETS_TO_TXN wEND_TXN wTXN_OFFSET_COMMIT k_VALUES T201.heap n0 (Nat.le_trans Z0 EX201.1) (W0.ext EX201) ) hZ (hw _ (List.mem_of_getElem? (i := 41) rfl)) (hw _ (List.mem_of_getElem? (i := 40) rfl)) (by decide) (by decide)) (g := (mkF m 24 #[.val (.int p0), .val (.int p1), .val (.int i200), .val (.ref wPRODUCE), .unset] [(.int i200)])) rfl (by rw [hml]; rfl) (argsL := [(.int i200)]) (rest := []) (lenOf pd_2 rfl) rfl (by show 2 * 0 + _ ≤ _; exact Nat.le_of_eq rfl) (hb hby at_24) (fun _ _ => ⟨rfl, rfl, (by decide : 1 + 0 ≤ _), (by decide : 17 + 0 ≤ _)⟩)
      dsimp only [Pt.U, Pt.locs, Pt.cells, Pt.slots] at X204 l204 y204 z204 st204 hQ204
      subst l204 y204 z204
      unfold Q3 at hQ204
      have k205 : ∀ t, Steps p.tables e below (T201.setTop (mkF m 24 #[.val (.int p0), .val (.int p1), .val (.int i200), .val (.ref wPRODUCE), .unset] [(.int i200)])) t → Steps p.tables e below (s₁.setTop (entryFrame m #[(.int p0), (.int p1)] maxLocals)) t := fun t kt => k202 t (by
        show Steps p.tables e below (s₁.setTop (mkF m 19 #[.val (.int p0), .val (.int p1), .val (.int i200), .unset, .unset] [(.int i200)])) _
        refine st201 _ ?_
        show Steps p.tables e below (T201.setTop (mkF m 22 #[.val (.int p0), .val (.int p1), .val (.int i200), .unset, .unset] [(.ref wPRODUCE)])) _
        refine XS.astoreN X201.here hx rfl (hb hby at_22) rfl rfl (l' := #[.val (.int p0), .val (.int p1), .val (.int i200), .val (.ref wPRODUCE), .unset]) rfl ?_
        show Steps p.tables e below (T201.setTop (mkF m 23 #[.val (.int p0), .val (.int p1), .val (.int i200), .val (.ref wPRODUCE), .unset] [])) _
        refine XS.iloadN X201.here hx rfl (hb hby at_23) rfl ?_
        exact kt)
      rw [((by rw [f3, if_pos ((Eq.symm hc203) : i200 = (0 : Int32))]) : (f3 i200 w_VALUES wPRODUCE wFETCH wLIST_OFFSETS wMETADATA wOFFSET_COMMIT wOFFSET_FETCH wFIND_COORDINATOR wJOIN_GROUP wHEARTBEAT wLEAVE_GROUP wSYNC_GROUP wAPI_VERSIONS wINIT_PRODUCER_ID wADD_PARTITIONS_TO_TXN wADD_OFFSETS_TO_TXN wEND_TXN wTXN_OFFSET_COMMIT k_VALUES) = (.ref wPRODUCE))] at hQ204
      obtain ⟨rfl, N204q, e204⟩ := hQ204
      have N204 := Fr.app N201 N204q
      obtain ⟨T206, X206, e206, st206⟩ := getF X204 hx hZ hown (host := "") (Or.inl (hw _ (List.mem_of_getElem? (i := 43) rfl))) Via.refl e204 (FPRODUCE_key.ext EX201) (g := (mkF m 42 #[.val (.int p0), .val (.int p1), .val (.int i200), .val (.ref wPRODUCE), .val (.ref wPRODUCE)] [(.ref wPRODUCE)])) rfl rfl (hb hby at_42)
      obtain ⟨fs, hr, hrun, hended, hW, hsame⟩ := X206.leave (v := some (.int (1 : Int32))) (fun h => by rw [Bd.returns] at h; cases h)
      refine ⟨_, _, k205 _ ?_, hrun, hended, _, _, rfl, ?_, ⟨_, rfl⟩, hW, hsame.mono (by decide) (by decide)⟩
      · show Steps p.tables e below (T201.setTop (mkF m 24 #[.val (.int p0), .val (.int p1), .val (.int i200), .val (.ref wPRODUCE), .unset] [(.int i200)])) _
        refine st204 _ ?_
        show Steps p.tables e below (T204.setTop (mkF m 27 #[.val (.int p0), .val (.int p1), .val (.int i200), .val (.ref wPRODUCE), .unset] [(.ref wPRODUCE)])) _
        refine XS.astore X204.here hx rfl (hb hby at_27) rfl rfl (l' := #[.val (.int p0), .val (.int p1), .val (.int i200), .val (.ref wPRODUCE), .val (.ref wPRODUCE)]) rfl ?_
        show Steps p.tables e below (T204.setTop (mkF m 29 #[.val (.int p0), .val (.int p1), .val (.int i200), .val (.ref wPRODUCE), .val (.ref wPRODUCE)] [])) _
        refine XS.aloadN X204.here hx rfl (hb hby at_29) rfl rfl ?_
        show Steps p.tables e below (T204.setTop (mkF m 30 #[.val (.int p0), .val (.int p1), .val (.int i200), .val (.ref wPRODUCE), .val (.ref wPRODUCE)] [(.ref wPRODUCE)])) _
        refine XS.aload X204.here hx rfl (hb hby at_30) rfl rfl ?_
        show Steps p.tables e below (T204.setTop (mkF m 32 #[.val (.int p0), .val (.int p1), .val (.int i200), .val (.ref wPRODUCE), .val (.ref wPRODUCE)] [(.ref wPRODUCE), (.ref wPRODUCE)])) _
        refine Jvm.RoadKit.acmp (g := (mkF m 32 #[.val (.int p0), .val (.int p1), .val (.int i200), .val (.ref wPRODUCE), .val (.ref wPRODUCE)] [(.ref wPRODUCE), (.ref wPRODUCE)])) X204 hx rfl rfl rfl (pc0 := 32) (pc' := 37) (same := true) rfl (hb hby at_32) rfl (decide_eq_true (congrArg Value.ref (rfl : wPRODUCE = wPRODUCE))) (by decide) (by decide) ?_
        show Steps p.tables e below (T204.setTop (mkF m 37 #[.val (.int p0), .val (.int p1), .val (.int i200), .val (.ref wPRODUCE), .val (.ref wPRODUCE)] [])) _
        refine XS.aloadN X204.here hx rfl (hb hby at_37) rfl rfl ?_
        show Steps p.tables e below (T204.setTop (mkF m 38 #[.val (.int p0), .val (.int p1), .val (.int i200), .val (.ref wPRODUCE), .val (.ref wPRODUCE)] [(.ref wPRODUCE)])) _
        refine XS.ifnullNo X204.here hx rfl (hb hby at_38) rfl ?_
        show Steps p.tables e below (T204.setTop (mkF m 41 #[.val (.int p0), .val (.int p1), .val (.int i200), .val (.ref wPRODUCE), .val (.ref wPRODUCE)] [])) _
        refine XS.aloadN X204.here hx rfl (hb hby at_41) rfl rfl ?_
        show Steps p.tables e below (T204.setTop (mkF m 42 #[.val (.int p0), .val (.int p1), .val (.int i200), .val (.ref wPRODUCE), .val (.ref wPRODUCE)] [(.ref wPRODUCE)])) _
        refine st206 _ ?_
        show Steps p.tables e below (T206.setTop (mkF m 45 #[.val (.int p0), .val (.int p1), .val (.int i200), .val (.ref wPRODUCE), .val (.ref wPRODUCE)] [(.int (0 : Int32))])) _
        refine XS.iloadN X206.here hx rfl (hb hby at_45) rfl ?_
        show Steps p.tables e below (T206.setTop (mkF m 46 #[.val (.int p0), .val (.int p1), .val (.int i200), .val (.ref wPRODUCE), .val (.ref wPRODUCE)] [(.int i200), (.int (0 : Int32))])) _
        refine XS.icmpNo X206.here hx rfl (hb hby at_46) rfl (teq (hc203 : (0 : Int32) = i200)).2 ?_
        show Steps p.tables e below (T206.setTop (mkF m 49 #[.val (.int p0), .val (.int p1), .val (.int i200), .val (.ref wPRODUCE), .val (.ref wPRODUCE)] [])) _
        refine XS.iconst X206.here hx rfl (hb hby at_49) ?_
        show Steps p.tables e below (T206.setTop (mkF m 50 #[.val (.int p0), .val (.int p1), .val (.int i200), .val (.ref wPRODUCE), .val (.ref wPRODUCE)] [(.int (1 : Int32))])) _
        refine XS.goto X206.here hx rfl (pc0 := 50) (pc' := 54) rfl (hb hby at_50) (by decide) (by decide) ?_
        show Steps p.tables e below (T206.setTop (mkF m 54 #[.val (.int p0), .val (.int p1), .val (.int i200), .val (.ref wPRODUCE), .val (.ref wPRODUCE)] [(.int (1 : Int32))])) _
        exact retN X206 hx (t := .boolean) Bd.returns (by simp) (hb hby at_54) hr
      · show Q0 Z p0 p1 w_VALUES wPRODUCE wFETCH wLIST_OFFSETS wMETADATA wOFFSET_COMMIT wOFFSET_FETCH wFIND_COORDINATOR wJOIN_GROUP wHEARTBEAT wLEAVE_GROUP wSYNC_GROUP wAPI_VERSIONS wINIT_PRODUCER_ID wADD_PARTITIONS_TO_TXN wADD_OFFSETS_TO_TXN wEND_TXN wTXN_OFFSET_COMMIT k_VALUES h0 n0 _ T206.heap _
        rw [e206]
        exact ⟨rfl, N204⟩
    · by_cases hc207 : (1 : Int32) = i200
      · rw [((by rw [f2, if_neg (hc203 : ¬ ((0 : Int32) = i200)), if_pos (hc207 : (1 : Int32) = i200)]) : (f2 i200 w_VALUES wPRODUCE wFETCH wLIST_OFFSETS wMETADATA wOFFSET_COMMIT wOFFSET_FETCH wFIND_COORDINATOR wJOIN_GROUP wHEARTBEAT wLEAVE_GROUP wSYNC_GROUP wAPI_VERSIONS wINIT_PRODUCER_ID wADD_PARTITIONS_TO_TXN wADD_OFFSETS_TO_TXN wEND_TXN wTXN_OFFSET_COMMIT k_VALUES) = (.ref wFETCH))] at hQ201
        obtain ⟨rfl, N201q, E201⟩ := hQ201
        have N201 := Fr.app N0 N201q
        have EX201 : Ext h0 T201.heap := E201
        obtain ⟨_, _, ⟨T208, L208, k208, n208⟩, -, X208, ⟨Lc208, hQ208, l208, y208, z208⟩, st208⟩ := Jvm.LawKit.callS X201 hx (y := (⟨"com/example/idem_log/idemlog/protocol/ApiForKeyPinLaw", "expected", "(I)Lcom/example/idem_log/idemlog/protocol/Api;"⟩ : MethodName)) hown (mvT hZ (hw _ (List.mem_of_getElem? (i := 38) rfl))) (mvT hZ (hw _ (List.mem_of_getElem? (i := 39) rfl))) (mvT hZ (hw _ (List.mem_of_getElem? (i := 40) rfl))) (mvT hZ (hw _ (List.mem_of_getElem? (i := 41) rfl))) (by decide) (backOf (W := 0) (rm3 l Z a0 hw [] i200 w_VALUES wPRODUCE wFETCH wLIST_OFFSETS wMETADATA wOFFSET_COMMIT wOFFSET_FETCH wFIND_COORDINATOR wJOIN_GROUP wHEARTBEAT wLEAVE_GROUP wSYNC_GROUP wAPI_VERSIONS wINIT_PRODUCER_ID wADD_PARTITIONS_TO_TXN wADD_OFFSETS_TO_TXN wEND_TXN wTXN_OFFSET_COMMIT k_VALUES T201.heap n0 (Nat.le_trans Z0 EX201.1) (W0.ext EX201) ) hZ (hw _ (List.mem_of_getElem? (i := 41) rfl)) (hw _ (List.mem_of_getElem? (i := 40) rfl)) (by decide) (by decide)) (g := (mkF m 24 #[.val (.int p0), .val (.int p1), .val (.int i200), .val (.ref wFETCH), .unset] [(.int i200)])) rfl (by rw [hml]; rfl) (argsL := [(.int i200)]) (rest := []) (lenOf pd_2 rfl) rfl (by show 2 * 0 + _ ≤ _; exact Nat.le_of_eq rfl) (hb hby at_24) (fun _ _ => ⟨rfl, rfl, (by decide : 1 + 0 ≤ _), (by decide : 17 + 0 ≤ _)⟩)
        dsimp only [Pt.U, Pt.locs, Pt.cells, Pt.slots] at X208 l208 y208 z208 st208 hQ208
        subst l208 y208 z208
        unfold Q3 at hQ208
        have k209 : ∀ t, Steps p.tables e below (T201.setTop (mkF m 24 #[.val (.int p0), .val (.int p1), .val (.int i200), .val (.ref wFETCH), .unset] [(.int i200)])) t → Steps p.tables e below (s₁.setTop (entryFrame m #[(.int p0), (.int p1)] maxLocals)) t := fun t kt => k202 t (by
          show Steps p.tables e below (s₁.setTop (mkF m 19 #[.val (.int p0), .val (.int p1), .val (.int i200), .unset, .unset] [(.int i200)])) _
          refine st201 _ ?_
          show Steps p.tables e below (T201.setTop (mkF m 22 #[.val (.int p0), .val (.int p1), .val (.int i200), .unset, .unset] [(.ref wFETCH)])) _
          refine XS.astoreN X201.here hx rfl (hb hby at_22) rfl rfl (l' := #[.val (.int p0), .val (.int p1), .val (.int i200), .val (.ref wFETCH), .unset]) rfl ?_
          show Steps p.tables e below (T201.setTop (mkF m 23 #[.val (.int p0), .val (.int p1), .val (.int i200), .val (.ref wFETCH), .unset] [])) _
          refine XS.iloadN X201.here hx rfl (hb hby at_23) rfl ?_
          exact kt)
        rw [((by rw [f3, if_neg ((Ne.symm hc203) : ¬ (i200 = (0 : Int32))), if_pos ((Eq.symm hc207) : i200 = (1 : Int32))]) : (f3 i200 w_VALUES wPRODUCE wFETCH wLIST_OFFSETS wMETADATA wOFFSET_COMMIT wOFFSET_FETCH wFIND_COORDINATOR wJOIN_GROUP wHEARTBEAT wLEAVE_GROUP wSYNC_GROUP wAPI_VERSIONS wINIT_PRODUCER_ID wADD_PARTITIONS_TO_TXN wADD_OFFSETS_TO_TXN wEND_TXN wTXN_OFFSET_COMMIT k_VALUES) = (.ref wFETCH))] at hQ208
        obtain ⟨rfl, N208q, e208⟩ := hQ208
        have N208 := Fr.app N201 N208q
        obtain ⟨T210, X210, e210, st210⟩ := getF X208 hx hZ hown (host := "") (Or.inl (hw _ (List.mem_of_getElem? (i := 43) rfl))) Via.refl e208 (FFETCH_key.ext EX201) (g := (mkF m 42 #[.val (.int p0), .val (.int p1), .val (.int i200), .val (.ref wFETCH), .val (.ref wFETCH)] [(.ref wFETCH)])) rfl rfl (hb hby at_42)
        obtain ⟨fs, hr, hrun, hended, hW, hsame⟩ := X210.leave (v := some (.int (1 : Int32))) (fun h => by rw [Bd.returns] at h; cases h)
        refine ⟨_, _, k209 _ ?_, hrun, hended, _, _, rfl, ?_, ⟨_, rfl⟩, hW, hsame.mono (by decide) (by decide)⟩
        · show Steps p.tables e below (T201.setTop (mkF m 24 #[.val (.int p0), .val (.int p1), .val (.int i200), .val (.ref wFETCH), .unset] [(.int i200)])) _
          refine st208 _ ?_
          show Steps p.tables e below (T208.setTop (mkF m 27 #[.val (.int p0), .val (.int p1), .val (.int i200), .val (.ref wFETCH), .unset] [(.ref wFETCH)])) _
          refine XS.astore X208.here hx rfl (hb hby at_27) rfl rfl (l' := #[.val (.int p0), .val (.int p1), .val (.int i200), .val (.ref wFETCH), .val (.ref wFETCH)]) rfl ?_
          show Steps p.tables e below (T208.setTop (mkF m 29 #[.val (.int p0), .val (.int p1), .val (.int i200), .val (.ref wFETCH), .val (.ref wFETCH)] [])) _
          refine XS.aloadN X208.here hx rfl (hb hby at_29) rfl rfl ?_
          show Steps p.tables e below (T208.setTop (mkF m 30 #[.val (.int p0), .val (.int p1), .val (.int i200), .val (.ref wFETCH), .val (.ref wFETCH)] [(.ref wFETCH)])) _
          refine XS.aload X208.here hx rfl (hb hby at_30) rfl rfl ?_
          show Steps p.tables e below (T208.setTop (mkF m 32 #[.val (.int p0), .val (.int p1), .val (.int i200), .val (.ref wFETCH), .val (.ref wFETCH)] [(.ref wFETCH), (.ref wFETCH)])) _
          refine Jvm.RoadKit.acmp (g := (mkF m 32 #[.val (.int p0), .val (.int p1), .val (.int i200), .val (.ref wFETCH), .val (.ref wFETCH)] [(.ref wFETCH), (.ref wFETCH)])) X208 hx rfl rfl rfl (pc0 := 32) (pc' := 37) (same := true) rfl (hb hby at_32) rfl (decide_eq_true (congrArg Value.ref (rfl : wFETCH = wFETCH))) (by decide) (by decide) ?_
          show Steps p.tables e below (T208.setTop (mkF m 37 #[.val (.int p0), .val (.int p1), .val (.int i200), .val (.ref wFETCH), .val (.ref wFETCH)] [])) _
          refine XS.aloadN X208.here hx rfl (hb hby at_37) rfl rfl ?_
          show Steps p.tables e below (T208.setTop (mkF m 38 #[.val (.int p0), .val (.int p1), .val (.int i200), .val (.ref wFETCH), .val (.ref wFETCH)] [(.ref wFETCH)])) _
          refine XS.ifnullNo X208.here hx rfl (hb hby at_38) rfl ?_
          show Steps p.tables e below (T208.setTop (mkF m 41 #[.val (.int p0), .val (.int p1), .val (.int i200), .val (.ref wFETCH), .val (.ref wFETCH)] [])) _
          refine XS.aloadN X208.here hx rfl (hb hby at_41) rfl rfl ?_
          show Steps p.tables e below (T208.setTop (mkF m 42 #[.val (.int p0), .val (.int p1), .val (.int i200), .val (.ref wFETCH), .val (.ref wFETCH)] [(.ref wFETCH)])) _
          refine st210 _ ?_
          show Steps p.tables e below (T210.setTop (mkF m 45 #[.val (.int p0), .val (.int p1), .val (.int i200), .val (.ref wFETCH), .val (.ref wFETCH)] [(.int (1 : Int32))])) _
          refine XS.iloadN X210.here hx rfl (hb hby at_45) rfl ?_
          show Steps p.tables e below (T210.setTop (mkF m 46 #[.val (.int p0), .val (.int p1), .val (.int i200), .val (.ref wFETCH), .val (.ref wFETCH)] [(.int i200), (.int (1 : Int32))])) _
          refine XS.icmpNo X210.here hx rfl (hb hby at_46) rfl (teq (hc207 : (1 : Int32) = i200)).2 ?_
          show Steps p.tables e below (T210.setTop (mkF m 49 #[.val (.int p0), .val (.int p1), .val (.int i200), .val (.ref wFETCH), .val (.ref wFETCH)] [])) _
          refine XS.iconst X210.here hx rfl (hb hby at_49) ?_
          show Steps p.tables e below (T210.setTop (mkF m 50 #[.val (.int p0), .val (.int p1), .val (.int i200), .val (.ref wFETCH), .val (.ref wFETCH)] [(.int (1 : Int32))])) _
          refine XS.goto X210.here hx rfl (pc0 := 50) (pc' := 54) rfl (hb hby at_50) (by decide) (by decide) ?_
          show Steps p.tables e below (T210.setTop (mkF m 54 #[.val (.int p0), .val (.int p1), .val (.int i200), .val (.ref wFETCH), .val (.ref wFETCH)] [(.int (1 : Int32))])) _
          exact retN X210 hx (t := .boolean) Bd.returns (by simp) (hb hby at_54) hr
        · show Q0 Z p0 p1 w_VALUES wPRODUCE wFETCH wLIST_OFFSETS wMETADATA wOFFSET_COMMIT wOFFSET_FETCH wFIND_COORDINATOR wJOIN_GROUP wHEARTBEAT wLEAVE_GROUP wSYNC_GROUP wAPI_VERSIONS wINIT_PRODUCER_ID wADD_PARTITIONS_TO_TXN wADD_OFFSETS_TO_TXN wEND_TXN wTXN_OFFSET_COMMIT k_VALUES h0 n0 _ T210.heap _
          rw [e210]
          exact ⟨rfl, N208⟩
      · by_cases hc211 : (2 : Int32) = i200
        · rw [((by rw [f2, if_neg (hc203 : ¬ ((0 : Int32) = i200)), if_neg (hc207 : ¬ ((1 : Int32) = i200)), if_pos (hc211 : (2 : Int32) = i200)]) : (f2 i200 w_VALUES wPRODUCE wFETCH wLIST_OFFSETS wMETADATA wOFFSET_COMMIT wOFFSET_FETCH wFIND_COORDINATOR wJOIN_GROUP wHEARTBEAT wLEAVE_GROUP wSYNC_GROUP wAPI_VERSIONS wINIT_PRODUCER_ID wADD_PARTITIONS_TO_TXN wADD_OFFSETS_TO_TXN wEND_TXN wTXN_OFFSET_COMMIT k_VALUES) = (.ref wLIST_OFFSETS))] at hQ201
          obtain ⟨rfl, N201q, E201⟩ := hQ201
          have N201 := Fr.app N0 N201q
          have EX201 : Ext h0 T201.heap := E201
          obtain ⟨_, _, ⟨T212, L212, k212, n212⟩, -, X212, ⟨Lc212, hQ212, l212, y212, z212⟩, st212⟩ := Jvm.LawKit.callS X201 hx (y := (⟨"com/example/idem_log/idemlog/protocol/ApiForKeyPinLaw", "expected", "(I)Lcom/example/idem_log/idemlog/protocol/Api;"⟩ : MethodName)) hown (mvT hZ (hw _ (List.mem_of_getElem? (i := 38) rfl))) (mvT hZ (hw _ (List.mem_of_getElem? (i := 39) rfl))) (mvT hZ (hw _ (List.mem_of_getElem? (i := 40) rfl))) (mvT hZ (hw _ (List.mem_of_getElem? (i := 41) rfl))) (by decide) (backOf (W := 0) (rm3 l Z a0 hw [] i200 w_VALUES wPRODUCE wFETCH wLIST_OFFSETS wMETADATA wOFFSET_COMMIT wOFFSET_FETCH wFIND_COORDINATOR wJOIN_GROUP wHEARTBEAT wLEAVE_GROUP wSYNC_GROUP wAPI_VERSIONS wINIT_PRODUCER_ID wADD_PARTITIONS_TO_TXN wADD_OFFSETS_TO_TXN wEND_TXN wTXN_OFFSET_COMMIT k_VALUES T201.heap n0 (Nat.le_trans Z0 EX201.1) (W0.ext EX201) ) hZ (hw _ (List.mem_of_getElem? (i := 41) rfl)) (hw _ (List.mem_of_getElem? (i := 40) rfl)) (by decide) (by decide)) (g := (mkF m 24 #[.val (.int p0), .val (.int p1), .val (.int i200), .val (.ref wLIST_OFFSETS), .unset] [(.int i200)])) rfl (by rw [hml]; rfl) (argsL := [(.int i200)]) (rest := []) (lenOf pd_2 rfl) rfl (by show 2 * 0 + _ ≤ _; exact Nat.le_of_eq rfl) (hb hby at_24) (fun _ _ => ⟨rfl, rfl, (by decide : 1 + 0 ≤ _), (by decide : 17 + 0 ≤ _)⟩)
          dsimp only [Pt.U, Pt.locs, Pt.cells, Pt.slots] at X212 l212 y212 z212 st212 hQ212
          subst l212 y212 z212
          unfold Q3 at hQ212
          have k213 : ∀ t, Steps p.tables e below (T201.setTop (mkF m 24 #[.val (.int p0), .val (.int p1), .val (.int i200), .val (.ref wLIST_OFFSETS), .unset] [(.int i200)])) t → Steps p.tables e below (s₁.setTop (entryFrame m #[(.int p0), (.int p1)] maxLocals)) t := fun t kt => k202 t (by
            show Steps p.tables e below (s₁.setTop (mkF m 19 #[.val (.int p0), .val (.int p1), .val (.int i200), .unset, .unset] [(.int i200)])) _
            refine st201 _ ?_
            show Steps p.tables e below (T201.setTop (mkF m 22 #[.val (.int p0), .val (.int p1), .val (.int i200), .unset, .unset] [(.ref wLIST_OFFSETS)])) _
            refine XS.astoreN X201.here hx rfl (hb hby at_22) rfl rfl (l' := #[.val (.int p0), .val (.int p1), .val (.int i200), .val (.ref wLIST_OFFSETS), .unset]) rfl ?_
            show Steps p.tables e below (T201.setTop (mkF m 23 #[.val (.int p0), .val (.int p1), .val (.int i200), .val (.ref wLIST_OFFSETS), .unset] [])) _
            refine XS.iloadN X201.here hx rfl (hb hby at_23) rfl ?_
            exact kt)
          rw [((by rw [f3, if_neg ((Ne.symm hc203) : ¬ (i200 = (0 : Int32))), if_neg ((Ne.symm hc207) : ¬ (i200 = (1 : Int32))), if_pos ((Eq.symm hc211) : i200 = (2 : Int32))]) : (f3 i200 w_VALUES wPRODUCE wFETCH wLIST_OFFSETS wMETADATA wOFFSET_COMMIT wOFFSET_FETCH wFIND_COORDINATOR wJOIN_GROUP wHEARTBEAT wLEAVE_GROUP wSYNC_GROUP wAPI_VERSIONS wINIT_PRODUCER_ID wADD_PARTITIONS_TO_TXN wADD_OFFSETS_TO_TXN wEND_TXN wTXN_OFFSET_COMMIT k_VALUES) = (.ref wLIST_OFFSETS))] at hQ212
          obtain ⟨rfl, N212q, e212⟩ := hQ212
          have N212 := Fr.app N201 N212q
          obtain ⟨T214, X214, e214, st214⟩ := getF X212 hx hZ hown (host := "") (Or.inl (hw _ (List.mem_of_getElem? (i := 43) rfl))) Via.refl e212 (FLIST_OFFSETS_key.ext EX201) (g := (mkF m 42 #[.val (.int p0), .val (.int p1), .val (.int i200), .val (.ref wLIST_OFFSETS), .val (.ref wLIST_OFFSETS)] [(.ref wLIST_OFFSETS)])) rfl rfl (hb hby at_42)
          obtain ⟨fs, hr, hrun, hended, hW, hsame⟩ := X214.leave (v := some (.int (1 : Int32))) (fun h => by rw [Bd.returns] at h; cases h)
          refine ⟨_, _, k213 _ ?_, hrun, hended, _, _, rfl, ?_, ⟨_, rfl⟩, hW, hsame.mono (by decide) (by decide)⟩
          · show Steps p.tables e below (T201.setTop (mkF m 24 #[.val (.int p0), .val (.int p1), .val (.int i200), .val (.ref wLIST_OFFSETS), .unset] [(.int i200)])) _
            refine st212 _ ?_
            show Steps p.tables e below (T212.setTop (mkF m 27 #[.val (.int p0), .val (.int p1), .val (.int i200), .val (.ref wLIST_OFFSETS), .unset] [(.ref wLIST_OFFSETS)])) _
            refine XS.astore X212.here hx rfl (hb hby at_27) rfl rfl (l' := #[.val (.int p0), .val (.int p1), .val (.int i200), .val (.ref wLIST_OFFSETS), .val (.ref wLIST_OFFSETS)]) rfl ?_
            show Steps p.tables e below (T212.setTop (mkF m 29 #[.val (.int p0), .val (.int p1), .val (.int i200), .val (.ref wLIST_OFFSETS), .val (.ref wLIST_OFFSETS)] [])) _
            refine XS.aloadN X212.here hx rfl (hb hby at_29) rfl rfl ?_
            show Steps p.tables e below (T212.setTop (mkF m 30 #[.val (.int p0), .val (.int p1), .val (.int i200), .val (.ref wLIST_OFFSETS), .val (.ref wLIST_OFFSETS)] [(.ref wLIST_OFFSETS)])) _
            refine XS.aload X212.here hx rfl (hb hby at_30) rfl rfl ?_
            show Steps p.tables e below (T212.setTop (mkF m 32 #[.val (.int p0), .val (.int p1), .val (.int i200), .val (.ref wLIST_OFFSETS), .val (.ref wLIST_OFFSETS)] [(.ref wLIST_OFFSETS), (.ref wLIST_OFFSETS)])) _
            refine Jvm.RoadKit.acmp (g := (mkF m 32 #[.val (.int p0), .val (.int p1), .val (.int i200), .val (.ref wLIST_OFFSETS), .val (.ref wLIST_OFFSETS)] [(.ref wLIST_OFFSETS), (.ref wLIST_OFFSETS)])) X212 hx rfl rfl rfl (pc0 := 32) (pc' := 37) (same := true) rfl (hb hby at_32) rfl (decide_eq_true (congrArg Value.ref (rfl : wLIST_OFFSETS = wLIST_OFFSETS))) (by decide) (by decide) ?_
            show Steps p.tables e below (T212.setTop (mkF m 37 #[.val (.int p0), .val (.int p1), .val (.int i200), .val (.ref wLIST_OFFSETS), .val (.ref wLIST_OFFSETS)] [])) _
            refine XS.aloadN X212.here hx rfl (hb hby at_37) rfl rfl ?_
            show Steps p.tables e below (T212.setTop (mkF m 38 #[.val (.int p0), .val (.int p1), .val (.int i200), .val (.ref wLIST_OFFSETS), .val (.ref wLIST_OFFSETS)] [(.ref wLIST_OFFSETS)])) _
            refine XS.ifnullNo X212.here hx rfl (hb hby at_38) rfl ?_
            show Steps p.tables e below (T212.setTop (mkF m 41 #[.val (.int p0), .val (.int p1), .val (.int i200), .val (.ref wLIST_OFFSETS), .val (.ref wLIST_OFFSETS)] [])) _
            refine XS.aloadN X212.here hx rfl (hb hby at_41) rfl rfl ?_
            show Steps p.tables e below (T212.setTop (mkF m 42 #[.val (.int p0), .val (.int p1), .val (.int i200), .val (.ref wLIST_OFFSETS), .val (.ref wLIST_OFFSETS)] [(.ref wLIST_OFFSETS)])) _
            refine st214 _ ?_
            show Steps p.tables e below (T214.setTop (mkF m 45 #[.val (.int p0), .val (.int p1), .val (.int i200), .val (.ref wLIST_OFFSETS), .val (.ref wLIST_OFFSETS)] [(.int (2 : Int32))])) _
            refine XS.iloadN X214.here hx rfl (hb hby at_45) rfl ?_
            show Steps p.tables e below (T214.setTop (mkF m 46 #[.val (.int p0), .val (.int p1), .val (.int i200), .val (.ref wLIST_OFFSETS), .val (.ref wLIST_OFFSETS)] [(.int i200), (.int (2 : Int32))])) _
            refine XS.icmpNo X214.here hx rfl (hb hby at_46) rfl (teq (hc211 : (2 : Int32) = i200)).2 ?_
            show Steps p.tables e below (T214.setTop (mkF m 49 #[.val (.int p0), .val (.int p1), .val (.int i200), .val (.ref wLIST_OFFSETS), .val (.ref wLIST_OFFSETS)] [])) _
            refine XS.iconst X214.here hx rfl (hb hby at_49) ?_
            show Steps p.tables e below (T214.setTop (mkF m 50 #[.val (.int p0), .val (.int p1), .val (.int i200), .val (.ref wLIST_OFFSETS), .val (.ref wLIST_OFFSETS)] [(.int (1 : Int32))])) _
            refine XS.goto X214.here hx rfl (pc0 := 50) (pc' := 54) rfl (hb hby at_50) (by decide) (by decide) ?_
            show Steps p.tables e below (T214.setTop (mkF m 54 #[.val (.int p0), .val (.int p1), .val (.int i200), .val (.ref wLIST_OFFSETS), .val (.ref wLIST_OFFSETS)] [(.int (1 : Int32))])) _
            exact retN X214 hx (t := .boolean) Bd.returns (by simp) (hb hby at_54) hr
          · show Q0 Z p0 p1 w_VALUES wPRODUCE wFETCH wLIST_OFFSETS wMETADATA wOFFSET_COMMIT wOFFSET_FETCH wFIND_COORDINATOR wJOIN_GROUP wHEARTBEAT wLEAVE_GROUP wSYNC_GROUP wAPI_VERSIONS wINIT_PRODUCER_ID wADD_PARTITIONS_TO_TXN wADD_OFFSETS_TO_TXN wEND_TXN wTXN_OFFSET_COMMIT k_VALUES h0 n0 _ T214.heap _
            rw [e214]
            exact ⟨rfl, N212⟩
        · by_cases hc215 : (3 : Int32) = i200
          · rw [((by rw [f2, if_neg (hc203 : ¬ ((0 : Int32) = i200)), if_neg (hc207 : ¬ ((1 : Int32) = i200)), if_neg (hc211 : ¬ ((2 : Int32) = i200)), if_pos (hc215 : (3 : Int32) = i200)]) : (f2 i200 w_VALUES wPRODUCE wFETCH wLIST_OFFSETS wMETADATA wOFFSET_COMMIT wOFFSET_FETCH wFIND_COORDINATOR wJOIN_GROUP wHEARTBEAT wLEAVE_GROUP wSYNC_GROUP wAPI_VERSIONS wINIT_PRODUCER_ID wADD_PARTITIONS_TO_TXN wADD_OFFSETS_TO_TXN wEND_TXN wTXN_OFFSET_COMMIT k_VALUES) = (.ref wMETADATA))] at hQ201
            obtain ⟨rfl, N201q, E201⟩ := hQ201
            have N201 := Fr.app N0 N201q
            have EX201 : Ext h0 T201.heap := E201
            obtain ⟨_, _, ⟨T216, L216, k216, n216⟩, -, X216, ⟨Lc216, hQ216, l216, y216, z216⟩, st216⟩ := Jvm.LawKit.callS X201 hx (y := (⟨"com/example/idem_log/idemlog/protocol/ApiForKeyPinLaw", "expected", "(I)Lcom/example/idem_log/idemlog/protocol/Api;"⟩ : MethodName)) hown (mvT hZ (hw _ (List.mem_of_getElem? (i := 38) rfl))) (mvT hZ (hw _ (List.mem_of_getElem? (i := 39) rfl))) (mvT hZ (hw _ (List.mem_of_getElem? (i := 40) rfl))) (mvT hZ (hw _ (List.mem_of_getElem? (i := 41) rfl))) (by decide) (backOf (W := 0) (rm3 l Z a0 hw [] i200 w_VALUES wPRODUCE wFETCH wLIST_OFFSETS wMETADATA wOFFSET_COMMIT wOFFSET_FETCH wFIND_COORDINATOR wJOIN_GROUP wHEARTBEAT wLEAVE_GROUP wSYNC_GROUP wAPI_VERSIONS wINIT_PRODUCER_ID wADD_PARTITIONS_TO_TXN wADD_OFFSETS_TO_TXN wEND_TXN wTXN_OFFSET_COMMIT k_VALUES T201.heap n0 (Nat.le_trans Z0 EX201.1) (W0.ext EX201) ) hZ (hw _ (List.mem_of_getElem? (i := 41) rfl)) (hw _ (List.mem_of_getElem? (i := 40) rfl)) (by decide) (by decide)) (g := (mkF m 24 #[.val (.int p0), .val (.int p1), .val (.int i200), .val (.ref wMETADATA), .unset] [(.int i200)])) rfl (by rw [hml]; rfl) (argsL := [(.int i200)]) (rest := []) (lenOf pd_2 rfl) rfl (by show 2 * 0 + _ ≤ _; exact Nat.le_of_eq rfl) (hb hby at_24) (fun _ _ => ⟨rfl, rfl, (by decide : 1 + 0 ≤ _), (by decide : 17 + 0 ≤ _)⟩)
            dsimp only [Pt.U, Pt.locs, Pt.cells, Pt.slots] at X216 l216 y216 z216 st216 hQ216
            subst l216 y216 z216
            unfold Q3 at hQ216
            have k217 : ∀ t, Steps p.tables e below (T201.setTop (mkF m 24 #[.val (.int p0), .val (.int p1), .val (.int i200), .val (.ref wMETADATA), .unset] [(.int i200)])) t → Steps p.tables e below (s₁.setTop (entryFrame m #[(.int p0), (.int p1)] maxLocals)) t := fun t kt => k202 t (by
              show Steps p.tables e below (s₁.setTop (mkF m 19 #[.val (.int p0), .val (.int p1), .val (.int i200), .unset, .unset] [(.int i200)])) _
              refine st201 _ ?_
              show Steps p.tables e below (T201.setTop (mkF m 22 #[.val (.int p0), .val (.int p1), .val (.int i200), .unset, .unset] [(.ref wMETADATA)])) _
              refine XS.astoreN X201.here hx rfl (hb hby at_22) rfl rfl (l' := #[.val (.int p0), .val (.int p1), .val (.int i200), .val (.ref wMETADATA), .unset]) rfl ?_
              show Steps p.tables e below (T201.setTop (mkF m 23 #[.val (.int p0), .val (.int p1), .val (.int i200), .val (.ref wMETADATA), .unset] [])) _
              refine XS.iloadN X201.here hx rfl (hb hby at_23) rfl ?_
              exact kt)
            rw [((by rw [f3, if_neg ((Ne.symm hc203) : ¬ (i200 = (0 : Int32))), if_neg ((Ne.symm hc207) : ¬ (i200 = (1 : Int32))), if_neg ((Ne.symm hc211) : ¬ (i200 = (2 : Int32))), if_pos ((Eq.symm hc215) : i200 = (3 : Int32))]) : (f3 i200 w_VALUES wPRODUCE wFETCH wLIST_OFFSETS wMETADATA wOFFSET_COMMIT wOFFSET_FETCH wFIND_COORDINATOR wJOIN_GROUP wHEARTBEAT wLEAVE_GROUP wSYNC_GROUP wAPI_VERSIONS wINIT_PRODUCER_ID wADD_PARTITIONS_TO_TXN wADD_OFFSETS_TO_TXN wEND_TXN wTXN_OFFSET_COMMIT k_VALUES) = (.ref wMETADATA))] at hQ216
            obtain ⟨rfl, N216q, e216⟩ := hQ216
            have N216 := Fr.app N201 N216q
            obtain ⟨T218, X218, e218, st218⟩ := getF X216 hx hZ hown (host := "") (Or.inl (hw _ (List.mem_of_getElem? (i := 43) rfl))) Via.refl e216 (FMETADATA_key.ext EX201) (g := (mkF m 42 #[.val (.int p0), .val (.int p1), .val (.int i200), .val (.ref wMETADATA), .val (.ref wMETADATA)] [(.ref wMETADATA)])) rfl rfl (hb hby at_42)
            obtain ⟨fs, hr, hrun, hended, hW, hsame⟩ := X218.leave (v := some (.int (1 : Int32))) (fun h => by rw [Bd.returns] at h; cases h)
            refine ⟨_, _, k217 _ ?_, hrun, hended, _, _, rfl, ?_, ⟨_, rfl⟩, hW, hsame.mono (by decide) (by decide)⟩
            · show Steps p.tables e below (T201.setTop (mkF m 24 #[.val (.int p0), .val (.int p1), .val (.int i200), .val (.ref wMETADATA), .unset] [(.int i200)])) _
              refine st216 _ ?_
              show Steps p.tables e below (T216.setTop (mkF m 27 #[.val (.int p0), .val (.int p1), .val (.int i200), .val (.ref wMETADATA), .unset] [(.ref wMETADATA)])) _
              refine XS.astore X216.here hx rfl (hb hby at_27) rfl rfl (l' := #[.val (.int p0), .val (.int p1), .val (.int i200), .val (.ref wMETADATA), .val (.ref wMETADATA)]) rfl ?_
              show Steps p.tables e below (T216.setTop (mkF m 29 #[.val (.int p0), .val (.int p1), .val (.int i200), .val (.ref wMETADATA), .val (.ref wMETADATA)] [])) _
              refine XS.aloadN X216.here hx rfl (hb hby at_29) rfl rfl ?_
              show Steps p.tables e below (T216.setTop (mkF m 30 #[.val (.int p0), .val (.int p1), .val (.int i200), .val (.ref wMETADATA), .val (.ref wMETADATA)] [(.ref wMETADATA)])) _
              refine XS.aload X216.here hx rfl (hb hby at_30) rfl rfl ?_
              show Steps p.tables e below (T216.setTop (mkF m 32 #[.val (.int p0), .val (.int p1), .val (.int i200), .val (.ref wMETADATA), .val (.ref wMETADATA)] [(.ref wMETADATA), (.ref wMETADATA)])) _
              refine Jvm.RoadKit.acmp (g := (mkF m 32 #[.val (.int p0), .val (.int p1), .val (.int i200), .val (.ref wMETADATA), .val (.ref wMETADATA)] [(.ref wMETADATA), (.ref wMETADATA)])) X216 hx rfl rfl rfl (pc0 := 32) (pc' := 37) (same := true) rfl (hb hby at_32) rfl (decide_eq_true (congrArg Value.ref (rfl : wMETADATA = wMETADATA))) (by decide) (by decide) ?_
              show Steps p.tables e below (T216.setTop (mkF m 37 #[.val (.int p0), .val (.int p1), .val (.int i200), .val (.ref wMETADATA), .val (.ref wMETADATA)] [])) _
              refine XS.aloadN X216.here hx rfl (hb hby at_37) rfl rfl ?_
              show Steps p.tables e below (T216.setTop (mkF m 38 #[.val (.int p0), .val (.int p1), .val (.int i200), .val (.ref wMETADATA), .val (.ref wMETADATA)] [(.ref wMETADATA)])) _
              refine XS.ifnullNo X216.here hx rfl (hb hby at_38) rfl ?_
              show Steps p.tables e below (T216.setTop (mkF m 41 #[.val (.int p0), .val (.int p1), .val (.int i200), .val (.ref wMETADATA), .val (.ref wMETADATA)] [])) _
              refine XS.aloadN X216.here hx rfl (hb hby at_41) rfl rfl ?_
              show Steps p.tables e below (T216.setTop (mkF m 42 #[.val (.int p0), .val (.int p1), .val (.int i200), .val (.ref wMETADATA), .val (.ref wMETADATA)] [(.ref wMETADATA)])) _
              refine st218 _ ?_
              show Steps p.tables e below (T218.setTop (mkF m 45 #[.val (.int p0), .val (.int p1), .val (.int i200), .val (.ref wMETADATA), .val (.ref wMETADATA)] [(.int (3 : Int32))])) _
              refine XS.iloadN X218.here hx rfl (hb hby at_45) rfl ?_
              show Steps p.tables e below (T218.setTop (mkF m 46 #[.val (.int p0), .val (.int p1), .val (.int i200), .val (.ref wMETADATA), .val (.ref wMETADATA)] [(.int i200), (.int (3 : Int32))])) _
              refine XS.icmpNo X218.here hx rfl (hb hby at_46) rfl (teq (hc215 : (3 : Int32) = i200)).2 ?_
              show Steps p.tables e below (T218.setTop (mkF m 49 #[.val (.int p0), .val (.int p1), .val (.int i200), .val (.ref wMETADATA), .val (.ref wMETADATA)] [])) _
              refine XS.iconst X218.here hx rfl (hb hby at_49) ?_
              show Steps p.tables e below (T218.setTop (mkF m 50 #[.val (.int p0), .val (.int p1), .val (.int i200), .val (.ref wMETADATA), .val (.ref wMETADATA)] [(.int (1 : Int32))])) _
              refine XS.goto X218.here hx rfl (pc0 := 50) (pc' := 54) rfl (hb hby at_50) (by decide) (by decide) ?_
              show Steps p.tables e below (T218.setTop (mkF m 54 #[.val (.int p0), .val (.int p1), .val (.int i200), .val (.ref wMETADATA), .val (.ref wMETADATA)] [(.int (1 : Int32))])) _
              exact retN X218 hx (t := .boolean) Bd.returns (by simp) (hb hby at_54) hr
            · show Q0 Z p0 p1 w_VALUES wPRODUCE wFETCH wLIST_OFFSETS wMETADATA wOFFSET_COMMIT wOFFSET_FETCH wFIND_COORDINATOR wJOIN_GROUP wHEARTBEAT wLEAVE_GROUP wSYNC_GROUP wAPI_VERSIONS wINIT_PRODUCER_ID wADD_PARTITIONS_TO_TXN wADD_OFFSETS_TO_TXN wEND_TXN wTXN_OFFSET_COMMIT k_VALUES h0 n0 _ T218.heap _
              rw [e218]
              exact ⟨rfl, N216⟩
          · by_cases hc219 : (8 : Int32) = i200
            · rw [((by rw [f2, if_neg (hc203 : ¬ ((0 : Int32) = i200)), if_neg (hc207 : ¬ ((1 : Int32) = i200)), if_neg (hc211 : ¬ ((2 : Int32) = i200)), if_neg (hc215 : ¬ ((3 : Int32) = i200)), if_pos (hc219 : (8 : Int32) = i200)]) : (f2 i200 w_VALUES wPRODUCE wFETCH wLIST_OFFSETS wMETADATA wOFFSET_COMMIT wOFFSET_FETCH wFIND_COORDINATOR wJOIN_GROUP wHEARTBEAT wLEAVE_GROUP wSYNC_GROUP wAPI_VERSIONS wINIT_PRODUCER_ID wADD_PARTITIONS_TO_TXN wADD_OFFSETS_TO_TXN wEND_TXN wTXN_OFFSET_COMMIT k_VALUES) = (.ref wOFFSET_COMMIT))] at hQ201
              obtain ⟨rfl, N201q, E201⟩ := hQ201
              have N201 := Fr.app N0 N201q
              have EX201 : Ext h0 T201.heap := E201
              obtain ⟨_, _, ⟨T220, L220, k220, n220⟩, -, X220, ⟨Lc220, hQ220, l220, y220, z220⟩, st220⟩ := Jvm.LawKit.callS X201 hx (y := (⟨"com/example/idem_log/idemlog/protocol/ApiForKeyPinLaw", "expected", "(I)Lcom/example/idem_log/idemlog/protocol/Api;"⟩ : MethodName)) hown (mvT hZ (hw _ (List.mem_of_getElem? (i := 38) rfl))) (mvT hZ (hw _ (List.mem_of_getElem? (i := 39) rfl))) (mvT hZ (hw _ (List.mem_of_getElem? (i := 40) rfl))) (mvT hZ (hw _ (List.mem_of_getElem? (i := 41) rfl))) (by decide) (backOf (W := 0) (rm3 l Z a0 hw [] i200 w_VALUES wPRODUCE wFETCH wLIST_OFFSETS wMETADATA wOFFSET_COMMIT wOFFSET_FETCH wFIND_COORDINATOR wJOIN_GROUP wHEARTBEAT wLEAVE_GROUP wSYNC_GROUP wAPI_VERSIONS wINIT_PRODUCER_ID wADD_PARTITIONS_TO_TXN wADD_OFFSETS_TO_TXN wEND_TXN wTXN_OFFSET_COMMIT k_VALUES T201.heap n0 (Nat.le_trans Z0 EX201.1) (W0.ext EX201) ) hZ (hw _ (List.mem_of_getElem? (i := 41) rfl)) (hw _ (List.mem_of_getElem? (i := 40) rfl)) (by decide) (by decide)) (g := (mkF m 24 #[.val (.int p0), .val (.int p1), .val (.int i200), .val (.ref wOFFSET_COMMIT), .unset] [(.int i200)])) rfl (by rw [hml]; rfl) (argsL := [(.int i200)]) (rest := []) (lenOf pd_2 rfl) rfl (by show 2 * 0 + _ ≤ _; exact Nat.le_of_eq rfl) (hb hby at_24) (fun _ _ => ⟨rfl, rfl, (by decide : 1 + 0 ≤ _), (by decide : 17 + 0 ≤ _)⟩)
              dsimp only [Pt.U, Pt.locs, Pt.cells, Pt.slots] at X220 l220 y220 z220 st220 hQ220
              subst l220 y220 z220
              unfold Q3 at hQ220
              have k221 : ∀ t, Steps p.tables e below (T201.setTop (mkF m 24 #[.val (.int p0), .val (.int p1), .val (.int i200), .val (.ref wOFFSET_COMMIT), .unset] [(.int i200)])) t → Steps p.tables e below (s₁.setTop (entryFrame m #[(.int p0), (.int p1)] maxLocals)) t := fun t kt => k202 t (by
                show Steps p.tables e below (s₁.setTop (mkF m 19 #[.val (.int p0), .val (.int p1), .val (.int i200), .unset, .unset] [(.int i200)])) _
                refine st201 _ ?_
                show Steps p.tables e below (T201.setTop (mkF m 22 #[.val (.int p0), .val (.int p1), .val (.int i200), .unset, .unset] [(.ref wOFFSET_COMMIT)])) _
                refine XS.astoreN X201.here hx rfl (hb hby at_22) rfl rfl (l' := #[.val (.int p0), .val (.int p1), .val (.int i200), .val (.ref wOFFSET_COMMIT), .unset]) rfl ?_
                show Steps p.tables e below (T201.setTop (mkF m 23 #[.val (.int p0), .val (.int p1), .val (.int i200), .val (.ref wOFFSET_COMMIT), .unset] [])) _
                refine XS.iloadN X201.here hx rfl (hb hby at_23) rfl ?_
                exact kt)
              rw [((by rw [f3, if_neg ((Ne.symm hc203) : ¬ (i200 = (0 : Int32))), if_neg ((Ne.symm hc207) : ¬ (i200 = (1 : Int32))), if_neg ((Ne.symm hc211) : ¬ (i200 = (2 : Int32))), if_neg ((Ne.symm hc215) : ¬ (i200 = (3 : Int32))), if_pos ((Eq.symm hc219) : i200 = (8 : Int32))]) : (f3 i200 w_VALUES wPRODUCE wFETCH wLIST_OFFSETS wMETADATA wOFFSET_COMMIT wOFFSET_FETCH wFIND_COORDINATOR wJOIN_GROUP wHEARTBEAT wLEAVE_GROUP wSYNC_GROUP wAPI_VERSIONS wINIT_PRODUCER_ID wADD_PARTITIONS_TO_TXN wADD_OFFSETS_TO_TXN wEND_TXN wTXN_OFFSET_COMMIT k_VALUES) = (.ref wOFFSET_COMMIT))] at hQ220
              obtain ⟨rfl, N220q, e220⟩ := hQ220
              have N220 := Fr.app N201 N220q
              obtain ⟨T222, X222, e222, st222⟩ := getF X220 hx hZ hown (host := "") (Or.inl (hw _ (List.mem_of_getElem? (i := 43) rfl))) Via.refl e220 (FOFFSET_COMMIT_key.ext EX201) (g := (mkF m 42 #[.val (.int p0), .val (.int p1), .val (.int i200), .val (.ref wOFFSET_COMMIT), .val (.ref wOFFSET_COMMIT)] [(.ref wOFFSET_COMMIT)])) rfl rfl (hb hby at_42)
              obtain ⟨fs, hr, hrun, hended, hW, hsame⟩ := X222.leave (v := some (.int (1 : Int32))) (fun h => by rw [Bd.returns] at h; cases h)
              refine ⟨_, _, k221 _ ?_, hrun, hended, _, _, rfl, ?_, ⟨_, rfl⟩, hW, hsame.mono (by decide) (by decide)⟩
              · show Steps p.tables e below (T201.setTop (mkF m 24 #[.val (.int p0), .val (.int p1), .val (.int i200), .val (.ref wOFFSET_COMMIT), .unset] [(.int i200)])) _
                refine st220 _ ?_
                show Steps p.tables e below (T220.setTop (mkF m 27 #[.val (.int p0), .val (.int p1), .val (.int i200), .val (.ref wOFFSET_COMMIT), .unset] [(.ref wOFFSET_COMMIT)])) _
                refine XS.astore X220.here hx rfl (hb hby at_27) rfl rfl (l' := #[.val (.int p0), .val (.int p1), .val (.int i200), .val (.ref wOFFSET_COMMIT), .val (.ref wOFFSET_COMMIT)]) rfl ?_
                show Steps p.tables e below (T220.setTop (mkF m 29 #[.val (.int p0), .val (.int p1), .val (.int i200), .val (.ref wOFFSET_COMMIT), .val (.ref wOFFSET_COMMIT)] [])) _
                refine XS.aloadN X220.here hx rfl (hb hby at_29) rfl rfl ?_
                show Steps p.tables e below (T220.setTop (mkF m 30 #[.val (.int p0), .val (.int p1), .val (.int i200), .val (.ref wOFFSET_COMMIT), .val (.ref wOFFSET_COMMIT)] [(.ref wOFFSET_COMMIT)])) _
                refine XS.aload X220.here hx rfl (hb hby at_30) rfl rfl ?_
                show Steps p.tables e below (T220.setTop (mkF m 32 #[.val (.int p0), .val (.int p1), .val (.int i200), .val (.ref wOFFSET_COMMIT), .val (.ref wOFFSET_COMMIT)] [(.ref wOFFSET_COMMIT), (.ref wOFFSET_COMMIT)])) _
                refine Jvm.RoadKit.acmp (g := (mkF m 32 #[.val (.int p0), .val (.int p1), .val (.int i200), .val (.ref wOFFSET_COMMIT), .val (.ref wOFFSET_COMMIT)] [(.ref wOFFSET_COMMIT), (.ref wOFFSET_COMMIT)])) X220 hx rfl rfl rfl (pc0 := 32) (pc' := 37) (same := true) rfl (hb hby at_32) rfl (decide_eq_true (congrArg Value.ref (rfl : wOFFSET_COMMIT = wOFFSET_COMMIT))) (by decide) (by decide) ?_
                show Steps p.tables e below (T220.setTop (mkF m 37 #[.val (.int p0), .val (.int p1), .val (.int i200), .val (.ref wOFFSET_COMMIT), .val (.ref wOFFSET_COMMIT)] [])) _
                refine XS.aloadN X220.here hx rfl (hb hby at_37) rfl rfl ?_
                show Steps p.tables e below (T220.setTop (mkF m 38 #[.val (.int p0), .val (.int p1), .val (.int i200), .val (.ref wOFFSET_COMMIT), .val (.ref wOFFSET_COMMIT)] [(.ref wOFFSET_COMMIT)])) _
                refine XS.ifnullNo X220.here hx rfl (hb hby at_38) rfl ?_
                show Steps p.tables e below (T220.setTop (mkF m 41 #[.val (.int p0), .val (.int p1), .val (.int i200), .val (.ref wOFFSET_COMMIT), .val (.ref wOFFSET_COMMIT)] [])) _
                refine XS.aloadN X220.here hx rfl (hb hby at_41) rfl rfl ?_
                show Steps p.tables e below (T220.setTop (mkF m 42 #[.val (.int p0), .val (.int p1), .val (.int i200), .val (.ref wOFFSET_COMMIT), .val (.ref wOFFSET_COMMIT)] [(.ref wOFFSET_COMMIT)])) _
                refine st222 _ ?_
                show Steps p.tables e below (T222.setTop (mkF m 45 #[.val (.int p0), .val (.int p1), .val (.int i200), .val (.ref wOFFSET_COMMIT), .val (.ref wOFFSET_COMMIT)] [(.int (8 : Int32))])) _
                refine XS.iloadN X222.here hx rfl (hb hby at_45) rfl ?_
                show Steps p.tables e below (T222.setTop (mkF m 46 #[.val (.int p0), .val (.int p1), .val (.int i200), .val (.ref wOFFSET_COMMIT), .val (.ref wOFFSET_COMMIT)] [(.int i200), (.int (8 : Int32))])) _
                refine XS.icmpNo X222.here hx rfl (hb hby at_46) rfl (teq (hc219 : (8 : Int32) = i200)).2 ?_
                show Steps p.tables e below (T222.setTop (mkF m 49 #[.val (.int p0), .val (.int p1), .val (.int i200), .val (.ref wOFFSET_COMMIT), .val (.ref wOFFSET_COMMIT)] [])) _
                refine XS.iconst X222.here hx rfl (hb hby at_49) ?_
                show Steps p.tables e below (T222.setTop (mkF m 50 #[.val (.int p0), .val (.int p1), .val (.int i200), .val (.ref wOFFSET_COMMIT), .val (.ref wOFFSET_COMMIT)] [(.int (1 : Int32))])) _
                refine XS.goto X222.here hx rfl (pc0 := 50) (pc' := 54) rfl (hb hby at_50) (by decide) (by decide) ?_
                show Steps p.tables e below (T222.setTop (mkF m 54 #[.val (.int p0), .val (.int p1), .val (.int i200), .val (.ref wOFFSET_COMMIT), .val (.ref wOFFSET_COMMIT)] [(.int (1 : Int32))])) _
                exact retN X222 hx (t := .boolean) Bd.returns (by simp) (hb hby at_54) hr
              · show Q0 Z p0 p1 w_VALUES wPRODUCE wFETCH wLIST_OFFSETS wMETADATA wOFFSET_COMMIT wOFFSET_FETCH wFIND_COORDINATOR wJOIN_GROUP wHEARTBEAT wLEAVE_GROUP wSYNC_GROUP wAPI_VERSIONS wINIT_PRODUCER_ID wADD_PARTITIONS_TO_TXN wADD_OFFSETS_TO_TXN wEND_TXN wTXN_OFFSET_COMMIT k_VALUES h0 n0 _ T222.heap _
                rw [e222]
                exact ⟨rfl, N220⟩
            · by_cases hc223 : (9 : Int32) = i200
              · rw [((by rw [f2, if_neg (hc203 : ¬ ((0 : Int32) = i200)), if_neg (hc207 : ¬ ((1 : Int32) = i200)), if_neg (hc211 : ¬ ((2 : Int32) = i200)), if_neg (hc215 : ¬ ((3 : Int32) = i200)), if_neg (hc219 : ¬ ((8 : Int32) = i200)), if_pos (hc223 : (9 : Int32) = i200)]) : (f2 i200 w_VALUES wPRODUCE wFETCH wLIST_OFFSETS wMETADATA wOFFSET_COMMIT wOFFSET_FETCH wFIND_COORDINATOR wJOIN_GROUP wHEARTBEAT wLEAVE_GROUP wSYNC_GROUP wAPI_VERSIONS wINIT_PRODUCER_ID wADD_PARTITIONS_TO_TXN wADD_OFFSETS_TO_TXN wEND_TXN wTXN_OFFSET_COMMIT k_VALUES) = (.ref wOFFSET_FETCH))] at hQ201
                obtain ⟨rfl, N201q, E201⟩ := hQ201
                have N201 := Fr.app N0 N201q
                have EX201 : Ext h0 T201.heap := E201
                obtain ⟨_, _, ⟨T224, L224, k224, n224⟩, -, X224, ⟨Lc224, hQ224, l224, y224, z224⟩, st224⟩ := Jvm.LawKit.callS X201 hx (y := (⟨"com/example/idem_log/idemlog/protocol/ApiForKeyPinLaw", "expected", "(I)Lcom/example/idem_log/idemlog/protocol/Api;"⟩ : MethodName)) hown (mvT hZ (hw _ (List.mem_of_getElem? (i := 38) rfl))) (mvT hZ (hw _ (List.mem_of_getElem? (i := 39) rfl))) (mvT hZ (hw _ (List.mem_of_getElem? (i := 40) rfl))) (mvT hZ (hw _ (List.mem_of_getElem? (i := 41) rfl))) (by decide) (backOf (W := 0) (rm3 l Z a0 hw [] i200 w_VALUES wPRODUCE wFETCH wLIST_OFFSETS wMETADATA wOFFSET_COMMIT wOFFSET_FETCH wFIND_COORDINATOR wJOIN_GROUP wHEARTBEAT wLEAVE_GROUP wSYNC_GROUP wAPI_VERSIONS wINIT_PRODUCER_ID wADD_PARTITIONS_TO_TXN wADD_OFFSETS_TO_TXN wEND_TXN wTXN_OFFSET_COMMIT k_VALUES T201.heap n0 (Nat.le_trans Z0 EX201.1) (W0.ext EX201) ) hZ (hw _ (List.mem_of_getElem? (i := 41) rfl)) (hw _ (List.mem_of_getElem? (i := 40) rfl)) (by decide) (by decide)) (g := (mkF m 24 #[.val (.int p0), .val (.int p1), .val (.int i200), .val (.ref wOFFSET_FETCH), .unset] [(.int i200)])) rfl (by rw [hml]; rfl) (argsL := [(.int i200)]) (rest := []) (lenOf pd_2 rfl) rfl (by show 2 * 0 + _ ≤ _; exact Nat.le_of_eq rfl) (hb hby at_24) (fun _ _ => ⟨rfl, rfl, (by decide : 1 + 0 ≤ _), (by decide : 17 + 0 ≤ _)⟩)
                dsimp only [Pt.U, Pt.locs, Pt.cells, Pt.slots] at X224 l224 y224 z224 st224 hQ224
                subst l224 y224 z224
                unfold Q3 at hQ224
                have k225 : ∀ t, Steps p.tables e below (T201.setTop (mkF m 24 #[.val (.int p0), .val (.int p1), .val (.int i200), .val (.ref wOFFSET_FETCH), .unset] [(.int i200)])) t → Steps p.tables e below (s₁.setTop (entryFrame m #[(.int p0), (.int p1)] maxLocals)) t := fun t kt => k202 t (by
                  show Steps p.tables e below (s₁.setTop (mkF m 19 #[.val (.int p0), .val (.int p1), .val (.int i200), .unset, .unset] [(.int i200)])) _
                  refine st201 _ ?_
                  show Steps p.tables e below (T201.setTop (mkF m 22 #[.val (.int p0), .val (.int p1), .val (.int i200), .unset, .unset] [(.ref wOFFSET_FETCH)])) _
                  refine XS.astoreN X201.here hx rfl (hb hby at_22) rfl rfl (l' := #[.val (.int p0), .val (.int p1), .val (.int i200), .val (.ref wOFFSET_FETCH), .unset]) rfl ?_
                  show Steps p.tables e below (T201.setTop (mkF m 23 #[.val (.int p0), .val (.int p1), .val (.int i200), .val (.ref wOFFSET_FETCH), .unset] [])) _
                  refine XS.iloadN X201.here hx rfl (hb hby at_23) rfl ?_
                  exact kt)
                rw [((by rw [f3, if_neg ((Ne.symm hc203) : ¬ (i200 = (0 : Int32))), if_neg ((Ne.symm hc207) : ¬ (i200 = (1 : Int32))), if_neg ((Ne.symm hc211) : ¬ (i200 = (2 : Int32))), if_neg ((Ne.symm hc215) : ¬ (i200 = (3 : Int32))), if_neg ((Ne.symm hc219) : ¬ (i200 = (8 : Int32))), if_pos ((Eq.symm hc223) : i200 = (9 : Int32))]) : (f3 i200 w_VALUES wPRODUCE wFETCH wLIST_OFFSETS wMETADATA wOFFSET_COMMIT wOFFSET_FETCH wFIND_COORDINATOR wJOIN_GROUP wHEARTBEAT wLEAVE_GROUP wSYNC_GROUP wAPI_VERSIONS wINIT_PRODUCER_ID wADD_PARTITIONS_TO_TXN wADD_OFFSETS_TO_TXN wEND_TXN wTXN_OFFSET_COMMIT k_VALUES) = (.ref wOFFSET_FETCH))] at hQ224
                obtain ⟨rfl, N224q, e224⟩ := hQ224
                have N224 := Fr.app N201 N224q
                obtain ⟨T226, X226, e226, st226⟩ := getF X224 hx hZ hown (host := "") (Or.inl (hw _ (List.mem_of_getElem? (i := 43) rfl))) Via.refl e224 (FOFFSET_FETCH_key.ext EX201) (g := (mkF m 42 #[.val (.int p0), .val (.int p1), .val (.int i200), .val (.ref wOFFSET_FETCH), .val (.ref wOFFSET_FETCH)] [(.ref wOFFSET_FETCH)])) rfl rfl (hb hby at_42)
                obtain ⟨fs, hr, hrun, hended, hW, hsame⟩ := X226.leave (v := some (.int (1 : Int32))) (fun h => by rw [Bd.returns] at h; cases h)
                refine ⟨_, _, k225 _ ?_, hrun, hended, _, _, rfl, ?_, ⟨_, rfl⟩, hW, hsame.mono (by decide) (by decide)⟩
                · show Steps p.tables e below (T201.setTop (mkF m 24 #[.val (.int p0), .val (.int p1), .val (.int i200), .val (.ref wOFFSET_FETCH), .unset] [(.int i200)])) _
                  refine st224 _ ?_
                  show Steps p.tables e below (T224.setTop (mkF m 27 #[.val (.int p0), .val (.int p1), .val (.int i200), .val (.ref wOFFSET_FETCH), .unset] [(.ref wOFFSET_FETCH)])) _
                  refine XS.astore X224.here hx rfl (hb hby at_27) rfl rfl (l' := #[.val (.int p0), .val (.int p1), .val (.int i200), .val (.ref wOFFSET_FETCH), .val (.ref wOFFSET_FETCH)]) rfl ?_
                  show Steps p.tables e below (T224.setTop (mkF m 29 #[.val (.int p0), .val (.int p1), .val (.int i200), .val (.ref wOFFSET_FETCH), .val (.ref wOFFSET_FETCH)] [])) _
                  refine XS.aloadN X224.here hx rfl (hb hby at_29) rfl rfl ?_
                  show Steps p.tables e below (T224.setTop (mkF m 30 #[.val (.int p0), .val (.int p1), .val (.int i200), .val (.ref wOFFSET_FETCH), .val (.ref wOFFSET_FETCH)] [(.ref wOFFSET_FETCH)])) _
                  refine XS.aload X224.here hx rfl (hb hby at_30) rfl rfl ?_
                  show Steps p.tables e below (T224.setTop (mkF m 32 #[.val (.int p0), .val (.int p1), .val (.int i200), .val (.ref wOFFSET_FETCH), .val (.ref wOFFSET_FETCH)] [(.ref wOFFSET_FETCH), (.ref wOFFSET_FETCH)])) _
                  refine Jvm.RoadKit.acmp (g := (mkF m 32 #[.val (.int p0), .val (.int p1), .val (.int i200), .val (.ref wOFFSET_FETCH), .val (.ref wOFFSET_FETCH)] [(.ref wOFFSET_FETCH), (.ref wOFFSET_FETCH)])) X224 hx rfl rfl rfl (pc0 := 32) (pc' := 37) (same := true) rfl (hb hby at_32) rfl (decide_eq_true (congrArg Value.ref (rfl : wOFFSET_FETCH = wOFFSET_FETCH))) (by decide) (by decide) ?_
                  show Steps p.tables e below (T224.setTop (mkF m 37 #[.val (.int p0), .val (.int p1), .val (.int i200), .val (.ref wOFFSET_FETCH), .val (.ref wOFFSET_FETCH)] [])) _
                  refine XS.aloadN X224.here hx rfl (hb hby at_37) rfl rfl ?_
                  show Steps p.tables e below (T224.setTop (mkF m 38 #[.val (.int p0), .val (.int p1), .val (.int i200), .val (.ref wOFFSET_FETCH), .val (.ref wOFFSET_FETCH)] [(.ref wOFFSET_FETCH)])) _
                  refine XS.ifnullNo X224.here hx rfl (hb hby at_38) rfl ?_
                  show Steps p.tables e below (T224.setTop (mkF m 41 #[.val (.int p0), .val (.int p1), .val (.int i200), .val (.ref wOFFSET_FETCH), .val (.ref wOFFSET_FETCH)] [])) _
                  refine XS.aloadN X224.here hx rfl (hb hby at_41) rfl rfl ?_
                  show Steps p.tables e below (T224.setTop (mkF m 42 #[.val (.int p0), .val (.int p1), .val (.int i200), .val (.ref wOFFSET_FETCH), .val (.ref wOFFSET_FETCH)] [(.ref wOFFSET_FETCH)])) _
                  refine st226 _ ?_
                  show Steps p.tables e below (T226.setTop (mkF m 45 #[.val (.int p0), .val (.int p1), .val (.int i200), .val (.ref wOFFSET_FETCH), .val (.ref wOFFSET_FETCH)] [(.int (9 : Int32))])) _
                  refine XS.iloadN X226.here hx rfl (hb hby at_45) rfl ?_
                  show Steps p.tables e below (T226.setTop (mkF m 46 #[.val (.int p0), .val (.int p1), .val (.int i200), .val (.ref wOFFSET_FETCH), .val (.ref wOFFSET_FETCH)] [(.int i200), (.int (9 : Int32))])) _
                  refine XS.icmpNo X226.here hx rfl (hb hby at_46) rfl (teq (hc223 : (9 : Int32) = i200)).2 ?_
                  show Steps p.tables e below (T226.setTop (mkF m 49 #[.val (.int p0), .val (.int p1), .val (.int i200), .val (.ref wOFFSET_FETCH), .val (.ref wOFFSET_FETCH)] [])) _
                  refine XS.iconst X226.here hx rfl (hb hby at_49) ?_
                  show Steps p.tables e below (T226.setTop (mkF m 50 #[.val (.int p0), .val (.int p1), .val (.int i200), .val (.ref wOFFSET_FETCH), .val (.ref wOFFSET_FETCH)] [(.int (1 : Int32))])) _
                  refine XS.goto X226.here hx rfl (pc0 := 50) (pc' := 54) rfl (hb hby at_50) (by decide) (by decide) ?_
                  show Steps p.tables e below (T226.setTop (mkF m 54 #[.val (.int p0), .val (.int p1), .val (.int i200), .val (.ref wOFFSET_FETCH), .val (.ref wOFFSET_FETCH)] [(.int (1 : Int32))])) _
                  exact retN X226 hx (t := .boolean) Bd.returns (by simp) (hb hby at_54) hr
                · show Q0 Z p0 p1 w_VALUES wPRODUCE wFETCH wLIST_OFFSETS wMETADATA wOFFSET_COMMIT wOFFSET_FETCH wFIND_COORDINATOR wJOIN_GROUP wHEARTBEAT wLEAVE_GROUP wSYNC_GROUP wAPI_VERSIONS wINIT_PRODUCER_ID wADD_PARTITIONS_TO_TXN wADD_OFFSETS_TO_TXN wEND_TXN wTXN_OFFSET_COMMIT k_VALUES h0 n0 _ T226.heap _
                  rw [e226]
                  exact ⟨rfl, N224⟩
              · by_cases hc227 : (10 : Int32) = i200
                · rw [((by rw [f2, if_neg (hc203 : ¬ ((0 : Int32) = i200)), if_neg (hc207 : ¬ ((1 : Int32) = i200)), if_neg (hc211 : ¬ ((2 : Int32) = i200)), if_neg (hc215 : ¬ ((3 : Int32) = i200)), if_neg (hc219 : ¬ ((8 : Int32) = i200)), if_neg (hc223 : ¬ ((9 : Int32) = i200)), if_pos (hc227 : (10 : Int32) = i200)]) : (f2 i200 w_VALUES wPRODUCE wFETCH wLIST_OFFSETS wMETADATA wOFFSET_COMMIT wOFFSET_FETCH wFIND_COORDINATOR wJOIN_GROUP wHEARTBEAT wLEAVE_GROUP wSYNC_GROUP wAPI_VERSIONS wINIT_PRODUCER_ID wADD_PARTITIONS_TO_TXN wADD_OFFSETS_TO_TXN wEND_TXN wTXN_OFFSET_COMMIT k_VALUES) = (.ref wFIND_COORDINATOR))] at hQ201
                  obtain ⟨rfl, N201q, E201⟩ := hQ201
                  have N201 := Fr.app N0 N201q
                  have EX201 : Ext h0 T201.heap := E201
                  obtain ⟨_, _, ⟨T228, L228, k228, n228⟩, -, X228, ⟨Lc228, hQ228, l228, y228, z228⟩, st228⟩ := Jvm.LawKit.callS X201 hx (y := (⟨"com/example/idem_log/idemlog/protocol/ApiForKeyPinLaw", "expected", "(I)Lcom/example/idem_log/idemlog/protocol/Api;"⟩ : MethodName)) hown (mvT hZ (hw _ (List.mem_of_getElem? (i := 38) rfl))) (mvT hZ (hw _ (List.mem_of_getElem? (i := 39) rfl))) (mvT hZ (hw _ (List.mem_of_getElem? (i := 40) rfl))) (mvT hZ (hw _ (List.mem_of_getElem? (i := 41) rfl))) (by decide) (backOf (W := 0) (rm3 l Z a0 hw [] i200 w_VALUES wPRODUCE wFETCH wLIST_OFFSETS wMETADATA wOFFSET_COMMIT wOFFSET_FETCH wFIND_COORDINATOR wJOIN_GROUP wHEARTBEAT wLEAVE_GROUP wSYNC_GROUP wAPI_VERSIONS wINIT_PRODUCER_ID wADD_PARTITIONS_TO_TXN wADD_OFFSETS_TO_TXN wEND_TXN wTXN_OFFSET_COMMIT k_VALUES T201.heap n0 (Nat.le_trans Z0 EX201.1) (W0.ext EX201) ) hZ (hw _ (List.mem_of_getElem? (i := 41) rfl)) (hw _ (List.mem_of_getElem? (i := 40) rfl)) (by decide) (by decide)) (g := (mkF m 24 #[.val (.int p0), .val (.int p1), .val (.int i200), .val (.ref wFIND_COORDINATOR), .unset] [(.int i200)])) rfl (by rw [hml]; rfl) (argsL := [(.int i200)]) (rest := []) (lenOf pd_2 rfl) rfl (by show 2 * 0 + _ ≤ _; exact Nat.le_of_eq rfl) (hb hby at_24) (fun _ _ => ⟨rfl, rfl, (by decide : 1 + 0 ≤ _), (by decide : 17 + 0 ≤ _)⟩)
                  dsimp only [Pt.U, Pt.locs, Pt.cells, Pt.slots] at X228 l228 y228 z228 st228 hQ228
                  subst l228 y228 z228
                  unfold Q3 at hQ228
                  have k229 : ∀ t, Steps p.tables e below (T201.setTop (mkF m 24 #[.val (.int p0), .val (.int p1), .val (.int i200), .val (.ref wFIND_COORDINATOR), .unset] [(.int i200)])) t → Steps p.tables e below (s₁.setTop (entryFrame m #[(.int p0), (.int p1)] maxLocals)) t := fun t kt => k202 t (by
                    show Steps p.tables e below (s₁.setTop (mkF m 19 #[.val (.int p0), .val (.int p1), .val (.int i200), .unset, .unset] [(.int i200)])) _
                    refine st201 _ ?_
                    show Steps p.tables e below (T201.setTop (mkF m 22 #[.val (.int p0), .val (.int p1), .val (.int i200), .unset, .unset] [(.ref wFIND_COORDINATOR)])) _
                    refine XS.astoreN X201.here hx rfl (hb hby at_22) rfl rfl (l' := #[.val (.int p0), .val (.int p1), .val (.int i200), .val (.ref wFIND_COORDINATOR), .unset]) rfl ?_
                    show Steps p.tables e below (T201.setTop (mkF m 23 #[.val (.int p0), .val (.int p1), .val (.int i200), .val (.ref wFIND_COORDINATOR), .unset] [])) _
                    refine XS.iloadN X201.here hx rfl (hb hby at_23) rfl ?_
                    exact kt)
                  rw [((by rw [f3, if_neg ((Ne.symm hc203) : ¬ (i200 = (0 : Int32))), if_neg ((Ne.symm hc207) : ¬ (i200 = (1 : Int32))), if_neg ((Ne.symm hc211) : ¬ (i200 = (2 : Int32))), if_neg ((Ne.symm hc215) : ¬ (i200 = (3 : Int32))), if_neg ((Ne.symm hc219) : ¬ (i200 = (8 : Int32))), if_neg ((Ne.symm hc223) : ¬ (i200 = (9 : Int32))), if_pos ((Eq.symm hc227) : i200 = (10 : Int32))]) : (f3 i200 w_VALUES wPRODUCE wFETCH wLIST_OFFSETS wMETADATA wOFFSET_COMMIT wOFFSET_FETCH wFIND_COORDINATOR wJOIN_GROUP wHEARTBEAT wLEAVE_GROUP wSYNC_GROUP wAPI_VERSIONS wINIT_PRODUCER_ID wADD_PARTITIONS_TO_TXN wADD_OFFSETS_TO_TXN wEND_TXN wTXN_OFFSET_COMMIT k_VALUES) = (.ref wFIND_COORDINATOR))] at hQ228
                  obtain ⟨rfl, N228q, e228⟩ := hQ228
                  have N228 := Fr.app N201 N228q
                  obtain ⟨T230, X230, e230, st230⟩ := getF X228 hx hZ hown (host := "") (Or.inl (hw _ (List.mem_of_getElem? (i := 43) rfl))) Via.refl e228 (FFIND_COORDINATOR_key.ext EX201) (g := (mkF m 42 #[.val (.int p0), .val (.int p1), .val (.int i200), .val (.ref wFIND_COORDINATOR), .val (.ref wFIND_COORDINATOR)] [(.ref wFIND_COORDINATOR)])) rfl rfl (hb hby at_42)
                  obtain ⟨fs, hr, hrun, hended, hW, hsame⟩ := X230.leave (v := some (.int (1 : Int32))) (fun h => by rw [Bd.returns] at h; cases h)
                  refine ⟨_, _, k229 _ ?_, hrun, hended, _, _, rfl, ?_, ⟨_, rfl⟩, hW, hsame.mono (by decide) (by decide)⟩
                  · show Steps p.tables e below (T201.setTop (mkF m 24 #[.val (.int p0), .val (.int p1), .val (.int i200), .val (.ref wFIND_COORDINATOR), .unset] [(.int i200)])) _
                    refine st228 _ ?_
                    show Steps p.tables e below (T228.setTop (mkF m 27 #[.val (.int p0), .val (.int p1), .val (.int i200), .val (.ref wFIND_COORDINATOR), .unset] [(.ref wFIND_COORDINATOR)])) _
                    refine XS.astore X228.here hx rfl (hb hby at_27) rfl rfl (l' := #[.val (.int p0), .val (.int p1), .val (.int i200), .val (.ref wFIND_COORDINATOR), .val (.ref wFIND_COORDINATOR)]) rfl ?_
                    show Steps p.tables e below (T228.setTop (mkF m 29 #[.val (.int p0), .val (.int p1), .val (.int i200), .val (.ref wFIND_COORDINATOR), .val (.ref wFIND_COORDINATOR)] [])) _
                    refine XS.aloadN X228.here hx rfl (hb hby at_29) rfl rfl ?_
                    show Steps p.tables e below (T228.setTop (mkF m 30 #[.val (.int p0), .val (.int p1), .val (.int i200), .val (.ref wFIND_COORDINATOR), .val (.ref wFIND_COORDINATOR)] [(.ref wFIND_COORDINATOR)])) _
                    refine XS.aload X228.here hx rfl (hb hby at_30) rfl rfl ?_
                    show Steps p.tables e below (T228.setTop (mkF m 32 #[.val (.int p0), .val (.int p1), .val (.int i200), .val (.ref wFIND_COORDINATOR), .val (.ref wFIND_COORDINATOR)] [(.ref wFIND_COORDINATOR), (.ref wFIND_COORDINATOR)])) _
                    refine Jvm.RoadKit.acmp (g := (mkF m 32 #[.val (.int p0), .val (.int p1), .val (.int i200), .val (.ref wFIND_COORDINATOR), .val (.ref wFIND_COORDINATOR)] [(.ref wFIND_COORDINATOR), (.ref wFIND_COORDINATOR)])) X228 hx rfl rfl rfl (pc0 := 32) (pc' := 37) (same := true) rfl (hb hby at_32) rfl (decide_eq_true (congrArg Value.ref (rfl : wFIND_COORDINATOR = wFIND_COORDINATOR))) (by decide) (by decide) ?_
                    show Steps p.tables e below (T228.setTop (mkF m 37 #[.val (.int p0), .val (.int p1), .val (.int i200), .val (.ref wFIND_COORDINATOR), .val (.ref wFIND_COORDINATOR)] [])) _
                    refine XS.aloadN X228.here hx rfl (hb hby at_37) rfl rfl ?_
                    show Steps p.tables e below (T228.setTop (mkF m 38 #[.val (.int p0), .val (.int p1), .val (.int i200), .val (.ref wFIND_COORDINATOR), .val (.ref wFIND_COORDINATOR)] [(.ref wFIND_COORDINATOR)])) _
                    refine XS.ifnullNo X228.here hx rfl (hb hby at_38) rfl ?_
                    show Steps p.tables e below (T228.setTop (mkF m 41 #[.val (.int p0), .val (.int p1), .val (.int i200), .val (.ref wFIND_COORDINATOR), .val (.ref wFIND_COORDINATOR)] [])) _
                    refine XS.aloadN X228.here hx rfl (hb hby at_41) rfl rfl ?_
                    show Steps p.tables e below (T228.setTop (mkF m 42 #[.val (.int p0), .val (.int p1), .val (.int i200), .val (.ref wFIND_COORDINATOR), .val (.ref wFIND_COORDINATOR)] [(.ref wFIND_COORDINATOR)])) _
                    refine st230 _ ?_
                    show Steps p.tables e below (T230.setTop (mkF m 45 #[.val (.int p0), .val (.int p1), .val (.int i200), .val (.ref wFIND_COORDINATOR), .val (.ref wFIND_COORDINATOR)] [(.int (10 : Int32))])) _
                    refine XS.iloadN X230.here hx rfl (hb hby at_45) rfl ?_
                    show Steps p.tables e below (T230.setTop (mkF m 46 #[.val (.int p0), .val (.int p1), .val (.int i200), .val (.ref wFIND_COORDINATOR), .val (.ref wFIND_COORDINATOR)] [(.int i200), (.int (10 : Int32))])) _
                    refine XS.icmpNo X230.here hx rfl (hb hby at_46) rfl (teq (hc227 : (10 : Int32) = i200)).2 ?_
                    show Steps p.tables e below (T230.setTop (mkF m 49 #[.val (.int p0), .val (.int p1), .val (.int i200), .val (.ref wFIND_COORDINATOR), .val (.ref wFIND_COORDINATOR)] [])) _
                    refine XS.iconst X230.here hx rfl (hb hby at_49) ?_
                    show Steps p.tables e below (T230.setTop (mkF m 50 #[.val (.int p0), .val (.int p1), .val (.int i200), .val (.ref wFIND_COORDINATOR), .val (.ref wFIND_COORDINATOR)] [(.int (1 : Int32))])) _
                    refine XS.goto X230.here hx rfl (pc0 := 50) (pc' := 54) rfl (hb hby at_50) (by decide) (by decide) ?_
                    show Steps p.tables e below (T230.setTop (mkF m 54 #[.val (.int p0), .val (.int p1), .val (.int i200), .val (.ref wFIND_COORDINATOR), .val (.ref wFIND_COORDINATOR)] [(.int (1 : Int32))])) _
                    exact retN X230 hx (t := .boolean) Bd.returns (by simp) (hb hby at_54) hr
                  · show Q0 Z p0 p1 w_VALUES wPRODUCE wFETCH wLIST_OFFSETS wMETADATA wOFFSET_COMMIT wOFFSET_FETCH wFIND_COORDINATOR wJOIN_GROUP wHEARTBEAT wLEAVE_GROUP wSYNC_GROUP wAPI_VERSIONS wINIT_PRODUCER_ID wADD_PARTITIONS_TO_TXN wADD_OFFSETS_TO_TXN wEND_TXN wTXN_OFFSET_COMMIT k_VALUES h0 n0 _ T230.heap _
                    rw [e230]
                    exact ⟨rfl, N228⟩
                · by_cases hc231 : (11 : Int32) = i200
                  · rw [((by rw [f2, if_neg (hc203 : ¬ ((0 : Int32) = i200)), if_neg (hc207 : ¬ ((1 : Int32) = i200)), if_neg (hc211 : ¬ ((2 : Int32) = i200)), if_neg (hc215 : ¬ ((3 : Int32) = i200)), if_neg (hc219 : ¬ ((8 : Int32) = i200)), if_neg (hc223 : ¬ ((9 : Int32) = i200)), if_neg (hc227 : ¬ ((10 : Int32) = i200)), if_pos (hc231 : (11 : Int32) = i200)]) : (f2 i200 w_VALUES wPRODUCE wFETCH wLIST_OFFSETS wMETADATA wOFFSET_COMMIT wOFFSET_FETCH wFIND_COORDINATOR wJOIN_GROUP wHEARTBEAT wLEAVE_GROUP wSYNC_GROUP wAPI_VERSIONS wINIT_PRODUCER_ID wADD_PARTITIONS_TO_TXN wADD_OFFSETS_TO_TXN wEND_TXN wTXN_OFFSET_COMMIT k_VALUES) = (.ref wJOIN_GROUP))] at hQ201
                    obtain ⟨rfl, N201q, E201⟩ := hQ201
                    have N201 := Fr.app N0 N201q
                    have EX201 : Ext h0 T201.heap := E201
                    obtain ⟨_, _, ⟨T232, L232, k232, n232⟩, -, X232, ⟨Lc232, hQ232, l232, y232, z232⟩, st232⟩ := Jvm.LawKit.callS X201 hx (y := (⟨"com/example/idem_log/idemlog/protocol/ApiForKeyPinLaw", "expected", "(I)Lcom/example/idem_log/idemlog/protocol/Api;"⟩ : MethodName)) hown (mvT hZ (hw _ (List.mem_of_getElem? (i := 38) rfl))) (mvT hZ (hw _ (List.mem_of_getElem? (i := 39) rfl))) (mvT hZ (hw _ (List.mem_of_getElem? (i := 40) rfl))) (mvT hZ (hw _ (List.mem_of_getElem? (i := 41) rfl))) (by decide) (backOf (W := 0) (rm3 l Z a0 hw [] i200 w_VALUES wPRODUCE wFETCH wLIST_OFFSETS wMETADATA wOFFSET_COMMIT wOFFSET_FETCH wFIND_COORDINATOR wJOIN_GROUP wHEARTBEAT wLEAVE_GROUP wSYNC_GROUP wAPI_VERSIONS wINIT_PRODUCER_ID wADD_PARTITIONS_TO_TXN wADD_OFFSETS_TO_TXN wEND_TXN wTXN_OFFSET_COMMIT k_VALUES T201.heap n0 (Nat.le_trans Z0 EX201.1) (W0.ext EX201) ) hZ (hw _ (List.mem_of_getElem? (i := 41) rfl)) (hw _ (List.mem_of_getElem? (i := 40) rfl)) (by decide) (by decide)) (g := (mkF m 24 #[.val (.int p0), .val (.int p1), .val (.int i200), .val (.ref wJOIN_GROUP), .unset] [(.int i200)])) rfl (by rw [hml]; rfl) (argsL := [(.int i200)]) (rest := []) (lenOf pd_2 rfl) rfl (by show 2 * 0 + _ ≤ _; exact Nat.le_of_eq rfl) (hb hby at_24) (fun _ _ => ⟨rfl, rfl, (by decide : 1 + 0 ≤ _), (by decide : 17 + 0 ≤ _)⟩)
                    dsimp only [Pt.U, Pt.locs, Pt.cells, Pt.slots] at X232 l232 y232 z232 st232 hQ232
                    subst l232 y232 z232
                    unfold Q3 at hQ232
                    have k233 : ∀ t, Steps p.tables e below (T201.setTop (mkF m 24 #[.val (.int p0), .val (.int p1), .val (.int i200), .val (.ref wJOIN_GROUP), .unset] [(.int i200)])) t → Steps p.tables e below (s₁.setTop (entryFrame m #[(.int p0), (.int p1)] maxLocals)) t := fun t kt => k202 t (by
                      show Steps p.tables e below (s₁.setTop (mkF m 19 #[.val (.int p0), .val (.int p1), .val (.int i200), .unset, .unset] [(.int i200)])) _
                      refine st201 _ ?_
                      show Steps p.tables e below (T201.setTop (mkF m 22 #[.val (.int p0), .val (.int p1), .val (.int i200), .unset, .unset] [(.ref wJOIN_GROUP)])) _
                      refine XS.astoreN X201.here hx rfl (hb hby at_22) rfl rfl (l' := #[.val (.int p0), .val (.int p1), .val (.int i200), .val (.ref wJOIN_GROUP), .unset]) rfl ?_
                      show Steps p.tables e below (T201.setTop (mkF m 23 #[.val (.int p0), .val (.int p1), .val (.int i200), .val (.ref wJOIN_GROUP), .unset] [])) _
                      refine XS.iloadN X201.here hx rfl (hb hby at_23) rfl ?_
                      exact kt)
                    rw [((by rw [f3, if_neg ((Ne.symm hc203) : ¬ (i200 = (0 : Int32))), if_neg ((Ne.symm hc207) : ¬ (i200 = (1 : Int32))), if_neg ((Ne.symm hc211) : ¬ (i200 = (2 : Int32))), if_neg ((Ne.symm hc215) : ¬ (i200 = (3 : Int32))), if_neg ((Ne.symm hc219) : ¬ (i200 = (8 : Int32))), if_neg ((Ne.symm hc223) : ¬ (i200 = (9 : Int32))), if_neg ((Ne.symm hc227) : ¬ (i200 = (10 : Int32))), if_pos ((Eq.symm hc231) : i200 = (11 : Int32))]) : (f3 i200 w_VALUES wPRODUCE wFETCH wLIST_OFFSETS wMETADATA wOFFSET_COMMIT wOFFSET_FETCH wFIND_COORDINATOR wJOIN_GROUP wHEARTBEAT wLEAVE_GROUP wSYNC_GROUP wAPI_VERSIONS wINIT_PRODUCER_ID wADD_PARTITIONS_TO_TXN wADD_OFFSETS_TO_TXN wEND_TXN wTXN_OFFSET_COMMIT k_VALUES) = (.ref wJOIN_GROUP))] at hQ232
                    obtain ⟨rfl, N232q, e232⟩ := hQ232
                    have N232 := Fr.app N201 N232q
                    obtain ⟨T234, X234, e234, st234⟩ := getF X232 hx hZ hown (host := "") (Or.inl (hw _ (List.mem_of_getElem? (i := 43) rfl))) Via.refl e232 (FJOIN_GROUP_key.ext EX201) (g := (mkF m 42 #[.val (.int p0), .val (.int p1), .val (.int i200), .val (.ref wJOIN_GROUP), .val (.ref wJOIN_GROUP)] [(.ref wJOIN_GROUP)])) rfl rfl (hb hby at_42)
                    obtain ⟨fs, hr, hrun, hended, hW, hsame⟩ := X234.leave (v := some (.int (1 : Int32))) (fun h => by rw [Bd.returns] at h; cases h)
                    refine ⟨_, _, k233 _ ?_, hrun, hended, _, _, rfl, ?_, ⟨_, rfl⟩, hW, hsame.mono (by decide) (by decide)⟩
                    · show Steps p.tables e below (T201.setTop (mkF m 24 #[.val (.int p0), .val (.int p1), .val (.int i200), .val (.ref wJOIN_GROUP), .unset] [(.int i200)])) _
                      refine st232 _ ?_
                      show Steps p.tables e below (T232.setTop (mkF m 27 #[.val (.int p0), .val (.int p1), .val (.int i200), .val (.ref wJOIN_GROUP), .unset] [(.ref wJOIN_GROUP)])) _
                      refine XS.astore X232.here hx rfl (hb hby at_27) rfl rfl (l' := #[.val (.int p0), .val (.int p1), .val (.int i200), .val (.ref wJOIN_GROUP), .val (.ref wJOIN_GROUP)]) rfl ?_
                      show Steps p.tables e below (T232.setTop (mkF m 29 #[.val (.int p0), .val (.int p1), .val (.int i200), .val (.ref wJOIN_GROUP), .val (.ref wJOIN_GROUP)] [])) _
                      refine XS.aloadN X232.here hx rfl (hb hby at_29) rfl rfl ?_
                      show Steps p.tables e below (T232.setTop (mkF m 30 #[.val (.int p0), .val (.int p1), .val (.int i200), .val (.ref wJOIN_GROUP), .val (.ref wJOIN_GROUP)] [(.ref wJOIN_GROUP)])) _
                      refine XS.aload X232.here hx rfl (hb hby at_30) rfl rfl ?_
                      show Steps p.tables e below (T232.setTop (mkF m 32 #[.val (.int p0), .val (.int p1), .val (.int i200), .val (.ref wJOIN_GROUP), .val (.ref wJOIN_GROUP)] [(.ref wJOIN_GROUP), (.ref wJOIN_GROUP)])) _
                      refine Jvm.RoadKit.acmp (g := (mkF m 32 #[.val (.int p0), .val (.int p1), .val (.int i200), .val (.ref wJOIN_GROUP), .val (.ref wJOIN_GROUP)] [(.ref wJOIN_GROUP), (.ref wJOIN_GROUP)])) X232 hx rfl rfl rfl (pc0 := 32) (pc' := 37) (same := true) rfl (hb hby at_32) rfl (decide_eq_true (congrArg Value.ref (rfl : wJOIN_GROUP = wJOIN_GROUP))) (by decide) (by decide) ?_
                      show Steps p.tables e below (T232.setTop (mkF m 37 #[.val (.int p0), .val (.int p1), .val (.int i200), .val (.ref wJOIN_GROUP), .val (.ref wJOIN_GROUP)] [])) _
                      refine XS.aloadN X232.here hx rfl (hb hby at_37) rfl rfl ?_
                      show Steps p.tables e below (T232.setTop (mkF m 38 #[.val (.int p0), .val (.int p1), .val (.int i200), .val (.ref wJOIN_GROUP), .val (.ref wJOIN_GROUP)] [(.ref wJOIN_GROUP)])) _
                      refine XS.ifnullNo X232.here hx rfl (hb hby at_38) rfl ?_
                      show Steps p.tables e below (T232.setTop (mkF m 41 #[.val (.int p0), .val (.int p1), .val (.int i200), .val (.ref wJOIN_GROUP), .val (.ref wJOIN_GROUP)] [])) _
                      refine XS.aloadN X232.here hx rfl (hb hby at_41) rfl rfl ?_
                      show Steps p.tables e below (T232.setTop (mkF m 42 #[.val (.int p0), .val (.int p1), .val (.int i200), .val (.ref wJOIN_GROUP), .val (.ref wJOIN_GROUP)] [(.ref wJOIN_GROUP)])) _
                      refine st234 _ ?_
                      show Steps p.tables e below (T234.setTop (mkF m 45 #[.val (.int p0), .val (.int p1), .val (.int i200), .val (.ref wJOIN_GROUP), .val (.ref wJOIN_GROUP)] [(.int (11 : Int32))])) _
                      refine XS.iloadN X234.here hx rfl (hb hby at_45) rfl ?_
                      show Steps p.tables e below (T234.setTop (mkF m 46 #[.val (.int p0), .val (.int p1), .val (.int i200), .val (.ref wJOIN_GROUP), .val (.ref wJOIN_GROUP)] [(.int i200), (.int (11 : Int32))])) _
                      refine XS.icmpNo X234.here hx rfl (hb hby at_46) rfl (teq (hc231 : (11 : Int32) = i200)).2 ?_
                      show Steps p.tables e below (T234.setTop (mkF m 49 #[.val (.int p0), .val (.int p1), .val (.int i200), .val (.ref wJOIN_GROUP), .val (.ref wJOIN_GROUP)] [])) _
                      refine XS.iconst X234.here hx rfl (hb hby at_49) ?_
                      show Steps p.tables e below (T234.setTop (mkF m 50 #[.val (.int p0), .val (.int p1), .val (.int i200), .val (.ref wJOIN_GROUP), .val (.ref wJOIN_GROUP)] [(.int (1 : Int32))])) _
                      refine XS.goto X234.here hx rfl (pc0 := 50) (pc' := 54) rfl (hb hby at_50) (by decide) (by decide) ?_
                      show Steps p.tables e below (T234.setTop (mkF m 54 #[.val (.int p0), .val (.int p1), .val (.int i200), .val (.ref wJOIN_GROUP), .val (.ref wJOIN_GROUP)] [(.int (1 : Int32))])) _
                      exact retN X234 hx (t := .boolean) Bd.returns (by simp) (hb hby at_54) hr
                    · show Q0 Z p0 p1 w_VALUES wPRODUCE wFETCH wLIST_OFFSETS wMETADATA wOFFSET_COMMIT wOFFSET_FETCH wFIND_COORDINATOR wJOIN_GROUP wHEARTBEAT wLEAVE_GROUP wSYNC_GROUP wAPI_VERSIONS wINIT_PRODUCER_ID wADD_PARTITIONS_TO_TXN wADD_OFFSETS_TO_TXN wEND_TXN wTXN_OFFSET_COMMIT k_VALUES h0 n0 _ T234.heap _
                      rw [e234]
                      exact ⟨rfl, N232⟩
                  · by_cases hc235 : (12 : Int32) = i200
                    · rw [((by rw [f2, if_neg (hc203 : ¬ ((0 : Int32) = i200)), if_neg (hc207 : ¬ ((1 : Int32) = i200)), if_neg (hc211 : ¬ ((2 : Int32) = i200)), if_neg (hc215 : ¬ ((3 : Int32) = i200)), if_neg (hc219 : ¬ ((8 : Int32) = i200)), if_neg (hc223 : ¬ ((9 : Int32) = i200)), if_neg (hc227 : ¬ ((10 : Int32) = i200)), if_neg (hc231 : ¬ ((11 : Int32) = i200)), if_pos (hc235 : (12 : Int32) = i200)]) : (f2 i200 w_VALUES wPRODUCE wFETCH wLIST_OFFSETS wMETADATA wOFFSET_COMMIT wOFFSET_FETCH wFIND_COORDINATOR wJOIN_GROUP wHEARTBEAT wLEAVE_GROUP wSYNC_GROUP wAPI_VERSIONS wINIT_PRODUCER_ID wADD_PARTITIONS_TO_TXN wADD_OFFSETS_TO_TXN wEND_TXN wTXN_OFFSET_COMMIT k_VALUES) = (.ref wHEARTBEAT))] at hQ201
                      obtain ⟨rfl, N201q, E201⟩ := hQ201
                      have N201 := Fr.app N0 N201q
                      have EX201 : Ext h0 T201.heap := E201
                      obtain ⟨_, _, ⟨T236, L236, k236, n236⟩, -, X236, ⟨Lc236, hQ236, l236, y236, z236⟩, st236⟩ := Jvm.LawKit.callS X201 hx (y := (⟨"com/example/idem_log/idemlog/protocol/ApiForKeyPinLaw", "expected", "(I)Lcom/example/idem_log/idemlog/protocol/Api;"⟩ : MethodName)) hown (mvT hZ (hw _ (List.mem_of_getElem? (i := 38) rfl))) (mvT hZ (hw _ (List.mem_of_getElem? (i := 39) rfl))) (mvT hZ (hw _ (List.mem_of_getElem? (i := 40) rfl))) (mvT hZ (hw _ (List.mem_of_getElem? (i := 41) rfl))) (by decide) (backOf (W := 0) (rm3 l Z a0 hw [] i200 w_VALUES wPRODUCE wFETCH wLIST_OFFSETS wMETADATA wOFFSET_COMMIT wOFFSET_FETCH wFIND_COORDINATOR wJOIN_GROUP wHEARTBEAT wLEAVE_GROUP wSYNC_GROUP wAPI_VERSIONS wINIT_PRODUCER_ID wADD_PARTITIONS_TO_TXN wADD_OFFSETS_TO_TXN wEND_TXN wTXN_OFFSET_COMMIT k_VALUES T201.heap n0 (Nat.le_trans Z0 EX201.1) (W0.ext EX201) ) hZ (hw _ (List.mem_of_getElem? (i := 41) rfl)) (hw _ (List.mem_of_getElem? (i := 40) rfl)) (by decide) (by decide)) (g := (mkF m 24 #[.val (.int p0), .val (.int p1), .val (.int i200), .val (.ref wHEARTBEAT), .unset] [(.int i200)])) rfl (by rw [hml]; rfl) (argsL := [(.int i200)]) (rest := []) (lenOf pd_2 rfl) rfl (by show 2 * 0 + _ ≤ _; exact Nat.le_of_eq rfl) (hb hby at_24) (fun _ _ => ⟨rfl, rfl, (by decide : 1 + 0 ≤ _), (by decide : 17 + 0 ≤ _)⟩)
                      dsimp only [Pt.U, Pt.locs, Pt.cells, Pt.slots] at X236 l236 y236 z236 st236 hQ236
                      subst l236 y236 z236
                      unfold Q3 at hQ236
                      have k237 : ∀ t, Steps p.tables e below (T201.setTop (mkF m 24 #[.val (.int p0), .val (.int p1), .val (.int i200), .val (.ref wHEARTBEAT), .unset] [(.int i200)])) t → Steps p.tables e below (s₁.setTop (entryFrame m #[(.int p0), (.int p1)] maxLocals)) t := fun t kt => k202 t (by
                        show Steps p.tables e below (s₁.setTop (mkF m 19 #[.val (.int p0), .val (.int p1), .val (.int i200), .unset, .unset] [(.int i200)])) _
                        refine st201 _ ?_
                        show Steps p.tables e below (T201.setTop (mkF m 22 #[.val (.int p0), .val (.int p1), .val (.int i200), .unset, .unset] [(.ref wHEARTBEAT)])) _
                        refine XS.astoreN X201.here hx rfl (hb hby at_22) rfl rfl (l' := #[.val (.int p0), .val (.int p1), .val (.int i200), .val (.ref wHEARTBEAT), .unset]) rfl ?_
                        show Steps p.tables e below (T201.setTop (mkF m 23 #[.val (.int p0), .val (.int p1), .val (.int i200), .val (.ref wHEARTBEAT), .unset] [])) _
                        refine XS.iloadN X201.here hx rfl (hb hby at_23) rfl ?_
                        exact kt)
                      rw [((by rw [f3, if_neg ((Ne.symm hc203) : ¬ (i200 = (0 : Int32))), if_neg ((Ne.symm hc207) : ¬ (i200 = (1 : Int32))), if_neg ((Ne.symm hc211) : ¬ (i200 = (2 : Int32))), if_neg ((Ne.symm hc215) : ¬ (i200 = (3 : Int32))), if_neg ((Ne.symm hc219) : ¬ (i200 = (8 : Int32))), if_neg ((Ne.symm hc223) : ¬ (i200 = (9 : Int32))), if_neg ((Ne.symm hc227) : ¬ (i200 = (10 : Int32))), if_neg ((Ne.symm hc231) : ¬ (i200 = (11 : Int32))), if_pos ((Eq.symm hc235) : i200 = (12 : Int32))]) : (f3 i200 w_VALUES wPRODUCE wFETCH wLIST_OFFSETS wMETADATA wOFFSET_COMMIT wOFFSET_FETCH wFIND_COORDINATOR wJOIN_GROUP wHEARTBEAT wLEAVE_GROUP wSYNC_GROUP wAPI_VERSIONS wINIT_PRODUCER_ID wADD_PARTITIONS_TO_TXN wADD_OFFSETS_TO_TXN wEND_TXN wTXN_OFFSET_COMMIT k_VALUES) = (.ref wHEARTBEAT))] at hQ236
                      obtain ⟨rfl, N236q, e236⟩ := hQ236
                      have N236 := Fr.app N201 N236q
                      obtain ⟨T238, X238, e238, st238⟩ := getF X236 hx hZ hown (host := "") (Or.inl (hw _ (List.mem_of_getElem? (i := 43) rfl))) Via.refl e236 (FHEARTBEAT_key.ext EX201) (g := (mkF m 42 #[.val (.int p0), .val (.int p1), .val (.int i200), .val (.ref wHEARTBEAT), .val (.ref wHEARTBEAT)] [(.ref wHEARTBEAT)])) rfl rfl (hb hby at_42)
                      obtain ⟨fs, hr, hrun, hended, hW, hsame⟩ := X238.leave (v := some (.int (1 : Int32))) (fun h => by rw [Bd.returns] at h; cases h)
                      refine ⟨_, _, k237 _ ?_, hrun, hended, _, _, rfl, ?_, ⟨_, rfl⟩, hW, hsame.mono (by decide) (by decide)⟩
                      · show Steps p.tables e below (T201.setTop (mkF m 24 #[.val (.int p0), .val (.int p1), .val (.int i200), .val (.ref wHEARTBEAT), .unset] [(.int i200)])) _
                        refine st236 _ ?_
                        show Steps p.tables e below (T236.setTop (mkF m 27 #[.val (.int p0), .val (.int p1), .val (.int i200), .val (.ref wHEARTBEAT), .unset] [(.ref wHEARTBEAT)])) _
                        refine XS.astore X236.here hx rfl (hb hby at_27) rfl rfl (l' := #[.val (.int p0), .val (.int p1), .val (.int i200), .val (.ref wHEARTBEAT), .val (.ref wHEARTBEAT)]) rfl ?_
                        show Steps p.tables e below (T236.setTop (mkF m 29 #[.val (.int p0), .val (.int p1), .val (.int i200), .val (.ref wHEARTBEAT), .val (.ref wHEARTBEAT)] [])) _
                        refine XS.aloadN X236.here hx rfl (hb hby at_29) rfl rfl ?_
                        show Steps p.tables e below (T236.setTop (mkF m 30 #[.val (.int p0), .val (.int p1), .val (.int i200), .val (.ref wHEARTBEAT), .val (.ref wHEARTBEAT)] [(.ref wHEARTBEAT)])) _
                        refine XS.aload X236.here hx rfl (hb hby at_30) rfl rfl ?_
                        show Steps p.tables e below (T236.setTop (mkF m 32 #[.val (.int p0), .val (.int p1), .val (.int i200), .val (.ref wHEARTBEAT), .val (.ref wHEARTBEAT)] [(.ref wHEARTBEAT), (.ref wHEARTBEAT)])) _
                        refine Jvm.RoadKit.acmp (g := (mkF m 32 #[.val (.int p0), .val (.int p1), .val (.int i200), .val (.ref wHEARTBEAT), .val (.ref wHEARTBEAT)] [(.ref wHEARTBEAT), (.ref wHEARTBEAT)])) X236 hx rfl rfl rfl (pc0 := 32) (pc' := 37) (same := true) rfl (hb hby at_32) rfl (decide_eq_true (congrArg Value.ref (rfl : wHEARTBEAT = wHEARTBEAT))) (by decide) (by decide) ?_
                        show Steps p.tables e below (T236.setTop (mkF m 37 #[.val (.int p0), .val (.int p1), .val (.int i200), .val (.ref wHEARTBEAT), .val (.ref wHEARTBEAT)] [])) _
                        refine XS.aloadN X236.here hx rfl (hb hby at_37) rfl rfl ?_
                        show Steps p.tables e below (T236.setTop (mkF m 38 #[.val (.int p0), .val (.int p1), .val (.int i200), .val (.ref wHEARTBEAT), .val (.ref wHEARTBEAT)] [(.ref wHEARTBEAT)])) _
                        refine XS.ifnullNo X236.here hx rfl (hb hby at_38) rfl ?_
                        show Steps p.tables e below (T236.setTop (mkF m 41 #[.val (.int p0), .val (.int p1), .val (.int i200), .val (.ref wHEARTBEAT), .val (.ref wHEARTBEAT)] [])) _
                        refine XS.aloadN X236.here hx rfl (hb hby at_41) rfl rfl ?_
                        show Steps p.tables e below (T236.setTop (mkF m 42 #[.val (.int p0), .val (.int p1), .val (.int i200), .val (.ref wHEARTBEAT), .val (.ref wHEARTBEAT)] [(.ref wHEARTBEAT)])) _
                        refine st238 _ ?_
                        show Steps p.tables e below (T238.setTop (mkF m 45 #[.val (.int p0), .val (.int p1), .val (.int i200), .val (.ref wHEARTBEAT), .val (.ref wHEARTBEAT)] [(.int (12 : Int32))])) _
                        refine XS.iloadN X238.here hx rfl (hb hby at_45) rfl ?_
                        show Steps p.tables e below (T238.setTop (mkF m 46 #[.val (.int p0), .val (.int p1), .val (.int i200), .val (.ref wHEARTBEAT), .val (.ref wHEARTBEAT)] [(.int i200), (.int (12 : Int32))])) _
                        refine XS.icmpNo X238.here hx rfl (hb hby at_46) rfl (teq (hc235 : (12 : Int32) = i200)).2 ?_
                        show Steps p.tables e below (T238.setTop (mkF m 49 #[.val (.int p0), .val (.int p1), .val (.int i200), .val (.ref wHEARTBEAT), .val (.ref wHEARTBEAT)] [])) _
                        refine XS.iconst X238.here hx rfl (hb hby at_49) ?_
                        show Steps p.tables e below (T238.setTop (mkF m 50 #[.val (.int p0), .val (.int p1), .val (.int i200), .val (.ref wHEARTBEAT), .val (.ref wHEARTBEAT)] [(.int (1 : Int32))])) _
                        refine XS.goto X238.here hx rfl (pc0 := 50) (pc' := 54) rfl (hb hby at_50) (by decide) (by decide) ?_
                        show Steps p.tables e below (T238.setTop (mkF m 54 #[.val (.int p0), .val (.int p1), .val (.int i200), .val (.ref wHEARTBEAT), .val (.ref wHEARTBEAT)] [(.int (1 : Int32))])) _
                        exact retN X238 hx (t := .boolean) Bd.returns (by simp) (hb hby at_54) hr
                      · show Q0 Z p0 p1 w_VALUES wPRODUCE wFETCH wLIST_OFFSETS wMETADATA wOFFSET_COMMIT wOFFSET_FETCH wFIND_COORDINATOR wJOIN_GROUP wHEARTBEAT wLEAVE_GROUP wSYNC_GROUP wAPI_VERSIONS wINIT_PRODUCER_ID wADD_PARTITIONS_TO_TXN wADD_OFFSETS_TO_TXN wEND_TXN wTXN_OFFSET_COMMIT k_VALUES h0 n0 _ T238.heap _
                        rw [e238]
                        exact ⟨rfl, N236⟩
                    · by_cases hc239 : (13 : Int32) = i200
                      · rw [((by rw [f2, if_neg (hc203 : ¬ ((0 : Int32) = i200)), if_neg (hc207 : ¬ ((1 : Int32) = i200)), if_neg (hc211 : ¬ ((2 : Int32) = i200)), if_neg (hc215 : ¬ ((3 : Int32) = i200)), if_neg (hc219 : ¬ ((8 : Int32) = i200)), if_neg (hc223 : ¬ ((9 : Int32) = i200)), if_neg (hc227 : ¬ ((10 : Int32) = i200)), if_neg (hc231 : ¬ ((11 : Int32) = i200)), if_neg (hc235 : ¬ ((12 : Int32) = i200)), if_pos (hc239 : (13 : Int32) = i200)]) : (f2 i200 w_VALUES wPRODUCE wFETCH wLIST_OFFSETS wMETADATA wOFFSET_COMMIT wOFFSET_FETCH wFIND_COORDINATOR wJOIN_GROUP wHEARTBEAT wLEAVE_GROUP wSYNC_GROUP wAPI_VERSIONS wINIT_PRODUCER_ID wADD_PARTITIONS_TO_TXN wADD_OFFSETS_TO_TXN wEND_TXN wTXN_OFFSET_COMMIT k_VALUES) = (.ref wLEAVE_GROUP))] at hQ201
                        obtain ⟨rfl, N201q, E201⟩ := hQ201
                        have N201 := Fr.app N0 N201q
                        have EX201 : Ext h0 T201.heap := E201
                        obtain ⟨_, _, ⟨T240, L240, k240, n240⟩, -, X240, ⟨Lc240, hQ240, l240, y240, z240⟩, st240⟩ := Jvm.LawKit.callS X201 hx (y := (⟨"com/example/idem_log/idemlog/protocol/ApiForKeyPinLaw", "expected", "(I)Lcom/example/idem_log/idemlog/protocol/Api;"⟩ : MethodName)) hown (mvT hZ (hw _ (List.mem_of_getElem? (i := 38) rfl))) (mvT hZ (hw _ (List.mem_of_getElem? (i := 39) rfl))) (mvT hZ (hw _ (List.mem_of_getElem? (i := 40) rfl))) (mvT hZ (hw _ (List.mem_of_getElem? (i := 41) rfl))) (by decide) (backOf (W := 0) (rm3 l Z a0 hw [] i200 w_VALUES wPRODUCE wFETCH wLIST_OFFSETS wMETADATA wOFFSET_COMMIT wOFFSET_FETCH wFIND_COORDINATOR wJOIN_GROUP wHEARTBEAT wLEAVE_GROUP wSYNC_GROUP wAPI_VERSIONS wINIT_PRODUCER_ID wADD_PARTITIONS_TO_TXN wADD_OFFSETS_TO_TXN wEND_TXN wTXN_OFFSET_COMMIT k_VALUES T201.heap n0 (Nat.le_trans Z0 EX201.1) (W0.ext EX201) ) hZ (hw _ (List.mem_of_getElem? (i := 41) rfl)) (hw _ (List.mem_of_getElem? (i := 40) rfl)) (by decide) (by decide)) (g := (mkF m 24 #[.val (.int p0), .val (.int p1), .val (.int i200), .val (.ref wLEAVE_GROUP), .unset] [(.int i200)])) rfl (by rw [hml]; rfl) (argsL := [(.int i200)]) (rest := []) (lenOf pd_2 rfl) rfl (by show 2 * 0 + _ ≤ _; exact Nat.le_of_eq rfl) (hb hby at_24) (fun _ _ => ⟨rfl, rfl, (by decide : 1 + 0 ≤ _), (by decide : 17 + 0 ≤ _)⟩)
                        dsimp only [Pt.U, Pt.locs, Pt.cells, Pt.slots] at X240 l240 y240 z240 st240 hQ240
                        subst l240 y240 z240
                        unfold Q3 at hQ240
                        have k241 : ∀ t, Steps p.tables e below (T201.setTop (mkF m 24 #[.val (.int p0), .val (.int p1), .val (.int i200), .val (.ref wLEAVE_GROUP), .unset] [(.int i200)])) t → Steps p.tables e below (s₁.setTop (entryFrame m #[(.int p0), (.int p1)] maxLocals)) t := fun t kt => k202 t (by
                          show Steps p.tables e below (s₁.setTop (mkF m 19 #[.val (.int p0), .val (.int p1), .val (.int i200), .unset, .unset] [(.int i200)])) _
                          refine st201 _ ?_
                          show Steps p.tables e below (T201.setTop (mkF m 22 #[.val (.int p0), .val (.int p1), .val (.int i200), .unset, .unset] [(.ref wLEAVE_GROUP)])) _
                          refine XS.astoreN X201.here hx rfl (hb hby at_22) rfl rfl (l' := #[.val (.int p0), .val (.int p1), .val (.int i200), .val (.ref wLEAVE_GROUP), .unset]) rfl ?_
                          show Steps p.tables e below (T201.setTop (mkF m 23 #[.val (.int p0), .val (.int p1), .val (.int i200), .val (.ref wLEAVE_GROUP), .unset] [])) _
                          refine XS.iloadN X201.here hx rfl (hb hby at_23) rfl ?_
                          exact kt)
                        rw [((by rw [f3, if_neg ((Ne.symm hc203) : ¬ (i200 = (0 : Int32))), if_neg ((Ne.symm hc207) : ¬ (i200 = (1 : Int32))), if_neg ((Ne.symm hc211) : ¬ (i200 = (2 : Int32))), if_neg ((Ne.symm hc215) : ¬ (i200 = (3 : Int32))), if_neg ((Ne.symm hc219) : ¬ (i200 = (8 : Int32))), if_neg ((Ne.symm hc223) : ¬ (i200 = (9 : Int32))), if_neg ((Ne.symm hc227) : ¬ (i200 = (10 : Int32))), if_neg ((Ne.symm hc231) : ¬ (i200 = (11 : Int32))), if_neg ((Ne.symm hc235) : ¬ (i200 = (12 : Int32))), if_pos ((Eq.symm hc239) : i200 = (13 : Int32))]) : (f3 i200 w_VALUES wPRODUCE wFETCH wLIST_OFFSETS wMETADATA wOFFSET_COMMIT wOFFSET_FETCH wFIND_COORDINATOR wJOIN_GROUP wHEARTBEAT wLEAVE_GROUP wSYNC_GROUP wAPI_VERSIONS wINIT_PRODUCER_ID wADD_PARTITIONS_TO_TXN wADD_OFFSETS_TO_TXN wEND_TXN wTXN_OFFSET_COMMIT k_VALUES) = (.ref wLEAVE_GROUP))] at hQ240
                        obtain ⟨rfl, N240q, e240⟩ := hQ240
                        have N240 := Fr.app N201 N240q
                        obtain ⟨T242, X242, e242, st242⟩ := getF X240 hx hZ hown (host := "") (Or.inl (hw _ (List.mem_of_getElem? (i := 43) rfl))) Via.refl e240 (FLEAVE_GROUP_key.ext EX201) (g := (mkF m 42 #[.val (.int p0), .val (.int p1), .val (.int i200), .val (.ref wLEAVE_GROUP), .val (.ref wLEAVE_GROUP)] [(.ref wLEAVE_GROUP)])) rfl rfl (hb hby at_42)
                        obtain ⟨fs, hr, hrun, hended, hW, hsame⟩ := X242.leave (v := some (.int (1 : Int32))) (fun h => by rw [Bd.returns] at h; cases h)
                        refine ⟨_, _, k241 _ ?_, hrun, hended, _, _, rfl, ?_, ⟨_, rfl⟩, hW, hsame.mono (by decide) (by decide)⟩
                        · show Steps p.tables e below (T201.setTop (mkF m 24 #[.val (.int p0), .val (.int p1), .val (.int i200), .val (.ref wLEAVE_GROUP), .unset] [(.int i200)])) _
                          refine st240 _ ?_
                          show Steps p.tables e below (T240.setTop (mkF m 27 #[.val (.int p0), .val (.int p1), .val (.int i200), .val (.ref wLEAVE_GROUP), .unset] [(.ref wLEAVE_GROUP)])) _
                          refine XS.astore X240.here hx rfl (hb hby at_27) rfl rfl (l' := #[.val (.int p0), .val (.int p1), .val (.int i200), .val (.ref wLEAVE_GROUP), .val (.ref wLEAVE_GROUP)]) rfl ?_
                          show Steps p.tables e below (T240.setTop (mkF m 29 #[.val (.int p0), .val (.int p1), .val (.int i200), .val (.ref wLEAVE_GROUP), .val (.ref wLEAVE_GROUP)] [])) _
                          refine XS.aloadN X240.here hx rfl (hb hby at_29) rfl rfl ?_
                          show Steps p.tables e below (T240.setTop (mkF m 30 #[.val (.int p0), .val (.int p1), .val (.int i200), .val (.ref wLEAVE_GROUP), .val (.ref wLEAVE_GROUP)] [(.ref wLEAVE_GROUP)])) _
                          refine XS.aload X240.here hx rfl (hb hby at_30) rfl rfl ?_
                          show Steps p.tables e below (T240.setTop (mkF m 32 #[.val (.int p0), .val (.int p1), .val (.int i200), .val (.ref wLEAVE_GROUP), .val (.ref wLEAVE_GROUP)] [(.ref wLEAVE_GROUP), (.ref wLEAVE_GROUP)])) _
                          refine Jvm.RoadKit.acmp (g := (mkF m 32 #[.val (.int p0), .val (.int p1), .val (.int i200), .val (.ref wLEAVE_GROUP), .val (.ref wLEAVE_GROUP)] [(.ref wLEAVE_GROUP), (.ref wLEAVE_GROUP)])) X240 hx rfl rfl rfl (pc0 := 32) (pc' := 37) (same := true) rfl (hb hby at_32) rfl (decide_eq_true (congrArg Value.ref (rfl : wLEAVE_GROUP = wLEAVE_GROUP))) (by decide) (by decide) ?_
                          show Steps p.tables e below (T240.setTop (mkF m 37 #[.val (.int p0), .val (.int p1), .val (.int i200), .val (.ref wLEAVE_GROUP), .val (.ref wLEAVE_GROUP)] [])) _
                          refine XS.aloadN X240.here hx rfl (hb hby at_37) rfl rfl ?_
                          show Steps p.tables e below (T240.setTop (mkF m 38 #[.val (.int p0), .val (.int p1), .val (.int i200), .val (.ref wLEAVE_GROUP), .val (.ref wLEAVE_GROUP)] [(.ref wLEAVE_GROUP)])) _
                          refine XS.ifnullNo X240.here hx rfl (hb hby at_38) rfl ?_
                          show Steps p.tables e below (T240.setTop (mkF m 41 #[.val (.int p0), .val (.int p1), .val (.int i200), .val (.ref wLEAVE_GROUP), .val (.ref wLEAVE_GROUP)] [])) _
                          refine XS.aloadN X240.here hx rfl (hb hby at_41) rfl rfl ?_
                          show Steps p.tables e below (T240.setTop (mkF m 42 #[.val (.int p0), .val (.int p1), .val (.int i200), .val (.ref wLEAVE_GROUP), .val (.ref wLEAVE_GROUP)] [(.ref wLEAVE_GROUP)])) _
                          refine st242 _ ?_
                          show Steps p.tables e below (T242.setTop (mkF m 45 #[.val (.int p0), .val (.int p1), .val (.int i200), .val (.ref wLEAVE_GROUP), .val (.ref wLEAVE_GROUP)] [(.int (13 : Int32))])) _
                          refine XS.iloadN X242.here hx rfl (hb hby at_45) rfl ?_
                          show Steps p.tables e below (T242.setTop (mkF m 46 #[.val (.int p0), .val (.int p1), .val (.int i200), .val (.ref wLEAVE_GROUP), .val (.ref wLEAVE_GROUP)] [(.int i200), (.int (13 : Int32))])) _
                          refine XS.icmpNo X242.here hx rfl (hb hby at_46) rfl (teq (hc239 : (13 : Int32) = i200)).2 ?_
                          show Steps p.tables e below (T242.setTop (mkF m 49 #[.val (.int p0), .val (.int p1), .val (.int i200), .val (.ref wLEAVE_GROUP), .val (.ref wLEAVE_GROUP)] [])) _
                          refine XS.iconst X242.here hx rfl (hb hby at_49) ?_
                          show Steps p.tables e below (T242.setTop (mkF m 50 #[.val (.int p0), .val (.int p1), .val (.int i200), .val (.ref wLEAVE_GROUP), .val (.ref wLEAVE_GROUP)] [(.int (1 : Int32))])) _
                          refine XS.goto X242.here hx rfl (pc0 := 50) (pc' := 54) rfl (hb hby at_50) (by decide) (by decide) ?_
                          show Steps p.tables e below (T242.setTop (mkF m 54 #[.val (.int p0), .val (.int p1), .val (.int i200), .val (.ref wLEAVE_GROUP), .val (.ref wLEAVE_GROUP)] [(.int (1 : Int32))])) _
                          exact retN X242 hx (t := .boolean) Bd.returns (by simp) (hb hby at_54) hr
                        · show Q0 Z p0 p1 w_VALUES wPRODUCE wFETCH wLIST_OFFSETS wMETADATA wOFFSET_COMMIT wOFFSET_FETCH wFIND_COORDINATOR wJOIN_GROUP wHEARTBEAT wLEAVE_GROUP wSYNC_GROUP wAPI_VERSIONS wINIT_PRODUCER_ID wADD_PARTITIONS_TO_TXN wADD_OFFSETS_TO_TXN wEND_TXN wTXN_OFFSET_COMMIT k_VALUES h0 n0 _ T242.heap _
                          rw [e242]
                          exact ⟨rfl, N240⟩
                      · by_cases hc243 : (14 : Int32) = i200
                        · rw [((by rw [f2, if_neg (hc203 : ¬ ((0 : Int32) = i200)), if_neg (hc207 : ¬ ((1 : Int32) = i200)), if_neg (hc211 : ¬ ((2 : Int32) = i200)), if_neg (hc215 : ¬ ((3 : Int32) = i200)), if_neg (hc219 : ¬ ((8 : Int32) = i200)), if_neg (hc223 : ¬ ((9 : Int32) = i200)), if_neg (hc227 : ¬ ((10 : Int32) = i200)), if_neg (hc231 : ¬ ((11 : Int32) = i200)), if_neg (hc235 : ¬ ((12 : Int32) = i200)), if_neg (hc239 : ¬ ((13 : Int32) = i200)), if_pos (hc243 : (14 : Int32) = i200)]) : (f2 i200 w_VALUES wPRODUCE wFETCH wLIST_OFFSETS wMETADATA wOFFSET_COMMIT wOFFSET_FETCH wFIND_COORDINATOR wJOIN_GROUP wHEARTBEAT wLEAVE_GROUP wSYNC_GROUP wAPI_VERSIONS wINIT_PRODUCER_ID wADD_PARTITIONS_TO_TXN wADD_OFFSETS_TO_TXN wEND_TXN wTXN_OFFSET_COMMIT k_VALUES) = (.ref wSYNC_GROUP))] at hQ201
                          obtain ⟨rfl, N201q, E201⟩ := hQ201
                          have N201 := Fr.app N0 N201q
                          have EX201 : Ext h0 T201.heap := E201
                          obtain ⟨_, _, ⟨T244, L244, k244, n244⟩, -, X244, ⟨Lc244, hQ244, l244, y244, z244⟩, st244⟩ := Jvm.LawKit.callS X201 hx (y := (⟨"com/example/idem_log/idemlog/protocol/ApiForKeyPinLaw", "expected", "(I)Lcom/example/idem_log/idemlog/protocol/Api;"⟩ : MethodName)) hown (mvT hZ (hw _ (List.mem_of_getElem? (i := 38) rfl))) (mvT hZ (hw _ (List.mem_of_getElem? (i := 39) rfl))) (mvT hZ (hw _ (List.mem_of_getElem? (i := 40) rfl))) (mvT hZ (hw _ (List.mem_of_getElem? (i := 41) rfl))) (by decide) (backOf (W := 0) (rm3 l Z a0 hw [] i200 w_VALUES wPRODUCE wFETCH wLIST_OFFSETS wMETADATA wOFFSET_COMMIT wOFFSET_FETCH wFIND_COORDINATOR wJOIN_GROUP wHEARTBEAT wLEAVE_GROUP wSYNC_GROUP wAPI_VERSIONS wINIT_PRODUCER_ID wADD_PARTITIONS_TO_TXN wADD_OFFSETS_TO_TXN wEND_TXN wTXN_OFFSET_COMMIT k_VALUES T201.heap n0 (Nat.le_trans Z0 EX201.1) (W0.ext EX201) ) hZ (hw _ (List.mem_of_getElem? (i := 41) rfl)) (hw _ (List.mem_of_getElem? (i := 40) rfl)) (by decide) (by decide)) (g := (mkF m 24 #[.val (.int p0), .val (.int p1), .val (.int i200), .val (.ref wSYNC_GROUP), .unset] [(.int i200)])) rfl (by rw [hml]; rfl) (argsL := [(.int i200)]) (rest := []) (lenOf pd_2 rfl) rfl (by show 2 * 0 + _ ≤ _; exact Nat.le_of_eq rfl) (hb hby at_24) (fun _ _ => ⟨rfl, rfl, (by decide : 1 + 0 ≤ _), (by decide : 17 + 0 ≤ _)⟩)
                          dsimp only [Pt.U, Pt.locs, Pt.cells, Pt.slots] at X244 l244 y244 z244 st244 hQ244
                          subst l244 y244 z244
                          unfold Q3 at hQ244
                          have k245 : ∀ t, Steps p.tables e below (T201.setTop (mkF m 24 #[.val (.int p0), .val (.int p1), .val (.int i200), .val (.ref wSYNC_GROUP), .unset] [(.int i200)])) t → Steps p.tables e below (s₁.setTop (entryFrame m #[(.int p0), (.int p1)] maxLocals)) t := fun t kt => k202 t (by
                            show Steps p.tables e below (s₁.setTop (mkF m 19 #[.val (.int p0), .val (.int p1), .val (.int i200), .unset, .unset] [(.int i200)])) _
                            refine st201 _ ?_
                            show Steps p.tables e below (T201.setTop (mkF m 22 #[.val (.int p0), .val (.int p1), .val (.int i200), .unset, .unset] [(.ref wSYNC_GROUP)])) _
                            refine XS.astoreN X201.here hx rfl (hb hby at_22) rfl rfl (l' := #[.val (.int p0), .val (.int p1), .val (.int i200), .val (.ref wSYNC_GROUP), .unset]) rfl ?_
                            show Steps p.tables e below (T201.setTop (mkF m 23 #[.val (.int p0), .val (.int p1), .val (.int i200), .val (.ref wSYNC_GROUP), .unset] [])) _
                            refine XS.iloadN X201.here hx rfl (hb hby at_23) rfl ?_
                            exact kt)
                          rw [((by rw [f3, if_neg ((Ne.symm hc203) : ¬ (i200 = (0 : Int32))), if_neg ((Ne.symm hc207) : ¬ (i200 = (1 : Int32))), if_neg ((Ne.symm hc211) : ¬ (i200 = (2 : Int32))), if_neg ((Ne.symm hc215) : ¬ (i200 = (3 : Int32))), if_neg ((Ne.symm hc219) : ¬ (i200 = (8 : Int32))), if_neg ((Ne.symm hc223) : ¬ (i200 = (9 : Int32))), if_neg ((Ne.symm hc227) : ¬ (i200 = (10 : Int32))), if_neg ((Ne.symm hc231) : ¬ (i200 = (11 : Int32))), if_neg ((Ne.symm hc235) : ¬ (i200 = (12 : Int32))), if_neg ((Ne.symm hc239) : ¬ (i200 = (13 : Int32))), if_pos ((Eq.symm hc243) : i200 = (14 : Int32))]) : (f3 i200 w_VALUES wPRODUCE wFETCH wLIST_OFFSETS wMETADATA wOFFSET_COMMIT wOFFSET_FETCH wFIND_COORDINATOR wJOIN_GROUP wHEARTBEAT wLEAVE_GROUP wSYNC_GROUP wAPI_VERSIONS wINIT_PRODUCER_ID wADD_PARTITIONS_TO_TXN wADD_OFFSETS_TO_TXN wEND_TXN wTXN_OFFSET_COMMIT k_VALUES) = (.ref wSYNC_GROUP))] at hQ244
                          obtain ⟨rfl, N244q, e244⟩ := hQ244
                          have N244 := Fr.app N201 N244q
                          obtain ⟨T246, X246, e246, st246⟩ := getF X244 hx hZ hown (host := "") (Or.inl (hw _ (List.mem_of_getElem? (i := 43) rfl))) Via.refl e244 (FSYNC_GROUP_key.ext EX201) (g := (mkF m 42 #[.val (.int p0), .val (.int p1), .val (.int i200), .val (.ref wSYNC_GROUP), .val (.ref wSYNC_GROUP)] [(.ref wSYNC_GROUP)])) rfl rfl (hb hby at_42)
                          obtain ⟨fs, hr, hrun, hended, hW, hsame⟩ := X246.leave (v := some (.int (1 : Int32))) (fun h => by rw [Bd.returns] at h; cases h)
                          refine ⟨_, _, k245 _ ?_, hrun, hended, _, _, rfl, ?_, ⟨_, rfl⟩, hW, hsame.mono (by decide) (by decide)⟩
                          · show Steps p.tables e below (T201.setTop (mkF m 24 #[.val (.int p0), .val (.int p1), .val (.int i200), .val (.ref wSYNC_GROUP), .unset] [(.int i200)])) _
                            refine st244 _ ?_
                            show Steps p.tables e below (T244.setTop (mkF m 27 #[.val (.int p0), .val (.int p1), .val (.int i200), .val (.ref wSYNC_GROUP), .unset] [(.ref wSYNC_GROUP)])) _
                            refine XS.astore X244.here hx rfl (hb hby at_27) rfl rfl (l' := #[.val (.int p0), .val (.int p1), .val (.int i200), .val (.ref wSYNC_GROUP), .val (.ref wSYNC_GROUP)]) rfl ?_
                            show Steps p.tables e below (T244.setTop (mkF m 29 #[.val (.int p0), .val (.int p1), .val (.int i200), .val (.ref wSYNC_GROUP), .val (.ref wSYNC_GROUP)] [])) _
                            refine XS.aloadN X244.here hx rfl (hb hby at_29) rfl rfl ?_
                            show Steps p.tables e below (T244.setTop (mkF m 30 #[.val (.int p0), .val (.int p1), .val (.int i200), .val (.ref wSYNC_GROUP), .val (.ref wSYNC_GROUP)] [(.ref wSYNC_GROUP)])) _
                            refine XS.aload X244.here hx rfl (hb hby at_30) rfl rfl ?_
                            show Steps p.tables e below (T244.setTop (mkF m 32 #[.val (.int p0), .val (.int p1), .val (.int i200), .val (.ref wSYNC_GROUP), .val (.ref wSYNC_GROUP)] [(.ref wSYNC_GROUP), (.ref wSYNC_GROUP)])) _
                            refine Jvm.RoadKit.acmp (g := (mkF m 32 #[.val (.int p0), .val (.int p1), .val (.int i200), .val (.ref wSYNC_GROUP), .val (.ref wSYNC_GROUP)] [(.ref wSYNC_GROUP), (.ref wSYNC_GROUP)])) X244 hx rfl rfl rfl (pc0 := 32) (pc' := 37) (same := true) rfl (hb hby at_32) rfl (decide_eq_true (congrArg Value.ref (rfl : wSYNC_GROUP = wSYNC_GROUP))) (by decide) (by decide) ?_
                            show Steps p.tables e below (T244.setTop (mkF m 37 #[.val (.int p0), .val (.int p1), .val (.int i200), .val (.ref wSYNC_GROUP), .val (.ref wSYNC_GROUP)] [])) _
                            refine XS.aloadN X244.here hx rfl (hb hby at_37) rfl rfl ?_
                            show Steps p.tables e below (T244.setTop (mkF m 38 #[.val (.int p0), .val (.int p1), .val (.int i200), .val (.ref wSYNC_GROUP), .val (.ref wSYNC_GROUP)] [(.ref wSYNC_GROUP)])) _
                            refine XS.ifnullNo X244.here hx rfl (hb hby at_38) rfl ?_
                            show Steps p.tables e below (T244.setTop (mkF m 41 #[.val (.int p0), .val (.int p1), .val (.int i200), .val (.ref wSYNC_GROUP), .val (.ref wSYNC_GROUP)] [])) _
                            refine XS.aloadN X244.here hx rfl (hb hby at_41) rfl rfl ?_
                            show Steps p.tables e below (T244.setTop (mkF m 42 #[.val (.int p0), .val (.int p1), .val (.int i200), .val (.ref wSYNC_GROUP), .val (.ref wSYNC_GROUP)] [(.ref wSYNC_GROUP)])) _
                            refine st246 _ ?_
                            show Steps p.tables e below (T246.setTop (mkF m 45 #[.val (.int p0), .val (.int p1), .val (.int i200), .val (.ref wSYNC_GROUP), .val (.ref wSYNC_GROUP)] [(.int (14 : Int32))])) _
                            refine XS.iloadN X246.here hx rfl (hb hby at_45) rfl ?_
                            show Steps p.tables e below (T246.setTop (mkF m 46 #[.val (.int p0), .val (.int p1), .val (.int i200), .val (.ref wSYNC_GROUP), .val (.ref wSYNC_GROUP)] [(.int i200), (.int (14 : Int32))])) _
                            refine XS.icmpNo X246.here hx rfl (hb hby at_46) rfl (teq (hc243 : (14 : Int32) = i200)).2 ?_
                            show Steps p.tables e below (T246.setTop (mkF m 49 #[.val (.int p0), .val (.int p1), .val (.int i200), .val (.ref wSYNC_GROUP), .val (.ref wSYNC_GROUP)] [])) _
                            refine XS.iconst X246.here hx rfl (hb hby at_49) ?_
                            show Steps p.tables e below (T246.setTop (mkF m 50 #[.val (.int p0), .val (.int p1), .val (.int i200), .val (.ref wSYNC_GROUP), .val (.ref wSYNC_GROUP)] [(.int (1 : Int32))])) _
                            refine XS.goto X246.here hx rfl (pc0 := 50) (pc' := 54) rfl (hb hby at_50) (by decide) (by decide) ?_
                            show Steps p.tables e below (T246.setTop (mkF m 54 #[.val (.int p0), .val (.int p1), .val (.int i200), .val (.ref wSYNC_GROUP), .val (.ref wSYNC_GROUP)] [(.int (1 : Int32))])) _
                            exact retN X246 hx (t := .boolean) Bd.returns (by simp) (hb hby at_54) hr
                          · show Q0 Z p0 p1 w_VALUES wPRODUCE wFETCH wLIST_OFFSETS wMETADATA wOFFSET_COMMIT wOFFSET_FETCH wFIND_COORDINATOR wJOIN_GROUP wHEARTBEAT wLEAVE_GROUP wSYNC_GROUP wAPI_VERSIONS wINIT_PRODUCER_ID wADD_PARTITIONS_TO_TXN wADD_OFFSETS_TO_TXN wEND_TXN wTXN_OFFSET_COMMIT k_VALUES h0 n0 _ T246.heap _
                            rw [e246]
                            exact ⟨rfl, N244⟩
                        · by_cases hc247 : (18 : Int32) = i200
                          · rw [((by rw [f2, if_neg (hc203 : ¬ ((0 : Int32) = i200)), if_neg (hc207 : ¬ ((1 : Int32) = i200)), if_neg (hc211 : ¬ ((2 : Int32) = i200)), if_neg (hc215 : ¬ ((3 : Int32) = i200)), if_neg (hc219 : ¬ ((8 : Int32) = i200)), if_neg (hc223 : ¬ ((9 : Int32) = i200)), if_neg (hc227 : ¬ ((10 : Int32) = i200)), if_neg (hc231 : ¬ ((11 : Int32) = i200)), if_neg (hc235 : ¬ ((12 : Int32) = i200)), if_neg (hc239 : ¬ ((13 : Int32) = i200)), if_neg (hc243 : ¬ ((14 : Int32) = i200)), if_pos (hc247 : (18 : Int32) = i200)]) : (f2 i200 w_VALUES wPRODUCE wFETCH wLIST_OFFSETS wMETADATA wOFFSET_COMMIT wOFFSET_FETCH wFIND_COORDINATOR wJOIN_GROUP wHEARTBEAT wLEAVE_GROUP wSYNC_GROUP wAPI_VERSIONS wINIT_PRODUCER_ID wADD_PARTITIONS_TO_TXN wADD_OFFSETS_TO_TXN wEND_TXN wTXN_OFFSET_COMMIT k_VALUES) = (.ref wAPI_VERSIONS))] at hQ201
                            obtain ⟨rfl, N201q, E201⟩ := hQ201
                            have N201 := Fr.app N0 N201q
                            have EX201 : Ext h0 T201.heap := E201
                            obtain ⟨_, _, ⟨T248, L248, k248, n248⟩, -, X248, ⟨Lc248, hQ248, l248, y248, z248⟩, st248⟩ := Jvm.LawKit.callS X201 hx (y := (⟨"com/example/idem_log/idemlog/protocol/ApiForKeyPinLaw", "expected", "(I)Lcom/example/idem_log/idemlog/protocol/Api;"⟩ : MethodName)) hown (mvT hZ (hw _ (List.mem_of_getElem? (i := 38) rfl))) (mvT hZ (hw _ (List.mem_of_getElem? (i := 39) rfl))) (mvT hZ (hw _ (List.mem_of_getElem? (i := 40) rfl))) (mvT hZ (hw _ (List.mem_of_getElem? (i := 41) rfl))) (by decide) (backOf (W := 0) (rm3 l Z a0 hw [] i200 w_VALUES wPRODUCE wFETCH wLIST_OFFSETS wMETADATA wOFFSET_COMMIT wOFFSET_FETCH wFIND_COORDINATOR wJOIN_GROUP wHEARTBEAT wLEAVE_GROUP wSYNC_GROUP wAPI_VERSIONS wINIT_PRODUCER_ID wADD_PARTITIONS_TO_TXN wADD_OFFSETS_TO_TXN wEND_TXN wTXN_OFFSET_COMMIT k_VALUES T201.heap n0 (Nat.le_trans Z0 EX201.1) (W0.ext EX201) ) hZ (hw _ (List.mem_of_getElem? (i := 41) rfl)) (hw _ (List.mem_of_getElem? (i := 40) rfl)) (by decide) (by decide)) (g := (mkF m 24 #[.val (.int p0), .val (.int p1), .val (.int i200), .val (.ref wAPI_VERSIONS), .unset] [(.int i200)])) rfl (by rw [hml]; rfl) (argsL := [(.int i200)]) (rest := []) (lenOf pd_2 rfl) rfl (by show 2 * 0 + _ ≤ _; exact Nat.le_of_eq rfl) (hb hby at_24) (fun _ _ => ⟨rfl, rfl, (by decide : 1 + 0 ≤ _), (by decide : 17 + 0 ≤ _)⟩)
                            dsimp only [Pt.U, Pt.locs, Pt.cells, Pt.slots] at X248 l248 y248 z248 st248 hQ248
                            subst l248 y248 z248
                            unfold Q3 at hQ248
                            have k249 : ∀ t, Steps p.tables e below (T201.setTop (mkF m 24 #[.val (.int p0), .val (.int p1), .val (.int i200), .val (.ref wAPI_VERSIONS), .unset] [(.int i200)])) t → Steps p.tables e below (s₁.setTop (entryFrame m #[(.int p0), (.int p1)] maxLocals)) t := fun t kt => k202 t (by
                              show Steps p.tables e below (s₁.setTop (mkF m 19 #[.val (.int p0), .val (.int p1), .val (.int i200), .unset, .unset] [(.int i200)])) _
                              refine st201 _ ?_
                              show Steps p.tables e below (T201.setTop (mkF m 22 #[.val (.int p0), .val (.int p1), .val (.int i200), .unset, .unset] [(.ref wAPI_VERSIONS)])) _
                              refine XS.astoreN X201.here hx rfl (hb hby at_22) rfl rfl (l' := #[.val (.int p0), .val (.int p1), .val (.int i200), .val (.ref wAPI_VERSIONS), .unset]) rfl ?_
                              show Steps p.tables e below (T201.setTop (mkF m 23 #[.val (.int p0), .val (.int p1), .val (.int i200), .val (.ref wAPI_VERSIONS), .unset] [])) _
                              refine XS.iloadN X201.here hx rfl (hb hby at_23) rfl ?_
                              exact kt)
                            rw [((by rw [f3, if_neg ((Ne.symm hc203) : ¬ (i200 = (0 : Int32))), if_neg ((Ne.symm hc207) : ¬ (i200 = (1 : Int32))), if_neg ((Ne.symm hc211) : ¬ (i200 = (2 : Int32))), if_neg ((Ne.symm hc215) : ¬ (i200 = (3 : Int32))), if_neg ((Ne.symm hc219) : ¬ (i200 = (8 : Int32))), if_neg ((Ne.symm hc223) : ¬ (i200 = (9 : Int32))), if_neg ((Ne.symm hc227) : ¬ (i200 = (10 : Int32))), if_neg ((Ne.symm hc231) : ¬ (i200 = (11 : Int32))), if_neg ((Ne.symm hc235) : ¬ (i200 = (12 : Int32))), if_neg ((Ne.symm hc239) : ¬ (i200 = (13 : Int32))), if_neg ((Ne.symm hc243) : ¬ (i200 = (14 : Int32))), if_pos ((Eq.symm hc247) : i200 = (18 : Int32))]) : (f3 i200 w_VALUES wPRODUCE wFETCH wLIST_OFFSETS wMETADATA wOFFSET_COMMIT wOFFSET_FETCH wFIND_COORDINATOR wJOIN_GROUP wHEARTBEAT wLEAVE_GROUP wSYNC_GROUP wAPI_VERSIONS wINIT_PRODUCER_ID wADD_PARTITIONS_TO_TXN wADD_OFFSETS_TO_TXN wEND_TXN wTXN_OFFSET_COMMIT k_VALUES) = (.ref wAPI_VERSIONS))] at hQ248
                            obtain ⟨rfl, N248q, e248⟩ := hQ248
                            have N248 := Fr.app N201 N248q
                            obtain ⟨T250, X250, e250, st250⟩ := getF X248 hx hZ hown (host := "") (Or.inl (hw _ (List.mem_of_getElem? (i := 43) rfl))) Via.refl e248 (FAPI_VERSIONS_key.ext EX201) (g := (mkF m 42 #[.val (.int p0), .val (.int p1), .val (.int i200), .val (.ref wAPI_VERSIONS), .val (.ref wAPI_VERSIONS)] [(.ref wAPI_VERSIONS)])) rfl rfl (hb hby at_42)
                            obtain ⟨fs, hr, hrun, hended, hW, hsame⟩ := X250.leave (v := some (.int (1 : Int32))) (fun h => by rw [Bd.returns] at h; cases h)
                            refine ⟨_, _, k249 _ ?_, hrun, hended, _, _, rfl, ?_, ⟨_, rfl⟩, hW, hsame.mono (by decide) (by decide)⟩
                            · show Steps p.tables e below (T201.setTop (mkF m 24 #[.val (.int p0), .val (.int p1), .val (.int i200), .val (.ref wAPI_VERSIONS), .unset] [(.int i200)])) _
                              refine st248 _ ?_
                              show Steps p.tables e below (T248.setTop (mkF m 27 #[.val (.int p0), .val (.int p1), .val (.int i200), .val (.ref wAPI_VERSIONS), .unset] [(.ref wAPI_VERSIONS)])) _
                              refine XS.astore X248.here hx rfl (hb hby at_27) rfl rfl (l' := #[.val (.int p0), .val (.int p1), .val (.int i200), .val (.ref wAPI_VERSIONS), .val (.ref wAPI_VERSIONS)]) rfl ?_
                              show Steps p.tables e below (T248.setTop (mkF m 29 #[.val (.int p0), .val (.int p1), .val (.int i200), .val (.ref wAPI_VERSIONS), .val (.ref wAPI_VERSIONS)] [])) _
                              refine XS.aloadN X248.here hx rfl (hb hby at_29) rfl rfl ?_
                              show Steps p.tables e below (T248.setTop (mkF m 30 #[.val (.int p0), .val (.int p1), .val (.int i200), .val (.ref wAPI_VERSIONS), .val (.ref wAPI_VERSIONS)] [(.ref wAPI_VERSIONS)])) _
                              refine XS.aload X248.here hx rfl (hb hby at_30) rfl rfl ?_
                              show Steps p.tables e below (T248.setTop (mkF m 32 #[.val (.int p0), .val (.int p1), .val (.int i200), .val (.ref wAPI_VERSIONS), .val (.ref wAPI_VERSIONS)] [(.ref wAPI_VERSIONS), (.ref wAPI_VERSIONS)])) _
                              refine Jvm.RoadKit.acmp (g := (mkF m 32 #[.val (.int p0), .val (.int p1), .val (.int i200), .val (.ref wAPI_VERSIONS), .val (.ref wAPI_VERSIONS)] [(.ref wAPI_VERSIONS), (.ref wAPI_VERSIONS)])) X248 hx rfl rfl rfl (pc0 := 32) (pc' := 37) (same := true) rfl (hb hby at_32) rfl (decide_eq_true (congrArg Value.ref (rfl : wAPI_VERSIONS = wAPI_VERSIONS))) (by decide) (by decide) ?_
                              show Steps p.tables e below (T248.setTop (mkF m 37 #[.val (.int p0), .val (.int p1), .val (.int i200), .val (.ref wAPI_VERSIONS), .val (.ref wAPI_VERSIONS)] [])) _
                              refine XS.aloadN X248.here hx rfl (hb hby at_37) rfl rfl ?_
                              show Steps p.tables e below (T248.setTop (mkF m 38 #[.val (.int p0), .val (.int p1), .val (.int i200), .val (.ref wAPI_VERSIONS), .val (.ref wAPI_VERSIONS)] [(.ref wAPI_VERSIONS)])) _
                              refine XS.ifnullNo X248.here hx rfl (hb hby at_38) rfl ?_
                              show Steps p.tables e below (T248.setTop (mkF m 41 #[.val (.int p0), .val (.int p1), .val (.int i200), .val (.ref wAPI_VERSIONS), .val (.ref wAPI_VERSIONS)] [])) _
                              refine XS.aloadN X248.here hx rfl (hb hby at_41) rfl rfl ?_
                              show Steps p.tables e below (T248.setTop (mkF m 42 #[.val (.int p0), .val (.int p1), .val (.int i200), .val (.ref wAPI_VERSIONS), .val (.ref wAPI_VERSIONS)] [(.ref wAPI_VERSIONS)])) _
                              refine st250 _ ?_
                              show Steps p.tables e below (T250.setTop (mkF m 45 #[.val (.int p0), .val (.int p1), .val (.int i200), .val (.ref wAPI_VERSIONS), .val (.ref wAPI_VERSIONS)] [(.int (18 : Int32))])) _
                              refine XS.iloadN X250.here hx rfl (hb hby at_45) rfl ?_
                              show Steps p.tables e below (T250.setTop (mkF m 46 #[.val (.int p0), .val (.int p1), .val (.int i200), .val (.ref wAPI_VERSIONS), .val (.ref wAPI_VERSIONS)] [(.int i200), (.int (18 : Int32))])) _
                              refine XS.icmpNo X250.here hx rfl (hb hby at_46) rfl (teq (hc247 : (18 : Int32) = i200)).2 ?_
                              show Steps p.tables e below (T250.setTop (mkF m 49 #[.val (.int p0), .val (.int p1), .val (.int i200), .val (.ref wAPI_VERSIONS), .val (.ref wAPI_VERSIONS)] [])) _
                              refine XS.iconst X250.here hx rfl (hb hby at_49) ?_
                              show Steps p.tables e below (T250.setTop (mkF m 50 #[.val (.int p0), .val (.int p1), .val (.int i200), .val (.ref wAPI_VERSIONS), .val (.ref wAPI_VERSIONS)] [(.int (1 : Int32))])) _
                              refine XS.goto X250.here hx rfl (pc0 := 50) (pc' := 54) rfl (hb hby at_50) (by decide) (by decide) ?_
                              show Steps p.tables e below (T250.setTop (mkF m 54 #[.val (.int p0), .val (.int p1), .val (.int i200), .val (.ref wAPI_VERSIONS), .val (.ref wAPI_VERSIONS)] [(.int (1 : Int32))])) _
                              exact retN X250 hx (t := .boolean) Bd.returns (by simp) (hb hby at_54) hr
                            · show Q0 Z p0 p1 w_VALUES wPRODUCE wFETCH wLIST_OFFSETS wMETADATA wOFFSET_COMMIT wOFFSET_FETCH wFIND_COORDINATOR wJOIN_GROUP wHEARTBEAT wLEAVE_GROUP wSYNC_GROUP wAPI_VERSIONS wINIT_PRODUCER_ID wADD_PARTITIONS_TO_TXN wADD_OFFSETS_TO_TXN wEND_TXN wTXN_OFFSET_COMMIT k_VALUES h0 n0 _ T250.heap _
                              rw [e250]
                              exact ⟨rfl, N248⟩
                          · by_cases hc251 : (22 : Int32) = i200
                            · rw [((by rw [f2, if_neg (hc203 : ¬ ((0 : Int32) = i200)), if_neg (hc207 : ¬ ((1 : Int32) = i200)), if_neg (hc211 : ¬ ((2 : Int32) = i200)), if_neg (hc215 : ¬ ((3 : Int32) = i200)), if_neg (hc219 : ¬ ((8 : Int32) = i200)), if_neg (hc223 : ¬ ((9 : Int32) = i200)), if_neg (hc227 : ¬ ((10 : Int32) = i200)), if_neg (hc231 : ¬ ((11 : Int32) = i200)), if_neg (hc235 : ¬ ((12 : Int32) = i200)), if_neg (hc239 : ¬ ((13 : Int32) = i200)), if_neg (hc243 : ¬ ((14 : Int32) = i200)), if_neg (hc247 : ¬ ((18 : Int32) = i200)), if_pos (hc251 : (22 : Int32) = i200)]) : (f2 i200 w_VALUES wPRODUCE wFETCH wLIST_OFFSETS wMETADATA wOFFSET_COMMIT wOFFSET_FETCH wFIND_COORDINATOR wJOIN_GROUP wHEARTBEAT wLEAVE_GROUP wSYNC_GROUP wAPI_VERSIONS wINIT_PRODUCER_ID wADD_PARTITIONS_TO_TXN wADD_OFFSETS_TO_TXN wEND_TXN wTXN_OFFSET_COMMIT k_VALUES) = (.ref wINIT_PRODUCER_ID))] at hQ201
                              obtain ⟨rfl, N201q, E201⟩ := hQ201
                              have N201 := Fr.app N0 N201q
                              have EX201 : Ext h0 T201.heap := E201
                              obtain ⟨_, _, ⟨T252, L252, k252, n252⟩, -, X252, ⟨Lc252, hQ252, l252, y252, z252⟩, st252⟩ := Jvm.LawKit.callS X201 hx (y := (⟨"com/example/idem_log/idemlog/protocol/ApiForKeyPinLaw", "expected", "(I)Lcom/example/idem_log/idemlog/protocol/Api;"⟩ : MethodName)) hown (mvT hZ (hw _ (List.mem_of_getElem? (i := 38) rfl))) (mvT hZ (hw _ (List.mem_of_getElem? (i := 39) rfl))) (mvT hZ (hw _ (List.mem_of_getElem? (i := 40) rfl))) (mvT hZ (hw _ (List.mem_of_getElem? (i := 41) rfl))) (by decide) (backOf (W := 0) (rm3 l Z a0 hw [] i200 w_VALUES wPRODUCE wFETCH wLIST_OFFSETS wMETADATA wOFFSET_COMMIT wOFFSET_FETCH wFIND_COORDINATOR wJOIN_GROUP wHEARTBEAT wLEAVE_GROUP wSYNC_GROUP wAPI_VERSIONS wINIT_PRODUCER_ID wADD_PARTITIONS_TO_TXN wADD_OFFSETS_TO_TXN wEND_TXN wTXN_OFFSET_COMMIT k_VALUES T201.heap n0 (Nat.le_trans Z0 EX201.1) (W0.ext EX201) ) hZ (hw _ (List.mem_of_getElem? (i := 41) rfl)) (hw _ (List.mem_of_getElem? (i := 40) rfl)) (by decide) (by decide)) (g := (mkF m 24 #[.val (.int p0), .val (.int p1), .val (.int i200), .val (.ref wINIT_PRODUCER_ID), .unset] [(.int i200)])) rfl (by rw [hml]; rfl) (argsL := [(.int i200)]) (rest := []) (lenOf pd_2 rfl) rfl (by show 2 * 0 + _ ≤ _; exact Nat.le_of_eq rfl) (hb hby at_24) (fun _ _ => ⟨rfl, rfl, (by decide : 1 + 0 ≤ _), (by decide : 17 + 0 ≤ _)⟩)
                              dsimp only [Pt.U, Pt.locs, Pt.cells, Pt.slots] at X252 l252 y252 z252 st252 hQ252
                              subst l252 y252 z252
                              unfold Q3 at hQ252
                              have k253 : ∀ t, Steps p.tables e below (T201.setTop (mkF m 24 #[.val (.int p0), .val (.int p1), .val (.int i200), .val (.ref wINIT_PRODUCER_ID), .unset] [(.int i200)])) t → Steps p.tables e below (s₁.setTop (entryFrame m #[(.int p0), (.int p1)] maxLocals)) t := fun t kt => k202 t (by
                                show Steps p.tables e below (s₁.setTop (mkF m 19 #[.val (.int p0), .val (.int p1), .val (.int i200), .unset, .unset] [(.int i200)])) _
                                refine st201 _ ?_
                                show Steps p.tables e below (T201.setTop (mkF m 22 #[.val (.int p0), .val (.int p1), .val (.int i200), .unset, .unset] [(.ref wINIT_PRODUCER_ID)])) _
                                refine XS.astoreN X201.here hx rfl (hb hby at_22) rfl rfl (l' := #[.val (.int p0), .val (.int p1), .val (.int i200), .val (.ref wINIT_PRODUCER_ID), .unset]) rfl ?_
                                show Steps p.tables e below (T201.setTop (mkF m 23 #[.val (.int p0), .val (.int p1), .val (.int i200), .val (.ref wINIT_PRODUCER_ID), .unset] [])) _
                                refine XS.iloadN X201.here hx rfl (hb hby at_23) rfl ?_
                                exact kt)
                              rw [((by rw [f3, if_neg ((Ne.symm hc203) : ¬ (i200 = (0 : Int32))), if_neg ((Ne.symm hc207) : ¬ (i200 = (1 : Int32))), if_neg ((Ne.symm hc211) : ¬ (i200 = (2 : Int32))), if_neg ((Ne.symm hc215) : ¬ (i200 = (3 : Int32))), if_neg ((Ne.symm hc219) : ¬ (i200 = (8 : Int32))), if_neg ((Ne.symm hc223) : ¬ (i200 = (9 : Int32))), if_neg ((Ne.symm hc227) : ¬ (i200 = (10 : Int32))), if_neg ((Ne.symm hc231) : ¬ (i200 = (11 : Int32))), if_neg ((Ne.symm hc235) : ¬ (i200 = (12 : Int32))), if_neg ((Ne.symm hc239) : ¬ (i200 = (13 : Int32))), if_neg ((Ne.symm hc243) : ¬ (i200 = (14 : Int32))), if_neg ((Ne.symm hc247) : ¬ (i200 = (18 : Int32))), if_pos ((Eq.symm hc251) : i200 = (22 : Int32))]) : (f3 i200 w_VALUES wPRODUCE wFETCH wLIST_OFFSETS wMETADATA wOFFSET_COMMIT wOFFSET_FETCH wFIND_COORDINATOR wJOIN_GROUP wHEARTBEAT wLEAVE_GROUP wSYNC_GROUP wAPI_VERSIONS wINIT_PRODUCER_ID wADD_PARTITIONS_TO_TXN wADD_OFFSETS_TO_TXN wEND_TXN wTXN_OFFSET_COMMIT k_VALUES) = (.ref wINIT_PRODUCER_ID))] at hQ252
                              obtain ⟨rfl, N252q, e252⟩ := hQ252
                              have N252 := Fr.app N201 N252q
                              obtain ⟨T254, X254, e254, st254⟩ := getF X252 hx hZ hown (host := "") (Or.inl (hw _ (List.mem_of_getElem? (i := 43) rfl))) Via.refl e252 (FINIT_PRODUCER_ID_key.ext EX201) (g := (mkF m 42 #[.val (.int p0), .val (.int p1), .val (.int i200), .val (.ref wINIT_PRODUCER_ID), .val (.ref wINIT_PRODUCER_ID)] [(.ref wINIT_PRODUCER_ID)])) rfl rfl (hb hby at_42)
                              obtain ⟨fs, hr, hrun, hended, hW, hsame⟩ := X254.leave (v := some (.int (1 : Int32))) (fun h => by rw [Bd.returns] at h; cases h)
                              refine ⟨_, _, k253 _ ?_, hrun, hended, _, _, rfl, ?_, ⟨_, rfl⟩, hW, hsame.mono (by decide) (by decide)⟩
                              · show Steps p.tables e below (T201.setTop (mkF m 24 #[.val (.int p0), .val (.int p1), .val (.int i200), .val (.ref wINIT_PRODUCER_ID), .unset] [(.int i200)])) _
                                refine st252 _ ?_
                                show Steps p.tables e below (T252.setTop (mkF m 27 #[.val (.int p0), .val (.int p1), .val (.int i200), .val (.ref wINIT_PRODUCER_ID), .unset] [(.ref wINIT_PRODUCER_ID)])) _
                                refine XS.astore X252.here hx rfl (hb hby at_27) rfl rfl (l' := #[.val (.int p0), .val (.int p1), .val (.int i200), .val (.ref wINIT_PRODUCER_ID), .val (.ref wINIT_PRODUCER_ID)]) rfl ?_
                                show Steps p.tables e below (T252.setTop (mkF m 29 #[.val (.int p0), .val (.int p1), .val (.int i200), .val (.ref wINIT_PRODUCER_ID), .val (.ref wINIT_PRODUCER_ID)] [])) _
                                refine XS.aloadN X252.here hx rfl (hb hby at_29) rfl rfl ?_
                                show Steps p.tables e below (T252.setTop (mkF m 30 #[.val (.int p0), .val (.int p1), .val (.int i200), .val (.ref wINIT_PRODUCER_ID), .val (.ref wINIT_PRODUCER_ID)] [(.ref wINIT_PRODUCER_ID)])) _
                                refine XS.aload X252.here hx rfl (hb hby at_30) rfl rfl ?_
                                show Steps p.tables e below (T252.setTop (mkF m 32 #[.val (.int p0), .val (.int p1), .val (.int i200), .val (.ref wINIT_PRODUCER_ID), .val (.ref wINIT_PRODUCER_ID)] [(.ref wINIT_PRODUCER_ID), (.ref wINIT_PRODUCER_ID)])) _
                                refine Jvm.RoadKit.acmp (g := (mkF m 32 #[.val (.int p0), .val (.int p1), .val (.int i200), .val (.ref wINIT_PRODUCER_ID), .val (.ref wINIT_PRODUCER_ID)] [(.ref wINIT_PRODUCER_ID), (.ref wINIT_PRODUCER_ID)])) X252 hx rfl rfl rfl (pc0 := 32) (pc' := 37) (same := true) rfl (hb hby at_32) rfl (decide_eq_true (congrArg Value.ref (rfl : wINIT_PRODUCER_ID = wINIT_PRODUCER_ID))) (by decide) (by decide) ?_
                                show Steps p.tables e below (T252.setTop (mkF m 37 #[.val (.int p0), .val (.int p1), .val (.int i200), .val (.ref wINIT_PRODUCER_ID), .val (.ref wINIT_PRODUCER_ID)] [])) _
                                refine XS.aloadN X252.here hx rfl (hb hby at_37) rfl rfl ?_
                                show Steps p.tables e below (T252.setTop (mkF m 38 #[.val (.int p0), .val (.int p1), .val (.int i200), .val (.ref wINIT_PRODUCER_ID), .val (.ref wINIT_PRODUCER_ID)] [(.ref wINIT_PRODUCER_ID)])) _
                                refine XS.ifnullNo X252.here hx rfl (hb hby at_38) rfl ?_
                                show Steps p.tables e below (T252.setTop (mkF m 41 #[.val (.int p0), .val (.int p1), .val (.int i200), .val (.ref wINIT_PRODUCER_ID), .val (.ref wINIT_PRODUCER_ID)] [])) _
                                refine XS.aloadN X252.here hx rfl (hb hby at_41) rfl rfl ?_
                                show Steps p.tables e below (T252.setTop (mkF m 42 #[.val (.int p0), .val (.int p1), .val (.int i200), .val (.ref wINIT_PRODUCER_ID), .val (.ref wINIT_PRODUCER_ID)] [(.ref wINIT_PRODUCER_ID)])) _
                                refine st254 _ ?_
                                show Steps p.tables e below (T254.setTop (mkF m 45 #[.val (.int p0), .val (.int p1), .val (.int i200), .val (.ref wINIT_PRODUCER_ID), .val (.ref wINIT_PRODUCER_ID)] [(.int (22 : Int32))])) _
                                refine XS.iloadN X254.here hx rfl (hb hby at_45) rfl ?_
                                show Steps p.tables e below (T254.setTop (mkF m 46 #[.val (.int p0), .val (.int p1), .val (.int i200), .val (.ref wINIT_PRODUCER_ID), .val (.ref wINIT_PRODUCER_ID)] [(.int i200), (.int (22 : Int32))])) _
                                refine XS.icmpNo X254.here hx rfl (hb hby at_46) rfl (teq (hc251 : (22 : Int32) = i200)).2 ?_
                                show Steps p.tables e below (T254.setTop (mkF m 49 #[.val (.int p0), .val (.int p1), .val (.int i200), .val (.ref wINIT_PRODUCER_ID), .val (.ref wINIT_PRODUCER_ID)] [])) _
                                refine XS.iconst X254.here hx rfl (hb hby at_49) ?_
                                show Steps p.tables e below (T254.setTop (mkF m 50 #[.val (.int p0), .val (.int p1), .val (.int i200), .val (.ref wINIT_PRODUCER_ID), .val (.ref wINIT_PRODUCER_ID)] [(.int (1 : Int32))])) _
                                refine XS.goto X254.here hx rfl (pc0 := 50) (pc' := 54) rfl (hb hby at_50) (by decide) (by decide) ?_
                                show Steps p.tables e below (T254.setTop (mkF m 54 #[.val (.int p0), .val (.int p1), .val (.int i200), .val (.ref wINIT_PRODUCER_ID), .val (.ref wINIT_PRODUCER_ID)] [(.int (1 : Int32))])) _
                                exact retN X254 hx (t := .boolean) Bd.returns (by simp) (hb hby at_54) hr
                              · show Q0 Z p0 p1 w_VALUES wPRODUCE wFETCH wLIST_OFFSETS wMETADATA wOFFSET_COMMIT wOFFSET_FETCH wFIND_COORDINATOR wJOIN_GROUP wHEARTBEAT wLEAVE_GROUP wSYNC_GROUP wAPI_VERSIONS wINIT_PRODUCER_ID wADD_PARTITIONS_TO_TXN wADD_OFFSETS_TO_TXN wEND_TXN wTXN_OFFSET_COMMIT k_VALUES h0 n0 _ T254.heap _
                                rw [e254]
                                exact ⟨rfl, N252⟩
                            · by_cases hc255 : (24 : Int32) = i200
                              · rw [((by rw [f2, if_neg (hc203 : ¬ ((0 : Int32) = i200)), if_neg (hc207 : ¬ ((1 : Int32) = i200)), if_neg (hc211 : ¬ ((2 : Int32) = i200)), if_neg (hc215 : ¬ ((3 : Int32) = i200)), if_neg (hc219 : ¬ ((8 : Int32) = i200)), if_neg (hc223 : ¬ ((9 : Int32) = i200)), if_neg (hc227 : ¬ ((10 : Int32) = i200)), if_neg (hc231 : ¬ ((11 : Int32) = i200)), if_neg (hc235 : ¬ ((12 : Int32) = i200)), if_neg (hc239 : ¬ ((13 : Int32) = i200)), if_neg (hc243 : ¬ ((14 : Int32) = i200)), if_neg (hc247 : ¬ ((18 : Int32) = i200)), if_neg (hc251 : ¬ ((22 : Int32) = i200)), if_pos (hc255 : (24 : Int32) = i200)]) : (f2 i200 w_VALUES wPRODUCE wFETCH wLIST_OFFSETS wMETADATA wOFFSET_COMMIT wOFFSET_FETCH wFIND_COORDINATOR wJOIN_GROUP wHEARTBEAT wLEAVE_GROUP wSYNC_GROUP wAPI_VERSIONS wINIT_PRODUCER_ID wADD_PARTITIONS_TO_TXN wADD_OFFSETS_TO_TXN wEND_TXN wTXN_OFFSET_COMMIT k_VALUES) = (.ref wADD_PARTITIONS_TO_TXN))] at hQ201
                                obtain ⟨rfl, N201q, E201⟩ := hQ201
                                have N201 := Fr.app N0 N201q
                                have EX201 : Ext h0 T201.heap := E201
                                obtain ⟨_, _, ⟨T256, L256, k256, n256⟩, -, X256, ⟨Lc256, hQ256, l256, y256, z256⟩, st256⟩ := Jvm.LawKit.callS X201 hx (y := (⟨"com/example/idem_log/idemlog/protocol/ApiForKeyPinLaw", "expected", "(I)Lcom/example/idem_log/idemlog/protocol/Api;"⟩ : MethodName)) hown (mvT hZ (hw _ (List.mem_of_getElem? (i := 38) rfl))) (mvT hZ (hw _ (List.mem_of_getElem? (i := 39) rfl))) (mvT hZ (hw _ (List.mem_of_getElem? (i := 40) rfl))) (mvT hZ (hw _ (List.mem_of_getElem? (i := 41) rfl))) (by decide) (backOf (W := 0) (rm3 l Z a0 hw [] i200 w_VALUES wPRODUCE wFETCH wLIST_OFFSETS wMETADATA wOFFSET_COMMIT wOFFSET_FETCH wFIND_COORDINATOR wJOIN_GROUP wHEARTBEAT wLEAVE_GROUP wSYNC_GROUP wAPI_VERSIONS wINIT_PRODUCER_ID wADD_PARTITIONS_TO_TXN wADD_OFFSETS_TO_TXN wEND_TXN wTXN_OFFSET_COMMIT k_VALUES T201.heap n0 (Nat.le_trans Z0 EX201.1) (W0.ext EX201) ) hZ (hw _ (List.mem_of_getElem? (i := 41) rfl)) (hw _ (List.mem_of_getElem? (i := 40) rfl)) (by decide) (by decide)) (g := (mkF m 24 #[.val (.int p0), .val (.int p1), .val (.int i200), .val (.ref wADD_PARTITIONS_TO_TXN), .unset] [(.int i200)])) rfl (by rw [hml]; rfl) (argsL := [(.int i200)]) (rest := []) (lenOf pd_2 rfl) rfl (by show 2 * 0 + _ ≤ _; exact Nat.le_of_eq rfl) (hb hby at_24) (fun _ _ => ⟨rfl, rfl, (by decide : 1 + 0 ≤ _), (by decide : 17 + 0 ≤ _)⟩)
                                dsimp only [Pt.U, Pt.locs, Pt.cells, Pt.slots] at X256 l256 y256 z256 st256 hQ256
                                subst l256 y256 z256
                                unfold Q3 at hQ256
                                have k257 : ∀ t, Steps p.tables e below (T201.setTop (mkF m 24 #[.val (.int p0), .val (.int p1), .val (.int i200), .val (.ref wADD_PARTITIONS_TO_TXN), .unset] [(.int i200)])) t → Steps p.tables e below (s₁.setTop (entryFrame m #[(.int p0), (.int p1)] maxLocals)) t := fun t kt => k202 t (by
                                  show Steps p.tables e below (s₁.setTop (mkF m 19 #[.val (.int p0), .val (.int p1), .val (.int i200), .unset, .unset] [(.int i200)])) _
                                  refine st201 _ ?_
                                  show Steps p.tables e below (T201.setTop (mkF m 22 #[.val (.int p0), .val (.int p1), .val (.int i200), .unset, .unset] [(.ref wADD_PARTITIONS_TO_TXN)])) _
                                  refine XS.astoreN X201.here hx rfl (hb hby at_22) rfl rfl (l' := #[.val (.int p0), .val (.int p1), .val (.int i200), .val (.ref wADD_PARTITIONS_TO_TXN), .unset]) rfl ?_
                                  show Steps p.tables e below (T201.setTop (mkF m 23 #[.val (.int p0), .val (.int p1), .val (.int i200), .val (.ref wADD_PARTITIONS_TO_TXN), .unset] [])) _
                                  refine XS.iloadN X201.here hx rfl (hb hby at_23) rfl ?_
                                  exact kt)
                                rw [((by rw [f3, if_neg ((Ne.symm hc203) : ¬ (i200 = (0 : Int32))), if_neg ((Ne.symm hc207) : ¬ (i200 = (1 : Int32))), if_neg ((Ne.symm hc211) : ¬ (i200 = (2 : Int32))), if_neg ((Ne.symm hc215) : ¬ (i200 = (3 : Int32))), if_neg ((Ne.symm hc219) : ¬ (i200 = (8 : Int32))), if_neg ((Ne.symm hc223) : ¬ (i200 = (9 : Int32))), if_neg ((Ne.symm hc227) : ¬ (i200 = (10 : Int32))), if_neg ((Ne.symm hc231) : ¬ (i200 = (11 : Int32))), if_neg ((Ne.symm hc235) : ¬ (i200 = (12 : Int32))), if_neg ((Ne.symm hc239) : ¬ (i200 = (13 : Int32))), if_neg ((Ne.symm hc243) : ¬ (i200 = (14 : Int32))), if_neg ((Ne.symm hc247) : ¬ (i200 = (18 : Int32))), if_neg ((Ne.symm hc251) : ¬ (i200 = (22 : Int32))), if_pos ((Eq.symm hc255) : i200 = (24 : Int32))]) : (f3 i200 w_VALUES wPRODUCE wFETCH wLIST_OFFSETS wMETADATA wOFFSET_COMMIT wOFFSET_FETCH wFIND_COORDINATOR wJOIN_GROUP wHEARTBEAT wLEAVE_GROUP wSYNC_GROUP wAPI_VERSIONS wINIT_PRODUCER_ID wADD_PARTITIONS_TO_TXN wADD_OFFSETS_TO_TXN wEND_TXN wTXN_OFFSET_COMMIT k_VALUES) = (.ref wADD_PARTITIONS_TO_TXN))] at hQ256
                                obtain ⟨rfl, N256q, e256⟩ := hQ256
                                have N256 := Fr.app N201 N256q
                                obtain ⟨T258, X258, e258, st258⟩ := getF X256 hx hZ hown (host := "") (Or.inl (hw _ (List.mem_of_getElem? (i := 43) rfl))) Via.refl e256 (FADD_PARTITIONS_TO_TXN_key.ext EX201) (g := (mkF m 42 #[.val (.int p0), .val (.int p1), .val (.int i200), .val (.ref wADD_PARTITIONS_TO_TXN), .val (.ref wADD_PARTITIONS_TO_TXN)] [(.ref wADD_PARTITIONS_TO_TXN)])) rfl rfl (hb hby at_42)
                                obtain ⟨fs, hr, hrun, hended, hW, hsame⟩ := X258.leave (v := some (.int (1 : Int32))) (fun h => by rw [Bd.returns] at h; cases h)
                                refine ⟨_, _, k257 _ ?_, hrun, hended, _, _, rfl, ?_, ⟨_, rfl⟩, hW, hsame.mono (by decide) (by decide)⟩
                                · show Steps p.tables e below (T201.setTop (mkF m 24 #[.val (.int p0), .val (.int p1), .val (.int i200), .val (.ref wADD_PARTITIONS_TO_TXN), .unset] [(.int i200)])) _
                                  refine st256 _ ?_
                                  show Steps p.tables e below (T256.setTop (mkF m 27 #[.val (.int p0), .val (.int p1), .val (.int i200), .val (.ref wADD_PARTITIONS_TO_TXN), .unset] [(.ref wADD_PARTITIONS_TO_TXN)])) _
                                  refine XS.astore X256.here hx rfl (hb hby at_27) rfl rfl (l' := #[.val (.int p0), .val (.int p1), .val (.int i200), .val (.ref wADD_PARTITIONS_TO_TXN), .val (.ref wADD_PARTITIONS_TO_TXN)]) rfl ?_
                                  show Steps p.tables e below (T256.setTop (mkF m 29 #[.val (.int p0), .val (.int p1), .val (.int i200), .val (.ref wADD_PARTITIONS_TO_TXN), .val (.ref wADD_PARTITIONS_TO_TXN)] [])) _
                                  refine XS.aloadN X256.here hx rfl (hb hby at_29) rfl rfl ?_
                                  show Steps p.tables e below (T256.setTop (mkF m 30 #[.val (.int p0), .val (.int p1), .val (.int i200), .val (.ref wADD_PARTITIONS_TO_TXN), .val (.ref wADD_PARTITIONS_TO_TXN)] [(.ref wADD_PARTITIONS_TO_TXN)])) _
                                  refine XS.aload X256.here hx rfl (hb hby at_30) rfl rfl ?_
                                  show Steps p.tables e below (T256.setTop (mkF m 32 #[.val (.int p0), .val (.int p1), .val (.int i200), .val (.ref wADD_PARTITIONS_TO_TXN), .val (.ref wADD_PARTITIONS_TO_TXN)] [(.ref wADD_PARTITIONS_TO_TXN), (.ref wADD_PARTITIONS_TO_TXN)])) _
                                  refine Jvm.RoadKit.acmp (g := (mkF m 32 #[.val (.int p0), .val (.int p1), .val (.int i200), .val (.ref wADD_PARTITIONS_TO_TXN), .val (.ref wADD_PARTITIONS_TO_TXN)] [(.ref wADD_PARTITIONS_TO_TXN), (.ref wADD_PARTITIONS_TO_TXN)])) X256 hx rfl rfl rfl (pc0 := 32) (pc' := 37) (same := true) rfl (hb hby at_32) rfl (decide_eq_true (congrArg Value.ref (rfl : wADD_PARTITIONS_TO_TXN = wADD_PARTITIONS_TO_TXN))) (by decide) (by decide) ?_
                                  show Steps p.tables e below (T256.setTop (mkF m 37 #[.val (.int p0), .val (.int p1), .val (.int i200), .val (.ref wADD_PARTITIONS_TO_TXN), .val (.ref wADD_PARTITIONS_TO_TXN)] [])) _
                                  refine XS.aloadN X256.here hx rfl (hb hby at_37) rfl rfl ?_
                                  show Steps p.tables e below (T256.setTop (mkF m 38 #[.val (.int p0), .val (.int p1), .val (.int i200), .val (.ref wADD_PARTITIONS_TO_TXN), .val (.ref wADD_PARTITIONS_TO_TXN)] [(.ref wADD_PARTITIONS_TO_TXN)])) _
                                  refine XS.ifnullNo X256.here hx rfl (hb hby at_38) rfl ?_
                                  show Steps p.tables e below (T256.setTop (mkF m 41 #[.val (.int p0), .val (.int p1), .val (.int i200), .val (.ref wADD_PARTITIONS_TO_TXN), .val (.ref wADD_PARTITIONS_TO_TXN)] [])) _
                                  refine XS.aloadN X256.here hx rfl (hb hby at_41) rfl rfl ?_
                                  show Steps p.tables e below (T256.setTop (mkF m 42 #[.val (.int p0), .val (.int p1), .val (.int i200), .val (.ref wADD_PARTITIONS_TO_TXN), .val (.ref wADD_PARTITIONS_TO_TXN)] [(.ref wADD_PARTITIONS_TO_TXN)])) _
                                  refine st258 _ ?_
                                  show Steps p.tables e below (T258.setTop (mkF m 45 #[.val (.int p0), .val (.int p1), .val (.int i200), .val (.ref wADD_PARTITIONS_TO_TXN), .val (.ref wADD_PARTITIONS_TO_TXN)] [(.int (24 : Int32))])) _
                                  refine XS.iloadN X258.here hx rfl (hb hby at_45) rfl ?_
                                  show Steps p.tables e below (T258.setTop (mkF m 46 #[.val (.int p0), .val (.int p1), .val (.int i200), .val (.ref wADD_PARTITIONS_TO_TXN), .val (.ref wADD_PARTITIONS_TO_TXN)] [(.int i200), (.int (24 : Int32))])) _
                                  refine XS.icmpNo X258.here hx rfl (hb hby at_46) rfl (teq (hc255 : (24 : Int32) = i200)).2 ?_
                                  show Steps p.tables e below (T258.setTop (mkF m 49 #[.val (.int p0), .val (.int p1), .val (.int i200), .val (.ref wADD_PARTITIONS_TO_TXN), .val (.ref wADD_PARTITIONS_TO_TXN)] [])) _
                                  refine XS.iconst X258.here hx rfl (hb hby at_49) ?_
                                  show Steps p.tables e below (T258.setTop (mkF m 50 #[.val (.int p0), .val (.int p1), .val (.int i200), .val (.ref wADD_PARTITIONS_TO_TXN), .val (.ref wADD_PARTITIONS_TO_TXN)] [(.int (1 : Int32))])) _
                                  refine XS.goto X258.here hx rfl (pc0 := 50) (pc' := 54) rfl (hb hby at_50) (by decide) (by decide) ?_
                                  show Steps p.tables e below (T258.setTop (mkF m 54 #[.val (.int p0), .val (.int p1), .val (.int i200), .val (.ref wADD_PARTITIONS_TO_TXN), .val (.ref wADD_PARTITIONS_TO_TXN)] [(.int (1 : Int32))])) _
                                  exact retN X258 hx (t := .boolean) Bd.returns (by simp) (hb hby at_54) hr
                                · show Q0 Z p0 p1 w_VALUES wPRODUCE wFETCH wLIST_OFFSETS wMETADATA wOFFSET_COMMIT wOFFSET_FETCH wFIND_COORDINATOR wJOIN_GROUP wHEARTBEAT wLEAVE_GROUP wSYNC_GROUP wAPI_VERSIONS wINIT_PRODUCER_ID wADD_PARTITIONS_TO_TXN wADD_OFFSETS_TO_TXN wEND_TXN wTXN_OFFSET_COMMIT k_VALUES h0 n0 _ T258.heap _
                                  rw [e258]
                                  exact ⟨rfl, N256⟩
                              · by_cases hc259 : (25 : Int32) = i200
                                · rw [((by rw [f2, if_neg (hc203 : ¬ ((0 : Int32) = i200)), if_neg (hc207 : ¬ ((1 : Int32) = i200)), if_neg (hc211 : ¬ ((2 : Int32) = i200)), if_neg (hc215 : ¬ ((3 : Int32) = i200)), if_neg (hc219 : ¬ ((8 : Int32) = i200)), if_neg (hc223 : ¬ ((9 : Int32) = i200)), if_neg (hc227 : ¬ ((10 : Int32) = i200)), if_neg (hc231 : ¬ ((11 : Int32) = i200)), if_neg (hc235 : ¬ ((12 : Int32) = i200)), if_neg (hc239 : ¬ ((13 : Int32) = i200)), if_neg (hc243 : ¬ ((14 : Int32) = i200)), if_neg (hc247 : ¬ ((18 : Int32) = i200)), if_neg (hc251 : ¬ ((22 : Int32) = i200)), if_neg (hc255 : ¬ ((24 : Int32) = i200)), if_pos (hc259 : (25 : Int32) = i200)]) : (f2 i200 w_VALUES wPRODUCE wFETCH wLIST_OFFSETS wMETADATA wOFFSET_COMMIT wOFFSET_FETCH wFIND_COORDINATOR wJOIN_GROUP wHEARTBEAT wLEAVE_GROUP wSYNC_GROUP wAPI_VERSIONS wINIT_PRODUCER_ID wADD_PARTITIONS_TO_TXN wADD_OFFSETS_TO_TXN wEND_TXN wTXN_OFFSET_COMMIT k_VALUES) = (.ref wADD_OFFSETS_TO_TXN))] at hQ201
                                  obtain ⟨rfl, N201q, E201⟩ := hQ201
                                  have N201 := Fr.app N0 N201q
                                  have EX201 : Ext h0 T201.heap := E201
                                  obtain ⟨_, _, ⟨T260, L260, k260, n260⟩, -, X260, ⟨Lc260, hQ260, l260, y260, z260⟩, st260⟩ := Jvm.LawKit.callS X201 hx (y := (⟨"com/example/idem_log/idemlog/protocol/ApiForKeyPinLaw", "expected", "(I)Lcom/example/idem_log/idemlog/protocol/Api;"⟩ : MethodName)) hown (mvT hZ (hw _ (List.mem_of_getElem? (i := 38) rfl))) (mvT hZ (hw _ (List.mem_of_getElem? (i := 39) rfl))) (mvT hZ (hw _ (List.mem_of_getElem? (i := 40) rfl))) (mvT hZ (hw _ (List.mem_of_getElem? (i := 41) rfl))) (by decide) (backOf (W := 0) (rm3 l Z a0 hw [] i200 w_VALUES wPRODUCE wFETCH wLIST_OFFSETS wMETADATA wOFFSET_COMMIT wOFFSET_FETCH wFIND_COORDINATOR wJOIN_GROUP wHEARTBEAT wLEAVE_GROUP wSYNC_GROUP wAPI_VERSIONS wINIT_PRODUCER_ID wADD_PARTITIONS_TO_TXN wADD_OFFSETS_TO_TXN wEND_TXN wTXN_OFFSET_COMMIT k_VALUES T201.heap n0 (Nat.le_trans Z0 EX201.1) (W0.ext EX201) ) hZ (hw _ (List.mem_of_getElem? (i := 41) rfl)) (hw _ (List.mem_of_getElem? (i := 40) rfl)) (by decide) (by decide)) (g := (mkF m 24 #[.val (.int p0), .val (.int p1), .val (.int i200), .val (.ref wADD_OFFSETS_TO_TXN), .unset] [(.int i200)])) rfl (by rw [hml]; rfl) (argsL := [(.int i200)]) (rest := []) (lenOf pd_2 rfl) rfl (by show 2 * 0 + _ ≤ _; exact Nat.le_of_eq rfl) (hb hby at_24) (fun _ _ => ⟨rfl, rfl, (by decide : 1 + 0 ≤ _), (by decide : 17 + 0 ≤ _)⟩)
                                  dsimp only [Pt.U, Pt.locs, Pt.cells, Pt.slots] at X260 l260 y260 z260 st260 hQ260
                                  subst l260 y260 z260
                                  unfold Q3 at hQ260
                                  have k261 : ∀ t, Steps p.tables e below (T201.setTop (mkF m 24 #[.val (.int p0), .val (.int p1), .val (.int i200), .val (.ref wADD_OFFSETS_TO_TXN), .unset] [(.int i200)])) t → Steps p.tables e below (s₁.setTop (entryFrame m #[(.int p0), (.int p1)] maxLocals)) t := fun t kt => k202 t (by
                                    show Steps p.tables e below (s₁.setTop (mkF m 19 #[.val (.int p0), .val (.int p1), .val (.int i200), .unset, .unset] [(.int i200)])) _
                                    refine st201 _ ?_
                                    show Steps p.tables e below (T201.setTop (mkF m 22 #[.val (.int p0), .val (.int p1), .val (.int i200), .unset, .unset] [(.ref wADD_OFFSETS_TO_TXN)])) _
                                    refine XS.astoreN X201.here hx rfl (hb hby at_22) rfl rfl (l' := #[.val (.int p0), .val (.int p1), .val (.int i200), .val (.ref wADD_OFFSETS_TO_TXN), .unset]) rfl ?_
                                    show Steps p.tables e below (T201.setTop (mkF m 23 #[.val (.int p0), .val (.int p1), .val (.int i200), .val (.ref wADD_OFFSETS_TO_TXN), .unset] [])) _
                                    refine XS.iloadN X201.here hx rfl (hb hby at_23) rfl ?_
                                    exact kt)
                                  rw [((by rw [f3, if_neg ((Ne.symm hc203) : ¬ (i200 = (0 : Int32))), if_neg ((Ne.symm hc207) : ¬ (i200 = (1 : Int32))), if_neg ((Ne.symm hc211) : ¬ (i200 = (2 : Int32))), if_neg ((Ne.symm hc215) : ¬ (i200 = (3 : Int32))), if_neg ((Ne.symm hc219) : ¬ (i200 = (8 : Int32))), if_neg ((Ne.symm hc223) : ¬ (i200 = (9 : Int32))), if_neg ((Ne.symm hc227) : ¬ (i200 = (10 : Int32))), if_neg ((Ne.symm hc231) : ¬ (i200 = (11 : Int32))), if_neg ((Ne.symm hc235) : ¬ (i200 = (12 : Int32))), if_neg ((Ne.symm hc239) : ¬ (i200 = (13 : Int32))), if_neg ((Ne.symm hc243) : ¬ (i200 = (14 : Int32))), if_neg ((Ne.symm hc247) : ¬ (i200 = (18 : Int32))), if_neg ((Ne.symm hc251) : ¬ (i200 = (22 : Int32))), if_neg ((Ne.symm hc255) : ¬ (i200 = (24 : Int32))), if_pos ((Eq.symm hc259) : i200 = (25 : Int32))]) : (f3 i200 w_VALUES wPRODUCE wFETCH wLIST_OFFSETS wMETADATA wOFFSET_COMMIT wOFFSET_FETCH wFIND_COORDINATOR wJOIN_GROUP wHEARTBEAT wLEAVE_GROUP wSYNC_GROUP wAPI_VERSIONS wINIT_PRODUCER_ID wADD_PARTITIONS_TO_TXN wADD_OFFSETS_TO_TXN wEND_TXN wTXN_OFFSET_COMMIT k_VALUES) = (.ref wADD_OFFSETS_TO_TXN))] at hQ260
                                  obtain ⟨rfl, N260q, e260⟩ := hQ260
                                  have N260 := Fr.app N201 N260q
                                  obtain ⟨T262, X262, e262, st262⟩ := getF X260 hx hZ hown (host := "") (Or.inl (hw _ (List.mem_of_getElem? (i := 43) rfl))) Via.refl e260 (FADD_OFFSETS_TO_TXN_key.ext EX201) (g := (mkF m 42 #[.val (.int p0), .val (.int p1), .val (.int i200), .val (.ref wADD_OFFSETS_TO_TXN), .val (.ref wADD_OFFSETS_TO_TXN)] [(.ref wADD_OFFSETS_TO_TXN)])) rfl rfl (hb hby at_42)
                                  obtain ⟨fs, hr, hrun, hended, hW, hsame⟩ := X262.leave (v := some (.int (1 : Int32))) (fun h => by rw [Bd.returns] at h; cases h)
                                  refine ⟨_, _, k261 _ ?_, hrun, hended, _, _, rfl, ?_, ⟨_, rfl⟩, hW, hsame.mono (by decide) (by decide)⟩
                                  · show Steps p.tables e below (T201.setTop (mkF m 24 #[.val (.int p0), .val (.int p1), .val (.int i200), .val (.ref wADD_OFFSETS_TO_TXN), .unset] [(.int i200)])) _
                                    refine st260 _ ?_
                                    show Steps p.tables e below (T260.setTop (mkF m 27 #[.val (.int p0), .val (.int p1), .val (.int i200), .val (.ref wADD_OFFSETS_TO_TXN), .unset] [(.ref wADD_OFFSETS_TO_TXN)])) _
                                    refine XS.astore X260.here hx rfl (hb hby at_27) rfl rfl (l' := #[.val (.int p0), .val (.int p1), .val (.int i200), .val (.ref wADD_OFFSETS_TO_TXN), .val (.ref wADD_OFFSETS_TO_TXN)]) rfl ?_
                                    show Steps p.tables e below (T260.setTop (mkF m 29 #[.val (.int p0), .val (.int p1), .val (.int i200), .val (.ref wADD_OFFSETS_TO_TXN), .val (.ref wADD_OFFSETS_TO_TXN)] [])) _
                                    refine XS.aloadN X260.here hx rfl (hb hby at_29) rfl rfl ?_
                                    show Steps p.tables e below (T260.setTop (mkF m 30 #[.val (.int p0), .val (.int p1), .val (.int i200), .val (.ref wADD_OFFSETS_TO_TXN), .val (.ref wADD_OFFSETS_TO_TXN)] [(.ref wADD_OFFSETS_TO_TXN)])) _
                                    refine XS.aload X260.here hx rfl (hb hby at_30) rfl rfl ?_
                                    show Steps p.tables e below (T260.setTop (mkF m 32 #[.val (.int p0), .val (.int p1), .val (.int i200), .val (.ref wADD_OFFSETS_TO_TXN), .val (.ref wADD_OFFSETS_TO_TXN)] [(.ref wADD_OFFSETS_TO_TXN), (.ref wADD_OFFSETS_TO_TXN)])) _
                                    refine Jvm.RoadKit.acmp (g := (mkF m 32 #[.val (.int p0), .val (.int p1), .val (.int i200), .val (.ref wADD_OFFSETS_TO_TXN), .val (.ref wADD_OFFSETS_TO_TXN)] [(.ref wADD_OFFSETS_TO_TXN), (.ref wADD_OFFSETS_TO_TXN)])) X260 hx rfl rfl rfl (pc0 := 32) (pc' := 37) (same := true) rfl (hb hby at_32) rfl (decide_eq_true (congrArg Value.ref (rfl : wADD_OFFSETS_TO_TXN = wADD_OFFSETS_TO_TXN))) (by decide) (by decide) ?_
                                    show Steps p.tables e below (T260.setTop (mkF m 37 #[.val (.int p0), .val (.int p1), .val (.int i200), .val (.ref wADD_OFFSETS_TO_TXN), .val (.ref wADD_OFFSETS_TO_TXN)] [])) _
                                    refine XS.aloadN X260.here hx rfl (hb hby at_37) rfl rfl ?_
                                    show Steps p.tables e below (T260.setTop (mkF m 38 #[.val (.int p0), .val (.int p1), .val (.int i200), .val (.ref wADD_OFFSETS_TO_TXN), .val (.ref wADD_OFFSETS_TO_TXN)] [(.ref wADD_OFFSETS_TO_TXN)])) _
                                    refine XS.ifnullNo X260.here hx rfl (hb hby at_38) rfl ?_
                                    show Steps p.tables e below (T260.setTop (mkF m 41 #[.val (.int p0), .val (.int p1), .val (.int i200), .val (.ref wADD_OFFSETS_TO_TXN), .val (.ref wADD_OFFSETS_TO_TXN)] [])) _
                                    refine XS.aloadN X260.here hx rfl (hb hby at_41) rfl rfl ?_
                                    show Steps p.tables e below (T260.setTop (mkF m 42 #[.val (.int p0), .val (.int p1), .val (.int i200), .val (.ref wADD_OFFSETS_TO_TXN), .val (.ref wADD_OFFSETS_TO_TXN)] [(.ref wADD_OFFSETS_TO_TXN)])) _
                                    refine st262 _ ?_
                                    show Steps p.tables e below (T262.setTop (mkF m 45 #[.val (.int p0), .val (.int p1), .val (.int i200), .val (.ref wADD_OFFSETS_TO_TXN), .val (.ref wADD_OFFSETS_TO_TXN)] [(.int (25 : Int32))])) _
                                    refine XS.iloadN X262.here hx rfl (hb hby at_45) rfl ?_
                                    show Steps p.tables e below (T262.setTop (mkF m 46 #[.val (.int p0), .val (.int p1), .val (.int i200), .val (.ref wADD_OFFSETS_TO_TXN), .val (.ref wADD_OFFSETS_TO_TXN)] [(.int i200), (.int (25 : Int32))])) _
                                    refine XS.icmpNo X262.here hx rfl (hb hby at_46) rfl (teq (hc259 : (25 : Int32) = i200)).2 ?_
                                    show Steps p.tables e below (T262.setTop (mkF m 49 #[.val (.int p0), .val (.int p1), .val (.int i200), .val (.ref wADD_OFFSETS_TO_TXN), .val (.ref wADD_OFFSETS_TO_TXN)] [])) _
                                    refine XS.iconst X262.here hx rfl (hb hby at_49) ?_
                                    show Steps p.tables e below (T262.setTop (mkF m 50 #[.val (.int p0), .val (.int p1), .val (.int i200), .val (.ref wADD_OFFSETS_TO_TXN), .val (.ref wADD_OFFSETS_TO_TXN)] [(.int (1 : Int32))])) _
                                    refine XS.goto X262.here hx rfl (pc0 := 50) (pc' := 54) rfl (hb hby at_50) (by decide) (by decide) ?_
                                    show Steps p.tables e below (T262.setTop (mkF m 54 #[.val (.int p0), .val (.int p1), .val (.int i200), .val (.ref wADD_OFFSETS_TO_TXN), .val (.ref wADD_OFFSETS_TO_TXN)] [(.int (1 : Int32))])) _
                                    exact retN X262 hx (t := .boolean) Bd.returns (by simp) (hb hby at_54) hr
                                  · show Q0 Z p0 p1 w_VALUES wPRODUCE wFETCH wLIST_OFFSETS wMETADATA wOFFSET_COMMIT wOFFSET_FETCH wFIND_COORDINATOR wJOIN_GROUP wHEARTBEAT wLEAVE_GROUP wSYNC_GROUP wAPI_VERSIONS wINIT_PRODUCER_ID wADD_PARTITIONS_TO_TXN wADD_OFFSETS_TO_TXN wEND_TXN wTXN_OFFSET_COMMIT k_VALUES h0 n0 _ T262.heap _
                                    rw [e262]
                                    exact ⟨rfl, N260⟩
                                · by_cases hc263 : (26 : Int32) = i200
                                  · rw [((by rw [f2, if_neg (hc203 : ¬ ((0 : Int32) = i200)), if_neg (hc207 : ¬ ((1 : Int32) = i200)), if_neg (hc211 : ¬ ((2 : Int32) = i200)), if_neg (hc215 : ¬ ((3 : Int32) = i200)), if_neg (hc219 : ¬ ((8 : Int32) = i200)), if_neg (hc223 : ¬ ((9 : Int32) = i200)), if_neg (hc227 : ¬ ((10 : Int32) = i200)), if_neg (hc231 : ¬ ((11 : Int32) = i200)), if_neg (hc235 : ¬ ((12 : Int32) = i200)), if_neg (hc239 : ¬ ((13 : Int32) = i200)), if_neg (hc243 : ¬ ((14 : Int32) = i200)), if_neg (hc247 : ¬ ((18 : Int32) = i200)), if_neg (hc251 : ¬ ((22 : Int32) = i200)), if_neg (hc255 : ¬ ((24 : Int32) = i200)), if_neg (hc259 : ¬ ((25 : Int32) = i200)), if_pos (hc263 : (26 : Int32) = i200)]) : (f2 i200 w_VALUES wPRODUCE wFETCH wLIST_OFFSETS wMETADATA wOFFSET_COMMIT wOFFSET_FETCH wFIND_COORDINATOR wJOIN_GROUP wHEARTBEAT wLEAVE_GROUP wSYNC_GROUP wAPI_VERSIONS wINIT_PRODUCER_ID wADD_PARTITIONS_TO_TXN wADD_OFFSETS_TO_TXN wEND_TXN wTXN_OFFSET_COMMIT k_VALUES) = (.ref wEND_TXN))] at hQ201
                                    obtain ⟨rfl, N201q, E201⟩ := hQ201
                                    have N201 := Fr.app N0 N201q
                                    have EX201 : Ext h0 T201.heap := E201
                                    obtain ⟨_, _, ⟨T264, L264, k264, n264⟩, -, X264, ⟨Lc264, hQ264, l264, y264, z264⟩, st264⟩ := Jvm.LawKit.callS X201 hx (y := (⟨"com/example/idem_log/idemlog/protocol/ApiForKeyPinLaw", "expected", "(I)Lcom/example/idem_log/idemlog/protocol/Api;"⟩ : MethodName)) hown (mvT hZ (hw _ (List.mem_of_getElem? (i := 38) rfl))) (mvT hZ (hw _ (List.mem_of_getElem? (i := 39) rfl))) (mvT hZ (hw _ (List.mem_of_getElem? (i := 40) rfl))) (mvT hZ (hw _ (List.mem_of_getElem? (i := 41) rfl))) (by decide) (backOf (W := 0) (rm3 l Z a0 hw [] i200 w_VALUES wPRODUCE wFETCH wLIST_OFFSETS wMETADATA wOFFSET_COMMIT wOFFSET_FETCH wFIND_COORDINATOR wJOIN_GROUP wHEARTBEAT wLEAVE_GROUP wSYNC_GROUP wAPI_VERSIONS wINIT_PRODUCER_ID wADD_PARTITIONS_TO_TXN wADD_OFFSETS_TO_TXN wEND_TXN wTXN_OFFSET_COMMIT k_VALUES T201.heap n0 (Nat.le_trans Z0 EX201.1) (W0.ext EX201) ) hZ (hw _ (List.mem_of_getElem? (i := 41) rfl)) (hw _ (List.mem_of_getElem? (i := 40) rfl)) (by decide) (by decide)) (g := (mkF m 24 #[.val (.int p0), .val (.int p1), .val (.int i200), .val (.ref wEND_TXN), .unset] [(.int i200)])) rfl (by rw [hml]; rfl) (argsL := [(.int i200)]) (rest := []) (lenOf pd_2 rfl) rfl (by show 2 * 0 + _ ≤ _; exact Nat.le_of_eq rfl) (hb hby at_24) (fun _ _ => ⟨rfl, rfl, (by decide : 1 + 0 ≤ _), (by decide : 17 + 0 ≤ _)⟩)
                                    dsimp only [Pt.U, Pt.locs, Pt.cells, Pt.slots] at X264 l264 y264 z264 st264 hQ264
                                    subst l264 y264 z264
                                    unfold Q3 at hQ264
                                    have k265 : ∀ t, Steps p.tables e below (T201.setTop (mkF m 24 #[.val (.int p0), .val (.int p1), .val (.int i200), .val (.ref wEND_TXN), .unset] [(.int i200)])) t → Steps p.tables e below (s₁.setTop (entryFrame m #[(.int p0), (.int p1)] maxLocals)) t := fun t kt => k202 t (by
                                      show Steps p.tables e below (s₁.setTop (mkF m 19 #[.val (.int p0), .val (.int p1), .val (.int i200), .unset, .unset] [(.int i200)])) _
                                      refine st201 _ ?_
                                      show Steps p.tables e below (T201.setTop (mkF m 22 #[.val (.int p0), .val (.int p1), .val (.int i200), .unset, .unset] [(.ref wEND_TXN)])) _
                                      refine XS.astoreN X201.here hx rfl (hb hby at_22) rfl rfl (l' := #[.val (.int p0), .val (.int p1), .val (.int i200), .val (.ref wEND_TXN), .unset]) rfl ?_
                                      show Steps p.tables e below (T201.setTop (mkF m 23 #[.val (.int p0), .val (.int p1), .val (.int i200), .val (.ref wEND_TXN), .unset] [])) _
                                      refine XS.iloadN X201.here hx rfl (hb hby at_23) rfl ?_
                                      exact kt)
                                    rw [((by rw [f3, if_neg ((Ne.symm hc203) : ¬ (i200 = (0 : Int32))), if_neg ((Ne.symm hc207) : ¬ (i200 = (1 : Int32))), if_neg ((Ne.symm hc211) : ¬ (i200 = (2 : Int32))), if_neg ((Ne.symm hc215) : ¬ (i200 = (3 : Int32))), if_neg ((Ne.symm hc219) : ¬ (i200 = (8 : Int32))), if_neg ((Ne.symm hc223) : ¬ (i200 = (9 : Int32))), if_neg ((Ne.symm hc227) : ¬ (i200 = (10 : Int32))), if_neg ((Ne.symm hc231) : ¬ (i200 = (11 : Int32))), if_neg ((Ne.symm hc235) : ¬ (i200 = (12 : Int32))), if_neg ((Ne.symm hc239) : ¬ (i200 = (13 : Int32))), if_neg ((Ne.symm hc243) : ¬ (i200 = (14 : Int32))), if_neg ((Ne.symm hc247) : ¬ (i200 = (18 : Int32))), if_neg ((Ne.symm hc251) : ¬ (i200 = (22 : Int32))), if_neg ((Ne.symm hc255) : ¬ (i200 = (24 : Int32))), if_neg ((Ne.symm hc259) : ¬ (i200 = (25 : Int32))), if_pos ((Eq.symm hc263) : i200 = (26 : Int32))]) : (f3 i200 w_VALUES wPRODUCE wFETCH wLIST_OFFSETS wMETADATA wOFFSET_COMMIT wOFFSET_FETCH wFIND_COORDINATOR wJOIN_GROUP wHEARTBEAT wLEAVE_GROUP wSYNC_GROUP wAPI_VERSIONS wINIT_PRODUCER_ID wADD_PARTITIONS_TO_TXN wADD_OFFSETS_TO_TXN wEND_TXN wTXN_OFFSET_COMMIT k_VALUES) = (.ref wEND_TXN))] at hQ264
                                    obtain ⟨rfl, N264q, e264⟩ := hQ264
                                    have N264 := Fr.app N201 N264q
                                    obtain ⟨T266, X266, e266, st266⟩ := getF X264 hx hZ hown (host := "") (Or.inl (hw _ (List.mem_of_getElem? (i := 43) rfl))) Via.refl e264 (FEND_TXN_key.ext EX201) (g := (mkF m 42 #[.val (.int p0), .val (.int p1), .val (.int i200), .val (.ref wEND_TXN), .val (.ref wEND_TXN)] [(.ref wEND_TXN)])) rfl rfl (hb hby at_42)
                                    obtain ⟨fs, hr, hrun, hended, hW, hsame⟩ := X266.leave (v := some (.int (1 : Int32))) (fun h => by rw [Bd.returns] at h; cases h)
                                    refine ⟨_, _, k265 _ ?_, hrun, hended, _, _, rfl, ?_, ⟨_, rfl⟩, hW, hsame.mono (by decide) (by decide)⟩
                                    · show Steps p.tables e below (T201.setTop (mkF m 24 #[.val (.int p0), .val (.int p1), .val (.int i200), .val (.ref wEND_TXN), .unset] [(.int i200)])) _
                                      refine st264 _ ?_
                                      show Steps p.tables e below (T264.setTop (mkF m 27 #[.val (.int p0), .val (.int p1), .val (.int i200), .val (.ref wEND_TXN), .unset] [(.ref wEND_TXN)])) _
                                      refine XS.astore X264.here hx rfl (hb hby at_27) rfl rfl (l' := #[.val (.int p0), .val (.int p1), .val (.int i200), .val (.ref wEND_TXN), .val (.ref wEND_TXN)]) rfl ?_
                                      show Steps p.tables e below (T264.setTop (mkF m 29 #[.val (.int p0), .val (.int p1), .val (.int i200), .val (.ref wEND_TXN), .val (.ref wEND_TXN)] [])) _
                                      refine XS.aloadN X264.here hx rfl (hb hby at_29) rfl rfl ?_
                                      show Steps p.tables e below (T264.setTop (mkF m 30 #[.val (.int p0), .val (.int p1), .val (.int i200), .val (.ref wEND_TXN), .val (.ref wEND_TXN)] [(.ref wEND_TXN)])) _
                                      refine XS.aload X264.here hx rfl (hb hby at_30) rfl rfl ?_
                                      show Steps p.tables e below (T264.setTop (mkF m 32 #[.val (.int p0), .val (.int p1), .val (.int i200), .val (.ref wEND_TXN), .val (.ref wEND_TXN)] [(.ref wEND_TXN), (.ref wEND_TXN)])) _
                                      refine Jvm.RoadKit.acmp (g := (mkF m 32 #[.val (.int p0), .val (.int p1), .val (.int i200), .val (.ref wEND_TXN), .val (.ref wEND_TXN)] [(.ref wEND_TXN), (.ref wEND_TXN)])) X264 hx rfl rfl rfl (pc0 := 32) (pc' := 37) (same := true) rfl (hb hby at_32) rfl (decide_eq_true (congrArg Value.ref (rfl : wEND_TXN = wEND_TXN))) (by decide) (by decide) ?_
                                      show Steps p.tables e below (T264.setTop (mkF m 37 #[.val (.int p0), .val (.int p1), .val (.int i200), .val (.ref wEND_TXN), .val (.ref wEND_TXN)] [])) _
                                      refine XS.aloadN X264.here hx rfl (hb hby at_37) rfl rfl ?_
                                      show Steps p.tables e below (T264.setTop (mkF m 38 #[.val (.int p0), .val (.int p1), .val (.int i200), .val (.ref wEND_TXN), .val (.ref wEND_TXN)] [(.ref wEND_TXN)])) _
                                      refine XS.ifnullNo X264.here hx rfl (hb hby at_38) rfl ?_
                                      show Steps p.tables e below (T264.setTop (mkF m 41 #[.val (.int p0), .val (.int p1), .val (.int i200), .val (.ref wEND_TXN), .val (.ref wEND_TXN)] [])) _
                                      refine XS.aloadN X264.here hx rfl (hb hby at_41) rfl rfl ?_
                                      show Steps p.tables e below (T264.setTop (mkF m 42 #[.val (.int p0), .val (.int p1), .val (.int i200), .val (.ref wEND_TXN), .val (.ref wEND_TXN)] [(.ref wEND_TXN)])) _
                                      refine st266 _ ?_
                                      show Steps p.tables e below (T266.setTop (mkF m 45 #[.val (.int p0), .val (.int p1), .val (.int i200), .val (.ref wEND_TXN), .val (.ref wEND_TXN)] [(.int (26 : Int32))])) _
                                      refine XS.iloadN X266.here hx rfl (hb hby at_45) rfl ?_
                                      show Steps p.tables e below (T266.setTop (mkF m 46 #[.val (.int p0), .val (.int p1), .val (.int i200), .val (.ref wEND_TXN), .val (.ref wEND_TXN)] [(.int i200), (.int (26 : Int32))])) _
                                      refine XS.icmpNo X266.here hx rfl (hb hby at_46) rfl (teq (hc263 : (26 : Int32) = i200)).2 ?_
                                      show Steps p.tables e below (T266.setTop (mkF m 49 #[.val (.int p0), .val (.int p1), .val (.int i200), .val (.ref wEND_TXN), .val (.ref wEND_TXN)] [])) _
                                      refine XS.iconst X266.here hx rfl (hb hby at_49) ?_
                                      show Steps p.tables e below (T266.setTop (mkF m 50 #[.val (.int p0), .val (.int p1), .val (.int i200), .val (.ref wEND_TXN), .val (.ref wEND_TXN)] [(.int (1 : Int32))])) _
                                      refine XS.goto X266.here hx rfl (pc0 := 50) (pc' := 54) rfl (hb hby at_50) (by decide) (by decide) ?_
                                      show Steps p.tables e below (T266.setTop (mkF m 54 #[.val (.int p0), .val (.int p1), .val (.int i200), .val (.ref wEND_TXN), .val (.ref wEND_TXN)] [(.int (1 : Int32))])) _
                                      exact retN X266 hx (t := .boolean) Bd.returns (by simp) (hb hby at_54) hr
                                    · show Q0 Z p0 p1 w_VALUES wPRODUCE wFETCH wLIST_OFFSETS wMETADATA wOFFSET_COMMIT wOFFSET_FETCH wFIND_COORDINATOR wJOIN_GROUP wHEARTBEAT wLEAVE_GROUP wSYNC_GROUP wAPI_VERSIONS wINIT_PRODUCER_ID wADD_PARTITIONS_TO_TXN wADD_OFFSETS_TO_TXN wEND_TXN wTXN_OFFSET_COMMIT k_VALUES h0 n0 _ T266.heap _
                                      rw [e266]
                                      exact ⟨rfl, N264⟩
                                  · by_cases hc267 : (28 : Int32) = i200
                                    · rw [((by rw [f2, if_neg (hc203 : ¬ ((0 : Int32) = i200)), if_neg (hc207 : ¬ ((1 : Int32) = i200)), if_neg (hc211 : ¬ ((2 : Int32) = i200)), if_neg (hc215 : ¬ ((3 : Int32) = i200)), if_neg (hc219 : ¬ ((8 : Int32) = i200)), if_neg (hc223 : ¬ ((9 : Int32) = i200)), if_neg (hc227 : ¬ ((10 : Int32) = i200)), if_neg (hc231 : ¬ ((11 : Int32) = i200)), if_neg (hc235 : ¬ ((12 : Int32) = i200)), if_neg (hc239 : ¬ ((13 : Int32) = i200)), if_neg (hc243 : ¬ ((14 : Int32) = i200)), if_neg (hc247 : ¬ ((18 : Int32) = i200)), if_neg (hc251 : ¬ ((22 : Int32) = i200)), if_neg (hc255 : ¬ ((24 : Int32) = i200)), if_neg (hc259 : ¬ ((25 : Int32) = i200)), if_neg (hc263 : ¬ ((26 : Int32) = i200)), if_pos (hc267 : (28 : Int32) = i200)]) : (f2 i200 w_VALUES wPRODUCE wFETCH wLIST_OFFSETS wMETADATA wOFFSET_COMMIT wOFFSET_FETCH wFIND_COORDINATOR wJOIN_GROUP wHEARTBEAT wLEAVE_GROUP wSYNC_GROUP wAPI_VERSIONS wINIT_PRODUCER_ID wADD_PARTITIONS_TO_TXN wADD_OFFSETS_TO_TXN wEND_TXN wTXN_OFFSET_COMMIT k_VALUES) = (.ref wTXN_OFFSET_COMMIT))] at hQ201
                                      obtain ⟨rfl, N201q, E201⟩ := hQ201
                                      have N201 := Fr.app N0 N201q
                                      have EX201 : Ext h0 T201.heap := E201
                                      obtain ⟨_, _, ⟨T268, L268, k268, n268⟩, -, X268, ⟨Lc268, hQ268, l268, y268, z268⟩, st268⟩ := Jvm.LawKit.callS X201 hx (y := (⟨"com/example/idem_log/idemlog/protocol/ApiForKeyPinLaw", "expected", "(I)Lcom/example/idem_log/idemlog/protocol/Api;"⟩ : MethodName)) hown (mvT hZ (hw _ (List.mem_of_getElem? (i := 38) rfl))) (mvT hZ (hw _ (List.mem_of_getElem? (i := 39) rfl))) (mvT hZ (hw _ (List.mem_of_getElem? (i := 40) rfl))) (mvT hZ (hw _ (List.mem_of_getElem? (i := 41) rfl))) (by decide) (backOf (W := 0) (rm3 l Z a0 hw [] i200 w_VALUES wPRODUCE wFETCH wLIST_OFFSETS wMETADATA wOFFSET_COMMIT wOFFSET_FETCH wFIND_COORDINATOR wJOIN_GROUP wHEARTBEAT wLEAVE_GROUP wSYNC_GROUP wAPI_VERSIONS wINIT_PRODUCER_ID wADD_PARTITIONS_TO_TXN wADD_OFFSETS_TO_TXN wEND_TXN wTXN_OFFSET_COMMIT k_VALUES T201.heap n0 (Nat.le_trans Z0 EX201.1) (W0.ext EX201) ) hZ (hw _ (List.mem_of_getElem? (i := 41) rfl)) (hw _ (List.mem_of_getElem? (i := 40) rfl)) (by decide) (by decide)) (g := (mkF m 24 #[.val (.int p0), .val (.int p1), .val (.int i200), .val (.ref wTXN_OFFSET_COMMIT), .unset] [(.int i200)])) rfl (by rw [hml]; rfl) (argsL := [(.int i200)]) (rest := []) (lenOf pd_2 rfl) rfl (by show 2 * 0 + _ ≤ _; exact Nat.le_of_eq rfl) (hb hby at_24) (fun _ _ => ⟨rfl, rfl, (by decide : 1 + 0 ≤ _), (by decide : 17 + 0 ≤ _)⟩)
                                      dsimp only [Pt.U, Pt.locs, Pt.cells, Pt.slots] at X268 l268 y268 z268 st268 hQ268
                                      subst l268 y268 z268
                                      unfold Q3 at hQ268
                                      have k269 : ∀ t, Steps p.tables e below (T201.setTop (mkF m 24 #[.val (.int p0), .val (.int p1), .val (.int i200), .val (.ref wTXN_OFFSET_COMMIT), .unset] [(.int i200)])) t → Steps p.tables e below (s₁.setTop (entryFrame m #[(.int p0), (.int p1)] maxLocals)) t := fun t kt => k202 t (by
                                        show Steps p.tables e below (s₁.setTop (mkF m 19 #[.val (.int p0), .val (.int p1), .val (.int i200), .unset, .unset] [(.int i200)])) _
                                        refine st201 _ ?_
                                        show Steps p.tables e below (T201.setTop (mkF m 22 #[.val (.int p0), .val (.int p1), .val (.int i200), .unset, .unset] [(.ref wTXN_OFFSET_COMMIT)])) _
                                        refine XS.astoreN X201.here hx rfl (hb hby at_22) rfl rfl (l' := #[.val (.int p0), .val (.int p1), .val (.int i200), .val (.ref wTXN_OFFSET_COMMIT), .unset]) rfl ?_
                                        show Steps p.tables e below (T201.setTop (mkF m 23 #[.val (.int p0), .val (.int p1), .val (.int i200), .val (.ref wTXN_OFFSET_COMMIT), .unset] [])) _
                                        refine XS.iloadN X201.here hx rfl (hb hby at_23) rfl ?_
                                        exact kt)
                                      rw [((by rw [f3, if_neg ((Ne.symm hc203) : ¬ (i200 = (0 : Int32))), if_neg ((Ne.symm hc207) : ¬ (i200 = (1 : Int32))), if_neg ((Ne.symm hc211) : ¬ (i200 = (2 : Int32))), if_neg ((Ne.symm hc215) : ¬ (i200 = (3 : Int32))), if_neg ((Ne.symm hc219) : ¬ (i200 = (8 : Int32))), if_neg ((Ne.symm hc223) : ¬ (i200 = (9 : Int32))), if_neg ((Ne.symm hc227) : ¬ (i200 = (10 : Int32))), if_neg ((Ne.symm hc231) : ¬ (i200 = (11 : Int32))), if_neg ((Ne.symm hc235) : ¬ (i200 = (12 : Int32))), if_neg ((Ne.symm hc239) : ¬ (i200 = (13 : Int32))), if_neg ((Ne.symm hc243) : ¬ (i200 = (14 : Int32))), if_neg ((Ne.symm hc247) : ¬ (i200 = (18 : Int32))), if_neg ((Ne.symm hc251) : ¬ (i200 = (22 : Int32))), if_neg ((Ne.symm hc255) : ¬ (i200 = (24 : Int32))), if_neg ((Ne.symm hc259) : ¬ (i200 = (25 : Int32))), if_neg ((Ne.symm hc263) : ¬ (i200 = (26 : Int32))), if_pos ((Eq.symm hc267) : i200 = (28 : Int32))]) : (f3 i200 w_VALUES wPRODUCE wFETCH wLIST_OFFSETS wMETADATA wOFFSET_COMMIT wOFFSET_FETCH wFIND_COORDINATOR wJOIN_GROUP wHEARTBEAT wLEAVE_GROUP wSYNC_GROUP wAPI_VERSIONS wINIT_PRODUCER_ID wADD_PARTITIONS_TO_TXN wADD_OFFSETS_TO_TXN wEND_TXN wTXN_OFFSET_COMMIT k_VALUES) = (.ref wTXN_OFFSET_COMMIT))] at hQ268
                                      obtain ⟨rfl, N268q, e268⟩ := hQ268
                                      have N268 := Fr.app N201 N268q
                                      obtain ⟨T270, X270, e270, st270⟩ := getF X268 hx hZ hown (host := "") (Or.inl (hw _ (List.mem_of_getElem? (i := 43) rfl))) Via.refl e268 (FTXN_OFFSET_COMMIT_key.ext EX201) (g := (mkF m 42 #[.val (.int p0), .val (.int p1), .val (.int i200), .val (.ref wTXN_OFFSET_COMMIT), .val (.ref wTXN_OFFSET_COMMIT)] [(.ref wTXN_OFFSET_COMMIT)])) rfl rfl (hb hby at_42)
                                      obtain ⟨fs, hr, hrun, hended, hW, hsame⟩ := X270.leave (v := some (.int (1 : Int32))) (fun h => by rw [Bd.returns] at h; cases h)
                                      refine ⟨_, _, k269 _ ?_, hrun, hended, _, _, rfl, ?_, ⟨_, rfl⟩, hW, hsame.mono (by decide) (by decide)⟩
                                      · show Steps p.tables e below (T201.setTop (mkF m 24 #[.val (.int p0), .val (.int p1), .val (.int i200), .val (.ref wTXN_OFFSET_COMMIT), .unset] [(.int i200)])) _
                                        refine st268 _ ?_
                                        show Steps p.tables e below (T268.setTop (mkF m 27 #[.val (.int p0), .val (.int p1), .val (.int i200), .val (.ref wTXN_OFFSET_COMMIT), .unset] [(.ref wTXN_OFFSET_COMMIT)])) _
                                        refine XS.astore X268.here hx rfl (hb hby at_27) rfl rfl (l' := #[.val (.int p0), .val (.int p1), .val (.int i200), .val (.ref wTXN_OFFSET_COMMIT), .val (.ref wTXN_OFFSET_COMMIT)]) rfl ?_
                                        show Steps p.tables e below (T268.setTop (mkF m 29 #[.val (.int p0), .val (.int p1), .val (.int i200), .val (.ref wTXN_OFFSET_COMMIT), .val (.ref wTXN_OFFSET_COMMIT)] [])) _
                                        refine XS.aloadN X268.here hx rfl (hb hby at_29) rfl rfl ?_
                                        show Steps p.tables e below (T268.setTop (mkF m 30 #[.val (.int p0), .val (.int p1), .val (.int i200), .val (.ref wTXN_OFFSET_COMMIT), .val (.ref wTXN_OFFSET_COMMIT)] [(.ref wTXN_OFFSET_COMMIT)])) _
                                        refine XS.aload X268.here hx rfl (hb hby at_30) rfl rfl ?_
                                        show Steps p.tables e below (T268.setTop (mkF m 32 #[.val (.int p0), .val (.int p1), .val (.int i200), .val (.ref wTXN_OFFSET_COMMIT), .val (.ref wTXN_OFFSET_COMMIT)] [(.ref wTXN_OFFSET_COMMIT), (.ref wTXN_OFFSET_COMMIT)])) _
                                        refine Jvm.RoadKit.acmp (g := (mkF m 32 #[.val (.int p0), .val (.int p1), .val (.int i200), .val (.ref wTXN_OFFSET_COMMIT), .val (.ref wTXN_OFFSET_COMMIT)] [(.ref wTXN_OFFSET_COMMIT), (.ref wTXN_OFFSET_COMMIT)])) X268 hx rfl rfl rfl (pc0 := 32) (pc' := 37) (same := true) rfl (hb hby at_32) rfl (decide_eq_true (congrArg Value.ref (rfl : wTXN_OFFSET_COMMIT = wTXN_OFFSET_COMMIT))) (by decide) (by decide) ?_
                                        show Steps p.tables e below (T268.setTop (mkF m 37 #[.val (.int p0), .val (.int p1), .val (.int i200), .val (.ref wTXN_OFFSET_COMMIT), .val (.ref wTXN_OFFSET_COMMIT)] [])) _
                                        refine XS.aloadN X268.here hx rfl (hb hby at_37) rfl rfl ?_
                                        show Steps p.tables e below (T268.setTop (mkF m 38 #[.val (.int p0), .val (.int p1), .val (.int i200), .val (.ref wTXN_OFFSET_COMMIT), .val (.ref wTXN_OFFSET_COMMIT)] [(.ref wTXN_OFFSET_COMMIT)])) _
                                        refine XS.ifnullNo X268.here hx rfl (hb hby at_38) rfl ?_
                                        show Steps p.tables e below (T268.setTop (mkF m 41 #[.val (.int p0), .val (.int p1), .val (.int i200), .val (.ref wTXN_OFFSET_COMMIT), .val (.ref wTXN_OFFSET_COMMIT)] [])) _
                                        refine XS.aloadN X268.here hx rfl (hb hby at_41) rfl rfl ?_
                                        show Steps p.tables e below (T268.setTop (mkF m 42 #[.val (.int p0), .val (.int p1), .val (.int i200), .val (.ref wTXN_OFFSET_COMMIT), .val (.ref wTXN_OFFSET_COMMIT)] [(.ref wTXN_OFFSET_COMMIT)])) _
                                        refine st270 _ ?_
                                        show Steps p.tables e below (T270.setTop (mkF m 45 #[.val (.int p0), .val (.int p1), .val (.int i200), .val (.ref wTXN_OFFSET_COMMIT), .val (.ref wTXN_OFFSET_COMMIT)] [(.int (28 : Int32))])) _
                                        refine XS.iloadN X270.here hx rfl (hb hby at_45) rfl ?_
                                        show Steps p.tables e below (T270.setTop (mkF m 46 #[.val (.int p0), .val (.int p1), .val (.int i200), .val (.ref wTXN_OFFSET_COMMIT), .val (.ref wTXN_OFFSET_COMMIT)] [(.int i200), (.int (28 : Int32))])) _
                                        refine XS.icmpNo X270.here hx rfl (hb hby at_46) rfl (teq (hc267 : (28 : Int32) = i200)).2 ?_
                                        show Steps p.tables e below (T270.setTop (mkF m 49 #[.val (.int p0), .val (.int p1), .val (.int i200), .val (.ref wTXN_OFFSET_COMMIT), .val (.ref wTXN_OFFSET_COMMIT)] [])) _
                                        refine XS.iconst X270.here hx rfl (hb hby at_49) ?_
                                        show Steps p.tables e below (T270.setTop (mkF m 50 #[.val (.int p0), .val (.int p1), .val (.int i200), .val (.ref wTXN_OFFSET_COMMIT), .val (.ref wTXN_OFFSET_COMMIT)] [(.int (1 : Int32))])) _
                                        refine XS.goto X270.here hx rfl (pc0 := 50) (pc' := 54) rfl (hb hby at_50) (by decide) (by decide) ?_
                                        show Steps p.tables e below (T270.setTop (mkF m 54 #[.val (.int p0), .val (.int p1), .val (.int i200), .val (.ref wTXN_OFFSET_COMMIT), .val (.ref wTXN_OFFSET_COMMIT)] [(.int (1 : Int32))])) _
                                        exact retN X270 hx (t := .boolean) Bd.returns (by simp) (hb hby at_54) hr
                                      · show Q0 Z p0 p1 w_VALUES wPRODUCE wFETCH wLIST_OFFSETS wMETADATA wOFFSET_COMMIT wOFFSET_FETCH wFIND_COORDINATOR wJOIN_GROUP wHEARTBEAT wLEAVE_GROUP wSYNC_GROUP wAPI_VERSIONS wINIT_PRODUCER_ID wADD_PARTITIONS_TO_TXN wADD_OFFSETS_TO_TXN wEND_TXN wTXN_OFFSET_COMMIT k_VALUES h0 n0 _ T270.heap _
                                        rw [e270]
                                        exact ⟨rfl, N268⟩
                                    · rw [((by rw [f2, if_neg (hc203 : ¬ ((0 : Int32) = i200)), if_neg (hc207 : ¬ ((1 : Int32) = i200)), if_neg (hc211 : ¬ ((2 : Int32) = i200)), if_neg (hc215 : ¬ ((3 : Int32) = i200)), if_neg (hc219 : ¬ ((8 : Int32) = i200)), if_neg (hc223 : ¬ ((9 : Int32) = i200)), if_neg (hc227 : ¬ ((10 : Int32) = i200)), if_neg (hc231 : ¬ ((11 : Int32) = i200)), if_neg (hc235 : ¬ ((12 : Int32) = i200)), if_neg (hc239 : ¬ ((13 : Int32) = i200)), if_neg (hc243 : ¬ ((14 : Int32) = i200)), if_neg (hc247 : ¬ ((18 : Int32) = i200)), if_neg (hc251 : ¬ ((22 : Int32) = i200)), if_neg (hc255 : ¬ ((24 : Int32) = i200)), if_neg (hc259 : ¬ ((25 : Int32) = i200)), if_neg (hc263 : ¬ ((26 : Int32) = i200)), if_neg (hc267 : ¬ ((28 : Int32) = i200))]) : (f2 i200 w_VALUES wPRODUCE wFETCH wLIST_OFFSETS wMETADATA wOFFSET_COMMIT wOFFSET_FETCH wFIND_COORDINATOR wJOIN_GROUP wHEARTBEAT wLEAVE_GROUP wSYNC_GROUP wAPI_VERSIONS wINIT_PRODUCER_ID wADD_PARTITIONS_TO_TXN wADD_OFFSETS_TO_TXN wEND_TXN wTXN_OFFSET_COMMIT k_VALUES) = .null)] at hQ201
                                      obtain ⟨rfl, N201q, E201⟩ := hQ201
                                      have N201 := Fr.app N0 N201q
                                      have EX201 : Ext h0 T201.heap := E201
                                      obtain ⟨_, _, ⟨T271, L271, k271, n271⟩, -, X271, ⟨Lc271, hQ271, l271, y271, z271⟩, st271⟩ := Jvm.LawKit.callS X201 hx (y := (⟨"com/example/idem_log/idemlog/protocol/ApiForKeyPinLaw", "expected", "(I)Lcom/example/idem_log/idemlog/protocol/Api;"⟩ : MethodName)) hown (mvT hZ (hw _ (List.mem_of_getElem? (i := 38) rfl))) (mvT hZ (hw _ (List.mem_of_getElem? (i := 39) rfl))) (mvT hZ (hw _ (List.mem_of_getElem? (i := 40) rfl))) (mvT hZ (hw _ (List.mem_of_getElem? (i := 41) rfl))) (by decide) (backOf (W := 0) (rm3 l Z a0 hw [] i200 w_VALUES wPRODUCE wFETCH wLIST_OFFSETS wMETADATA wOFFSET_COMMIT wOFFSET_FETCH wFIND_COORDINATOR wJOIN_GROUP wHEARTBEAT wLEAVE_GROUP wSYNC_GROUP wAPI_VERSIONS wINIT_PRODUCER_ID wADD_PARTITIONS_TO_TXN wADD_OFFSETS_TO_TXN wEND_TXN wTXN_OFFSET_COMMIT k_VALUES T201.heap n0 (Nat.le_trans Z0 EX201.1) (W0.ext EX201) ) hZ (hw _ (List.mem_of_getElem? (i := 41) rfl)) (hw _ (List.mem_of_getElem? (i := 40) rfl)) (by decide) (by decide)) (g := (mkF m 24 #[.val (.int p0), .val (.int p1), .val (.int i200), .val .null, .unset] [(.int i200)])) rfl (by rw [hml]; rfl) (argsL := [(.int i200)]) (rest := []) (lenOf pd_2 rfl) rfl (by show 2 * 0 + _ ≤ _; exact Nat.le_of_eq rfl) (hb hby at_24) (fun _ _ => ⟨rfl, rfl, (by decide : 1 + 0 ≤ _), (by decide : 17 + 0 ≤ _)⟩)
                                      dsimp only [Pt.U, Pt.locs, Pt.cells, Pt.slots] at X271 l271 y271 z271 st271 hQ271
                                      subst l271 y271 z271
                                      unfold Q3 at hQ271
                                      have k272 : ∀ t, Steps p.tables e below (T201.setTop (mkF m 24 #[.val (.int p0), .val (.int p1), .val (.int i200), .val .null, .unset] [(.int i200)])) t → Steps p.tables e below (s₁.setTop (entryFrame m #[(.int p0), (.int p1)] maxLocals)) t := fun t kt => k202 t (by
                                        show Steps p.tables e below (s₁.setTop (mkF m 19 #[.val (.int p0), .val (.int p1), .val (.int i200), .unset, .unset] [(.int i200)])) _
                                        refine st201 _ ?_
                                        show Steps p.tables e below (T201.setTop (mkF m 22 #[.val (.int p0), .val (.int p1), .val (.int i200), .unset, .unset] [.null])) _
                                        refine XS.astoreN X201.here hx rfl (hb hby at_22) rfl rfl (l' := #[.val (.int p0), .val (.int p1), .val (.int i200), .val .null, .unset]) rfl ?_
                                        show Steps p.tables e below (T201.setTop (mkF m 23 #[.val (.int p0), .val (.int p1), .val (.int i200), .val .null, .unset] [])) _
                                        refine XS.iloadN X201.here hx rfl (hb hby at_23) rfl ?_
                                        exact kt)
                                      rw [((by rw [f3, if_neg ((Ne.symm hc203) : ¬ (i200 = (0 : Int32))), if_neg ((Ne.symm hc207) : ¬ (i200 = (1 : Int32))), if_neg ((Ne.symm hc211) : ¬ (i200 = (2 : Int32))), if_neg ((Ne.symm hc215) : ¬ (i200 = (3 : Int32))), if_neg ((Ne.symm hc219) : ¬ (i200 = (8 : Int32))), if_neg ((Ne.symm hc223) : ¬ (i200 = (9 : Int32))), if_neg ((Ne.symm hc227) : ¬ (i200 = (10 : Int32))), if_neg ((Ne.symm hc231) : ¬ (i200 = (11 : Int32))), if_neg ((Ne.symm hc235) : ¬ (i200 = (12 : Int32))), if_neg ((Ne.symm hc239) : ¬ (i200 = (13 : Int32))), if_neg ((Ne.symm hc243) : ¬ (i200 = (14 : Int32))), if_neg ((Ne.symm hc247) : ¬ (i200 = (18 : Int32))), if_neg ((Ne.symm hc251) : ¬ (i200 = (22 : Int32))), if_neg ((Ne.symm hc255) : ¬ (i200 = (24 : Int32))), if_neg ((Ne.symm hc259) : ¬ (i200 = (25 : Int32))), if_neg ((Ne.symm hc263) : ¬ (i200 = (26 : Int32))), if_neg ((Ne.symm hc267) : ¬ (i200 = (28 : Int32)))]) : (f3 i200 w_VALUES wPRODUCE wFETCH wLIST_OFFSETS wMETADATA wOFFSET_COMMIT wOFFSET_FETCH wFIND_COORDINATOR wJOIN_GROUP wHEARTBEAT wLEAVE_GROUP wSYNC_GROUP wAPI_VERSIONS wINIT_PRODUCER_ID wADD_PARTITIONS_TO_TXN wADD_OFFSETS_TO_TXN wEND_TXN wTXN_OFFSET_COMMIT k_VALUES) = .null)] at hQ271
                                      obtain ⟨rfl, N271q, e271⟩ := hQ271
                                      have N271 := Fr.app N201 N271q
                                      obtain ⟨fs, hr, hrun, hended, hW, hsame⟩ := X271.leave (v := some (.int (1 : Int32))) (fun h => by rw [Bd.returns] at h; cases h)
                                      refine ⟨_, _, k272 _ ?_, hrun, hended, _, _, rfl, ?_, ⟨_, rfl⟩, hW, hsame.mono (by decide) (by decide)⟩
                                      · show Steps p.tables e below (T201.setTop (mkF m 24 #[.val (.int p0), .val (.int p1), .val (.int i200), .val .null, .unset] [(.int i200)])) _
                                        refine st271 _ ?_
                                        show Steps p.tables e below (T271.setTop (mkF m 27 #[.val (.int p0), .val (.int p1), .val (.int i200), .val .null, .unset] [.null])) _
                                        refine XS.astore X271.here hx rfl (hb hby at_27) rfl rfl (l' := #[.val (.int p0), .val (.int p1), .val (.int i200), .val .null, .val .null]) rfl ?_
                                        show Steps p.tables e below (T271.setTop (mkF m 29 #[.val (.int p0), .val (.int p1), .val (.int i200), .val .null, .val .null] [])) _
                                        refine XS.aloadN X271.here hx rfl (hb hby at_29) rfl rfl ?_
                                        show Steps p.tables e below (T271.setTop (mkF m 30 #[.val (.int p0), .val (.int p1), .val (.int i200), .val .null, .val .null] [.null])) _
                                        refine XS.aload X271.here hx rfl (hb hby at_30) rfl rfl ?_
                                        show Steps p.tables e below (T271.setTop (mkF m 32 #[.val (.int p0), .val (.int p1), .val (.int i200), .val .null, .val .null] [.null, .null])) _
                                        refine Jvm.RoadKit.acmp (g := (mkF m 32 #[.val (.int p0), .val (.int p1), .val (.int i200), .val .null, .val .null] [.null, .null])) X271 hx rfl rfl rfl (pc0 := 32) (pc' := 37) (same := true) rfl (hb hby at_32) rfl (decide_eq_true rfl) (by decide) (by decide) ?_
                                        show Steps p.tables e below (T271.setTop (mkF m 37 #[.val (.int p0), .val (.int p1), .val (.int i200), .val .null, .val .null] [])) _
                                        refine XS.aloadN X271.here hx rfl (hb hby at_37) rfl rfl ?_
                                        show Steps p.tables e below (T271.setTop (mkF m 38 #[.val (.int p0), .val (.int p1), .val (.int i200), .val .null, .val .null] [.null])) _
                                        refine XS.ifnullYes X271.here hx rfl (pc0 := 38) (pc' := 49) rfl (hb hby at_38) rfl (by decide) (by decide) ?_
                                        show Steps p.tables e below (T271.setTop (mkF m 49 #[.val (.int p0), .val (.int p1), .val (.int i200), .val .null, .val .null] [])) _
                                        refine XS.iconst X271.here hx rfl (hb hby at_49) ?_
                                        show Steps p.tables e below (T271.setTop (mkF m 50 #[.val (.int p0), .val (.int p1), .val (.int i200), .val .null, .val .null] [(.int (1 : Int32))])) _
                                        refine XS.goto X271.here hx rfl (pc0 := 50) (pc' := 54) rfl (hb hby at_50) (by decide) (by decide) ?_
                                        show Steps p.tables e below (T271.setTop (mkF m 54 #[.val (.int p0), .val (.int p1), .val (.int i200), .val .null, .val .null] [(.int (1 : Int32))])) _
                                        exact retN X271 hx (t := .boolean) Bd.returns (by simp) (hb hby at_54) hr
                                      · show Q0 Z p0 p1 w_VALUES wPRODUCE wFETCH wLIST_OFFSETS wMETADATA wOFFSET_COMMIT wOFFSET_FETCH wFIND_COORDINATOR wJOIN_GROUP wHEARTBEAT wLEAVE_GROUP wSYNC_GROUP wAPI_VERSIONS wINIT_PRODUCER_ID wADD_PARTITIONS_TO_TXN wADD_OFFSETS_TO_TXN wEND_TXN wTXN_OFFSET_COMMIT k_VALUES h0 n0 _ T271.heap _
                                        rw [e271]
                                        exact ⟨rfl, N271⟩
set_option maxRecDepth 65536 in
set_option maxHeartbeats 40000000 in
theorem comes_1 {Post : Tables → Env → Array Value → State → Outcome → State → Prop} (hpost : ∀ tb e args s v u, (limb_1_1.after args s (.returned v) u = true ∧ limb_1_2.after args s (.returned v) u = true ∧ True) → FrameEnd s (.returned v) u (Jvm.fieldLocs frame_1_writes args s ++ Jvm.arrayLocs frame_1_arrays args s ++ Jvm.staticLocs frame_1_statics s) 16 128 → Post tb e args s (.returned v) u) :
    ArmFor flags0 classFile x code maxLocals ret World_1 tables_1 room_1 Calls_1 rest_1 Pre_1 Post := by
  intro l hfl _ _ p e ha hc hk s m args below hf hA hF happ hP
  obtain ⟨hcalls, hrest, hpre⟩ := hP
  obtain ⟨-, -, -, hnamed, -, -, -, hat⟩ := (Spec.applies_iff hf).mp happ
  obtain ⟨hg, hn⟩ := and_e (Cond.before_iff.mp (show (Jvm.Cond.and given_1 narrow_1).before args s = true from hpre))
  obtain ⟨gc, gr0⟩ := and_e hg
  obtain ⟨ga0, ga1⟩ := and_e gr0
  obtain ⟨w0, w1, rfl⟩ : ∃ w0 w1 : Value, args = #[w0, w1] := by
    have hs : args.size = 2 := by simpa [Cond.value, given_1] using gc
    obtain ⟨L⟩ := args
    match L, hs with
    | [w0, w1], _ => exact ⟨w0, w1, rfl⟩
  have hw := fun d (hd : d ∈ tables_1) => atoms_spec (ws := Jvm.Cond.code x code maxLocals ret :: tables_1) hat d (List.mem_cons_of_mem _ hd)
  have hfit : Fit s := fun {y c} hc i hi => by
    obtain ⟨ha, rfl⟩ := Array.getElem?_eq_some_iff.mp hc
    have q := List.all_eq_true.mp ((Array.all_eq_true_iff_forall_mem.mp hF) _ (Array.getElem_mem ha)) i (List.mem_range.mpr hi)
    simpa [Array.getElem?_eq_getElem hi] using q
  obtain ⟨i0, ei0⟩ := is_v ga0
  obtain rfl : w0 = (.int i0) := Option.some.inj ei0
  obtain ⟨i1, ei1⟩ := is_v ga1
  obtain rfl : w1 = (.int i1) := Option.some.inj ei1
  obtain ⟨nr0, hn0⟩ := and_e hn
  obtain ⟨nr1, hn1⟩ := and_e hn0
  obtain ⟨nr2, hn2⟩ := and_e hn1
  obtain ⟨nr3, hn3⟩ := and_e hn2
  obtain ⟨nr4, hn4⟩ := and_e hn3
  obtain ⟨nr5, hn5⟩ := and_e hn4
  obtain ⟨nr6, hn6⟩ := and_e hn5
  obtain ⟨nr7, hn7⟩ := and_e hn6
  obtain ⟨nr8, hn8⟩ := and_e hn7
  obtain ⟨nr9, hn9⟩ := and_e hn8
  obtain ⟨nr10, hn10⟩ := and_e hn9
  obtain ⟨nr11, hn11⟩ := and_e hn10
  obtain ⟨nr12, hn12⟩ := and_e hn11
  obtain ⟨nr13, hn13⟩ := and_e hn12
  obtain ⟨nr14, hn14⟩ := and_e hn13
  obtain ⟨nr15, hn15⟩ := and_e hn14
  obtain ⟨nr16, hn16⟩ := and_e hn15
  obtain ⟨nr17, hn17⟩ := and_e hn16
  obtain ⟨nr18, hn18⟩ := and_e hn17
  obtain ⟨nr19, hn19⟩ := and_e hn18
  obtain ⟨nr20, hn20⟩ := and_e hn19
  obtain ⟨nr21, hn21⟩ := and_e hn20
  obtain ⟨nr22, hn22⟩ := and_e hn21
  obtain ⟨nr23, hn23⟩ := and_e hn22
  obtain ⟨nr24, hn24⟩ := and_e hn23
  obtain ⟨nr25, hn25⟩ := and_e hn24
  obtain ⟨nr26, hn26⟩ := and_e hn25
  obtain ⟨nr27, hn27⟩ := and_e hn26
  obtain ⟨nr28, hn28⟩ := and_e hn27
  obtain ⟨nr29, hn29⟩ := and_e hn28
  obtain ⟨nr30, hn30⟩ := and_e hn29
  obtain ⟨nr31, hn31⟩ := and_e hn30
  obtain ⟨nr32, hn32⟩ := and_e hn31
  obtain ⟨nr33, hn33⟩ := and_e hn32
  obtain ⟨nr34, hn34⟩ := and_e hn33
  obtain ⟨nr35, hn35⟩ := and_e hn34
  obtain ⟨nr36, hn36⟩ := and_e hn35
  obtain ⟨nr37, hn37⟩ := and_e hn36
  obtain ⟨nr38, hn38⟩ := and_e hn37
  obtain ⟨nr39, hn39⟩ := and_e hn38
  obtain ⟨nr40, hn40⟩ := and_e hn39
  obtain ⟨nr41, hn41⟩ := and_e hn40
  obtain ⟨nr42, hn42⟩ := and_e hn41
  obtain ⟨nr43, hn43⟩ := and_e hn42
  obtain ⟨nr44, hn44⟩ := and_e hn43
  obtain ⟨nr45, hn45⟩ := and_e hn44
  obtain ⟨nr46, hn46⟩ := and_e hn45
  obtain ⟨nr47, hn47⟩ := and_e hn46
  obtain ⟨nr48, hn48⟩ := and_e hn47
  obtain ⟨nr49, hn49⟩ := and_e hn48
  obtain ⟨nr50, hn50⟩ := and_e hn49
  obtain ⟨nr51, hn51⟩ := and_e hn50
  obtain ⟨nr52, nr53⟩ := and_e hn51
  obtain ⟨w_VALUES, evw_VALUES⟩ := exa_v nr1
  have S_VALUES : Sta s s.heap "com/example/idem_log/idemlog/protocol/Api" "$VALUES" "[Lcom/example/idem_log/idemlog/protocol/Api;" (.ref w_VALUES) := Sta.start evw_VALUES (Or.inr ⟨(hw _ (List.mem_of_getElem? (i := 2) rfl)), (hw _ (List.mem_of_getElem? (i := 8) rfl))⟩)
  obtain ⟨wPRODUCE, evwPRODUCE⟩ := exa_v nr3
  have SPRODUCE : Sta s s.heap "com/example/idem_log/idemlog/protocol/Api" "PRODUCE" "Lcom/example/idem_log/idemlog/protocol/Api;" (.ref wPRODUCE) := Sta.start evwPRODUCE (Or.inr ⟨(hw _ (List.mem_of_getElem? (i := 2) rfl)), (hw _ (List.mem_of_getElem? (i := 16) rfl))⟩)
  obtain ⟨wFETCH, evwFETCH⟩ := exa_v nr5
  have SFETCH : Sta s s.heap "com/example/idem_log/idemlog/protocol/Api" "FETCH" "Lcom/example/idem_log/idemlog/protocol/Api;" (.ref wFETCH) := Sta.start evwFETCH (Or.inr ⟨(hw _ (List.mem_of_getElem? (i := 2) rfl)), (hw _ (List.mem_of_getElem? (i := 17) rfl))⟩)
  obtain ⟨wLIST_OFFSETS, evwLIST_OFFSETS⟩ := exa_v nr7
  have SLIST_OFFSETS : Sta s s.heap "com/example/idem_log/idemlog/protocol/Api" "LIST_OFFSETS" "Lcom/example/idem_log/idemlog/protocol/Api;" (.ref wLIST_OFFSETS) := Sta.start evwLIST_OFFSETS (Or.inr ⟨(hw _ (List.mem_of_getElem? (i := 2) rfl)), (hw _ (List.mem_of_getElem? (i := 18) rfl))⟩)
  obtain ⟨wMETADATA, evwMETADATA⟩ := exa_v nr9
  have SMETADATA : Sta s s.heap "com/example/idem_log/idemlog/protocol/Api" "METADATA" "Lcom/example/idem_log/idemlog/protocol/Api;" (.ref wMETADATA) := Sta.start evwMETADATA (Or.inr ⟨(hw _ (List.mem_of_getElem? (i := 2) rfl)), (hw _ (List.mem_of_getElem? (i := 19) rfl))⟩)
  obtain ⟨wOFFSET_COMMIT, evwOFFSET_COMMIT⟩ := exa_v nr11
  have SOFFSET_COMMIT : Sta s s.heap "com/example/idem_log/idemlog/protocol/Api" "OFFSET_COMMIT" "Lcom/example/idem_log/idemlog/protocol/Api;" (.ref wOFFSET_COMMIT) := Sta.start evwOFFSET_COMMIT (Or.inr ⟨(hw _ (List.mem_of_getElem? (i := 2) rfl)), (hw _ (List.mem_of_getElem? (i := 20) rfl))⟩)
  obtain ⟨wOFFSET_FETCH, evwOFFSET_FETCH⟩ := exa_v nr13
  have SOFFSET_FETCH : Sta s s.heap "com/example/idem_log/idemlog/protocol/Api" "OFFSET_FETCH" "Lcom/example/idem_log/idemlog/protocol/Api;" (.ref wOFFSET_FETCH) := Sta.start evwOFFSET_FETCH (Or.inr ⟨(hw _ (List.mem_of_getElem? (i := 2) rfl)), (hw _ (List.mem_of_getElem? (i := 21) rfl))⟩)
  obtain ⟨wFIND_COORDINATOR, evwFIND_COORDINATOR⟩ := exa_v nr15
  have SFIND_COORDINATOR : Sta s s.heap "com/example/idem_log/idemlog/protocol/Api" "FIND_COORDINATOR" "Lcom/example/idem_log/idemlog/protocol/Api;" (.ref wFIND_COORDINATOR) := Sta.start evwFIND_COORDINATOR (Or.inr ⟨(hw _ (List.mem_of_getElem? (i := 2) rfl)), (hw _ (List.mem_of_getElem? (i := 22) rfl))⟩)
  obtain ⟨wJOIN_GROUP, evwJOIN_GROUP⟩ := exa_v nr17
  have SJOIN_GROUP : Sta s s.heap "com/example/idem_log/idemlog/protocol/Api" "JOIN_GROUP" "Lcom/example/idem_log/idemlog/protocol/Api;" (.ref wJOIN_GROUP) := Sta.start evwJOIN_GROUP (Or.inr ⟨(hw _ (List.mem_of_getElem? (i := 2) rfl)), (hw _ (List.mem_of_getElem? (i := 23) rfl))⟩)
  obtain ⟨wHEARTBEAT, evwHEARTBEAT⟩ := exa_v nr19
  have SHEARTBEAT : Sta s s.heap "com/example/idem_log/idemlog/protocol/Api" "HEARTBEAT" "Lcom/example/idem_log/idemlog/protocol/Api;" (.ref wHEARTBEAT) := Sta.start evwHEARTBEAT (Or.inr ⟨(hw _ (List.mem_of_getElem? (i := 2) rfl)), (hw _ (List.mem_of_getElem? (i := 24) rfl))⟩)
  obtain ⟨wLEAVE_GROUP, evwLEAVE_GROUP⟩ := exa_v nr21
  have SLEAVE_GROUP : Sta s s.heap "com/example/idem_log/idemlog/protocol/Api" "LEAVE_GROUP" "Lcom/example/idem_log/idemlog/protocol/Api;" (.ref wLEAVE_GROUP) := Sta.start evwLEAVE_GROUP (Or.inr ⟨(hw _ (List.mem_of_getElem? (i := 2) rfl)), (hw _ (List.mem_of_getElem? (i := 25) rfl))⟩)
  obtain ⟨wSYNC_GROUP, evwSYNC_GROUP⟩ := exa_v nr23
  have SSYNC_GROUP : Sta s s.heap "com/example/idem_log/idemlog/protocol/Api" "SYNC_GROUP" "Lcom/example/idem_log/idemlog/protocol/Api;" (.ref wSYNC_GROUP) := Sta.start evwSYNC_GROUP (Or.inr ⟨(hw _ (List.mem_of_getElem? (i := 2) rfl)), (hw _ (List.mem_of_getElem? (i := 26) rfl))⟩)
  obtain ⟨wAPI_VERSIONS, evwAPI_VERSIONS⟩ := exa_v nr25
  have SAPI_VERSIONS : Sta s s.heap "com/example/idem_log/idemlog/protocol/Api" "API_VERSIONS" "Lcom/example/idem_log/idemlog/protocol/Api;" (.ref wAPI_VERSIONS) := Sta.start evwAPI_VERSIONS (Or.inr ⟨(hw _ (List.mem_of_getElem? (i := 2) rfl)), (hw _ (List.mem_of_getElem? (i := 27) rfl))⟩)
  obtain ⟨wINIT_PRODUCER_ID, evwINIT_PRODUCER_ID⟩ := exa_v nr27
  have SINIT_PRODUCER_ID : Sta s s.heap "com/example/idem_log/idemlog/protocol/Api" "INIT_PRODUCER_ID" "Lcom/example/idem_log/idemlog/protocol/Api;" (.ref wINIT_PRODUCER_ID) := Sta.start evwINIT_PRODUCER_ID (Or.inr ⟨(hw _ (List.mem_of_getElem? (i := 2) rfl)), (hw _ (List.mem_of_getElem? (i := 28) rfl))⟩)
  obtain ⟨wADD_PARTITIONS_TO_TXN, evwADD_PARTITIONS_TO_TXN⟩ := exa_v nr29
  have SADD_PARTITIONS_TO_TXN : Sta s s.heap "com/example/idem_log/idemlog/protocol/Api" "ADD_PARTITIONS_TO_TXN" "Lcom/example/idem_log/idemlog/protocol/Api;" (.ref wADD_PARTITIONS_TO_TXN) := Sta.start evwADD_PARTITIONS_TO_TXN (Or.inr ⟨(hw _ (List.mem_of_getElem? (i := 2) rfl)), (hw _ (List.mem_of_getElem? (i := 29) rfl))⟩)
  obtain ⟨wADD_OFFSETS_TO_TXN, evwADD_OFFSETS_TO_TXN⟩ := exa_v nr31
  have SADD_OFFSETS_TO_TXN : Sta s s.heap "com/example/idem_log/idemlog/protocol/Api" "ADD_OFFSETS_TO_TXN" "Lcom/example/idem_log/idemlog/protocol/Api;" (.ref wADD_OFFSETS_TO_TXN) := Sta.start evwADD_OFFSETS_TO_TXN (Or.inr ⟨(hw _ (List.mem_of_getElem? (i := 2) rfl)), (hw _ (List.mem_of_getElem? (i := 30) rfl))⟩)
  obtain ⟨wEND_TXN, evwEND_TXN⟩ := exa_v nr33
  have SEND_TXN : Sta s s.heap "com/example/idem_log/idemlog/protocol/Api" "END_TXN" "Lcom/example/idem_log/idemlog/protocol/Api;" (.ref wEND_TXN) := Sta.start evwEND_TXN (Or.inr ⟨(hw _ (List.mem_of_getElem? (i := 2) rfl)), (hw _ (List.mem_of_getElem? (i := 31) rfl))⟩)
  obtain ⟨wTXN_OFFSET_COMMIT, evwTXN_OFFSET_COMMIT⟩ := exa_v nr35
  have STXN_OFFSET_COMMIT : Sta s s.heap "com/example/idem_log/idemlog/protocol/Api" "TXN_OFFSET_COMMIT" "Lcom/example/idem_log/idemlog/protocol/Api;" (.ref wTXN_OFFSET_COMMIT) := Sta.start evwTXN_OFFSET_COMMIT (Or.inr ⟨(hw _ (List.mem_of_getElem? (i := 2) rfl)), (hw _ (List.mem_of_getElem? (i := 32) rfl))⟩)
  have E_VALUES : Exa s s.heap w_VALUES "[Lcom/example/idem_log/idemlog/protocol/Api;" := Exa.start evw_VALUES nr1
  have EPRODUCE : Exa s s.heap wPRODUCE "com/example/idem_log/idemlog/protocol/Api" := Exa.start evwPRODUCE nr3
  have EFETCH : Exa s s.heap wFETCH "com/example/idem_log/idemlog/protocol/Api" := Exa.start evwFETCH nr5
  have ELIST_OFFSETS : Exa s s.heap wLIST_OFFSETS "com/example/idem_log/idemlog/protocol/Api" := Exa.start evwLIST_OFFSETS nr7
  have EMETADATA : Exa s s.heap wMETADATA "com/example/idem_log/idemlog/protocol/Api" := Exa.start evwMETADATA nr9
  have EOFFSET_COMMIT : Exa s s.heap wOFFSET_COMMIT "com/example/idem_log/idemlog/protocol/Api" := Exa.start evwOFFSET_COMMIT nr11
  have EOFFSET_FETCH : Exa s s.heap wOFFSET_FETCH "com/example/idem_log/idemlog/protocol/Api" := Exa.start evwOFFSET_FETCH nr13
  have EFIND_COORDINATOR : Exa s s.heap wFIND_COORDINATOR "com/example/idem_log/idemlog/protocol/Api" := Exa.start evwFIND_COORDINATOR nr15
  have EJOIN_GROUP : Exa s s.heap wJOIN_GROUP "com/example/idem_log/idemlog/protocol/Api" := Exa.start evwJOIN_GROUP nr17
  have EHEARTBEAT : Exa s s.heap wHEARTBEAT "com/example/idem_log/idemlog/protocol/Api" := Exa.start evwHEARTBEAT nr19
  have ELEAVE_GROUP : Exa s s.heap wLEAVE_GROUP "com/example/idem_log/idemlog/protocol/Api" := Exa.start evwLEAVE_GROUP nr21
  have ESYNC_GROUP : Exa s s.heap wSYNC_GROUP "com/example/idem_log/idemlog/protocol/Api" := Exa.start evwSYNC_GROUP nr23
  have EAPI_VERSIONS : Exa s s.heap wAPI_VERSIONS "com/example/idem_log/idemlog/protocol/Api" := Exa.start evwAPI_VERSIONS nr25
  have EINIT_PRODUCER_ID : Exa s s.heap wINIT_PRODUCER_ID "com/example/idem_log/idemlog/protocol/Api" := Exa.start evwINIT_PRODUCER_ID nr27
  have EADD_PARTITIONS_TO_TXN : Exa s s.heap wADD_PARTITIONS_TO_TXN "com/example/idem_log/idemlog/protocol/Api" := Exa.start evwADD_PARTITIONS_TO_TXN nr29
  have EADD_OFFSETS_TO_TXN : Exa s s.heap wADD_OFFSETS_TO_TXN "com/example/idem_log/idemlog/protocol/Api" := Exa.start evwADD_OFFSETS_TO_TXN nr31
  have EEND_TXN : Exa s s.heap wEND_TXN "com/example/idem_log/idemlog/protocol/Api" := Exa.start evwEND_TXN nr33
  have ETXN_OFFSET_COMMIT : Exa s s.heap wTXN_OFFSET_COMMIT "com/example/idem_log/idemlog/protocol/Api" := Exa.start evwTXN_OFFSET_COMMIT nr35
  have FPRODUCE_key : Fld s s.heap wPRODUCE "com/example/idem_log/idemlog/protocol/Api" "key" "S" (.int (0 : Int32)) := own_fldI evwPRODUCE nr37
  have FFETCH_key : Fld s s.heap wFETCH "com/example/idem_log/idemlog/protocol/Api" "key" "S" (.int (1 : Int32)) := own_fldI evwFETCH nr38
  have FLIST_OFFSETS_key : Fld s s.heap wLIST_OFFSETS "com/example/idem_log/idemlog/protocol/Api" "key" "S" (.int (2 : Int32)) := own_fldI evwLIST_OFFSETS nr39
  have FMETADATA_key : Fld s s.heap wMETADATA "com/example/idem_log/idemlog/protocol/Api" "key" "S" (.int (3 : Int32)) := own_fldI evwMETADATA nr40
  have FOFFSET_COMMIT_key : Fld s s.heap wOFFSET_COMMIT "com/example/idem_log/idemlog/protocol/Api" "key" "S" (.int (8 : Int32)) := own_fldI evwOFFSET_COMMIT nr41
  have FOFFSET_FETCH_key : Fld s s.heap wOFFSET_FETCH "com/example/idem_log/idemlog/protocol/Api" "key" "S" (.int (9 : Int32)) := own_fldI evwOFFSET_FETCH nr42
  have FFIND_COORDINATOR_key : Fld s s.heap wFIND_COORDINATOR "com/example/idem_log/idemlog/protocol/Api" "key" "S" (.int (10 : Int32)) := own_fldI evwFIND_COORDINATOR nr43
  have FJOIN_GROUP_key : Fld s s.heap wJOIN_GROUP "com/example/idem_log/idemlog/protocol/Api" "key" "S" (.int (11 : Int32)) := own_fldI evwJOIN_GROUP nr44
  have FHEARTBEAT_key : Fld s s.heap wHEARTBEAT "com/example/idem_log/idemlog/protocol/Api" "key" "S" (.int (12 : Int32)) := own_fldI evwHEARTBEAT nr45
  have FLEAVE_GROUP_key : Fld s s.heap wLEAVE_GROUP "com/example/idem_log/idemlog/protocol/Api" "key" "S" (.int (13 : Int32)) := own_fldI evwLEAVE_GROUP nr46
  have FSYNC_GROUP_key : Fld s s.heap wSYNC_GROUP "com/example/idem_log/idemlog/protocol/Api" "key" "S" (.int (14 : Int32)) := own_fldI evwSYNC_GROUP nr47
  have FAPI_VERSIONS_key : Fld s s.heap wAPI_VERSIONS "com/example/idem_log/idemlog/protocol/Api" "key" "S" (.int (18 : Int32)) := own_fldI evwAPI_VERSIONS nr48
  have FINIT_PRODUCER_ID_key : Fld s s.heap wINIT_PRODUCER_ID "com/example/idem_log/idemlog/protocol/Api" "key" "S" (.int (22 : Int32)) := own_fldI evwINIT_PRODUCER_ID nr49
  have FADD_PARTITIONS_TO_TXN_key : Fld s s.heap wADD_PARTITIONS_TO_TXN "com/example/idem_log/idemlog/protocol/Api" "key" "S" (.int (24 : Int32)) := own_fldI evwADD_PARTITIONS_TO_TXN nr50
  have FADD_OFFSETS_TO_TXN_key : Fld s s.heap wADD_OFFSETS_TO_TXN "com/example/idem_log/idemlog/protocol/Api" "key" "S" (.int (25 : Int32)) := own_fldI evwADD_OFFSETS_TO_TXN nr51
  have FEND_TXN_key : Fld s s.heap wEND_TXN "com/example/idem_log/idemlog/protocol/Api" "key" "S" (.int (26 : Int32)) := own_fldI evwEND_TXN nr52
  have FTXN_OFFSET_COMMIT_key : Fld s s.heap wTXN_OFFSET_COMMIT "com/example/idem_log/idemlog/protocol/Api" "key" "S" (.int (28 : Int32)) := own_fldI evwTXN_OFFSET_COMMIT nr53
  obtain ⟨clw_VALUES, Arw_VALUES⟩ := Arr.start evw_VALUES nr0
  have elw_VALUES_0 : clw_VALUES.slots[0]? = some (.ref wPRODUCE) := own_elR evw_VALUES evwPRODUCE Arw_VALUES.1 nr4 rfl
  have elw_VALUES_1 : clw_VALUES.slots[1]? = some (.ref wFETCH) := own_elR evw_VALUES evwFETCH Arw_VALUES.1 nr6 rfl
  have elw_VALUES_2 : clw_VALUES.slots[2]? = some (.ref wLIST_OFFSETS) := own_elR evw_VALUES evwLIST_OFFSETS Arw_VALUES.1 nr8 rfl
  have elw_VALUES_3 : clw_VALUES.slots[3]? = some (.ref wMETADATA) := own_elR evw_VALUES evwMETADATA Arw_VALUES.1 nr10 rfl
  have elw_VALUES_4 : clw_VALUES.slots[4]? = some (.ref wOFFSET_COMMIT) := own_elR evw_VALUES evwOFFSET_COMMIT Arw_VALUES.1 nr12 rfl
  have elw_VALUES_5 : clw_VALUES.slots[5]? = some (.ref wOFFSET_FETCH) := own_elR evw_VALUES evwOFFSET_FETCH Arw_VALUES.1 nr14 rfl
  have elw_VALUES_6 : clw_VALUES.slots[6]? = some (.ref wFIND_COORDINATOR) := own_elR evw_VALUES evwFIND_COORDINATOR Arw_VALUES.1 nr16 rfl
  have elw_VALUES_7 : clw_VALUES.slots[7]? = some (.ref wJOIN_GROUP) := own_elR evw_VALUES evwJOIN_GROUP Arw_VALUES.1 nr18 rfl
  have elw_VALUES_8 : clw_VALUES.slots[8]? = some (.ref wHEARTBEAT) := own_elR evw_VALUES evwHEARTBEAT Arw_VALUES.1 nr20 rfl
  have elw_VALUES_9 : clw_VALUES.slots[9]? = some (.ref wLEAVE_GROUP) := own_elR evw_VALUES evwLEAVE_GROUP Arw_VALUES.1 nr22 rfl
  have elw_VALUES_10 : clw_VALUES.slots[10]? = some (.ref wSYNC_GROUP) := own_elR evw_VALUES evwSYNC_GROUP Arw_VALUES.1 nr24 rfl
  have elw_VALUES_11 : clw_VALUES.slots[11]? = some (.ref wAPI_VERSIONS) := own_elR evw_VALUES evwAPI_VERSIONS Arw_VALUES.1 nr26 rfl
  have elw_VALUES_12 : clw_VALUES.slots[12]? = some (.ref wINIT_PRODUCER_ID) := own_elR evw_VALUES evwINIT_PRODUCER_ID Arw_VALUES.1 nr28 rfl
  have elw_VALUES_13 : clw_VALUES.slots[13]? = some (.ref wADD_PARTITIONS_TO_TXN) := own_elR evw_VALUES evwADD_PARTITIONS_TO_TXN Arw_VALUES.1 nr30 rfl
  have elw_VALUES_14 : clw_VALUES.slots[14]? = some (.ref wADD_OFFSETS_TO_TXN) := own_elR evw_VALUES evwADD_OFFSETS_TO_TXN Arw_VALUES.1 nr32 rfl
  have elw_VALUES_15 : clw_VALUES.slots[15]? = some (.ref wEND_TXN) := own_elR evw_VALUES evwEND_TXN Arw_VALUES.1 nr34 rfl
  have elw_VALUES_16 : clw_VALUES.slots[16]? = some (.ref wTXN_OFFSET_COMMIT) := own_elR evw_VALUES evwTXN_OFFSET_COMMIT Arw_VALUES.1 nr36 rfl
  obtain ⟨qlw_VALUES, zlw_VALUES⟩ := own_len evw_VALUES Arw_VALUES nr2
  have A_VALUES : Arv s s.heap w_VALUES clw_VALUES.cls (.object "com/example/idem_log/idemlog/protocol/Api") (17 : Int32) [(.ref wPRODUCE), (.ref wFETCH), (.ref wLIST_OFFSETS), (.ref wMETADATA), (.ref wOFFSET_COMMIT), (.ref wOFFSET_FETCH), (.ref wFIND_COORDINATOR), (.ref wJOIN_GROUP), (.ref wHEARTBEAT), (.ref wLEAVE_GROUP), (.ref wSYNC_GROUP), (.ref wAPI_VERSIONS), (.ref wINIT_PRODUCER_ID), (.ref wADD_PARTITIONS_TO_TXN), (.ref wADD_OFFSETS_TO_TXN), (.ref wEND_TXN), (.ref wTXN_OFFSET_COMMIT)] .null := Arv.start hfit Arw_VALUES qlw_VALUES zlw_VALUES (by decide) rfl ⟨elw_VALUES_0, elw_VALUES_1, elw_VALUES_2, elw_VALUES_3, elw_VALUES_4, elw_VALUES_5, elw_VALUES_6, elw_VALUES_7, elw_VALUES_8, elw_VALUES_9, elw_VALUES_10, elw_VALUES_11, elw_VALUES_12, elw_VALUES_13, elw_VALUES_14, elw_VALUES_15, elw_VALUES_16, trivial⟩
  obtain ⟨n, o, h1, h2, h3, _, L, rfl, ⟨rfl, N⟩, hq⟩ := rm0 l s _ hw tables_1 i0 i1 w_VALUES wPRODUCE wFETCH wLIST_OFFSETS wMETADATA wOFFSET_COMMIT wOFFSET_FETCH wFIND_COORDINATOR wJOIN_GROUP wHEARTBEAT wLEAVE_GROUP wSYNC_GROUP wAPI_VERSIONS wINIT_PRODUCER_ID wADD_PARTITIONS_TO_TXN wADD_OFFSETS_TO_TXN wEND_TXN wTXN_OFFSET_COMMIT clw_VALUES.cls s.heap s.heap.size (Nat.le_refl _) ⟨S_VALUES, E_VALUES, SPRODUCE, EPRODUCE, SFETCH, EFETCH, SLIST_OFFSETS, ELIST_OFFSETS, SMETADATA, EMETADATA, SOFFSET_COMMIT, EOFFSET_COMMIT, SOFFSET_FETCH, EOFFSET_FETCH, SFIND_COORDINATOR, EFIND_COORDINATOR, SJOIN_GROUP, EJOIN_GROUP, SHEARTBEAT, EHEARTBEAT, SLEAVE_GROUP, ELEAVE_GROUP, SSYNC_GROUP, ESYNC_GROUP, SAPI_VERSIONS, EAPI_VERSIONS, SINIT_PRODUCER_ID, EINIT_PRODUCER_ID, SADD_PARTITIONS_TO_TXN, EADD_PARTITIONS_TO_TXN, SADD_OFFSETS_TO_TXN, EADD_OFFSETS_TO_TXN, SEND_TXN, EEND_TXN, STXN_OFFSET_COMMIT, ETXN_OFFSET_COMMIT, FPRODUCE_key, FFETCH_key, FLIST_OFFSETS_key, FMETADATA_key, FOFFSET_COMMIT_key, FOFFSET_FETCH_key, FFIND_COORDINATOR_key, FJOIN_GROUP_key, FHEARTBEAT_key, FLEAVE_GROUP_key, FSYNC_GROUP_key, FAPI_VERSIONS_key, FINIT_PRODUCER_ID_key, FADD_PARTITIONS_TO_TXN_key, FADD_OFFSETS_TO_TXN_key, FEND_TXN_key, FTXN_OFFSET_COMMIT_key, A_VALUES, trivial⟩  p e ha hc hk s m _ below hf ((Spec.applies_iff_loose hf).mp happ).1 ⟨rfl, State.Warmed39.refl s, rfl⟩ trivial
  refine ⟨n, _, h1, h2, h3, hpost _ _ _ _ _ _ ⟨Cond.after_iff.mpr rfl, Cond.after_iff.mpr (eq_i res_at (Term.int_eval (1)) rfl), trivial⟩ ⟨hq.1, hq.2.1, (hq.2.2.sift fun y hy => Or.inr (N y hy)).mono (by decide) (by decide)⟩⟩
theorem main_1_1 : Claimed_1_1 := comes_1 fun _ _ _ _ _ _ h hF => ⟨h.1, hF⟩
theorem main_1_2 : Claimed_1_2 := comes_1 fun _ _ _ _ _ _ h hF => ⟨h.2.1, hF⟩
end Jvm.Pilot.@@N@@
namespace Jvm.Pilot.@@N@@
open Jvm Jvm.ClassFile Sem Op Lib Jvm.Free Jvm.Stand Jvm.Pilot.@@N@@.Jvm.D
/-! MADE BY PROGRAM (witnessworld.py) out of the Statement's table words and the real class files: 13 classes; the members and pool entries that the words name. The judged class is class 1, her method 2. -/
namespace start1
open Jvm.ClassFile
def u (s : String) : CpInfo := .utf8 (stringToUtf16 s)
/-- a pool by its gaps: so many unusable entries, then the entry; so many at the end -/
def gap : Nat → List CpInfo → List CpInfo
  | 0, r => r
  | n + 1, r => .unusable :: gap n r
def poolList (es : List (Nat × CpInfo)) (last : Nat) : List CpInfo := es.foldr (fun e r => gap e.1 (e.2 :: r)) (gap last [])
def pool (es : List (Nat × CpInfo)) (last : Nat) : Array CpInfo := ⟨poolList es last⟩
def fileOf (pool : Array CpInfo) (this : Nat) (attrs : Array Attribute := #[]) (ms : Array MethodInfo := #[]) (fl : Nat := 33) (sup : Nat := 0) (ifs : Array Nat := #[]) (fds : Array FieldInfo := #[]) : ClassFile where
  minorVersion := 0
  majorVersion := 65
  constantPool := pool
  accessFlags := fl
  thisClass := this
  superClass := sup
  interfaces := ifs
  fields := fds
  methods := ms
  attributes := attrs
def plain (name : String) (sup : Option ClassId) : Class where
  name := name
  kind := .ordinary
  loader := none
  accessFlags := 33
  super := sup
  interfaces := #[]
  cf := none
  fields := #[]
  methods := #[]
  instanceTypes := #[]
  staticTypes := #[]
  resolved := #[]
  callSites := []
  init := .initialized
  statics := none
  mirror := none

def pool0 : Array CpInfo := pool [(5, u "<init>"), (0, u "()V"), (1, .class_ 10), (1, u "java/lang/Object"), (85, u "clone"), (0, u "()Ljava/lang/Object;")] 26

def k0m0 : Method := { name := "<init>", desc := "()V", sig := { parameters := [], returnType := none }, accessFlags := 1, code := none }
def k0m1 : Method := { name := "clone", desc := "()Ljava/lang/Object;", sig := { parameters := [], returnType := some (.object "java/lang/Object") }, accessFlags := 260, code := none }
/-- java/lang/Object -/
def k0 : Class := { plain "java/lang/Object" none with
  accessFlags := 33
  interfaces := #[]
  cf := some (fileOf pool0 8 #[] #[{ accessFlags := 1, nameIndex := 5, descriptorIndex := 6, attributes := #[] }, { accessFlags := 260, nameIndex := 96, descriptorIndex := 97, attributes := #[] }] 33 0 #[] #[])
  fields := #[]
  methods := #[k0m0, k0m1]
  instanceTypes := #[]
  staticTypes := #[]
  resolved := Array.replicate 124 none
  statics := none }

def pool1 : Array CpInfo := pool [(2, .class_ 4), (1, u "java/lang/Object"), (0, u "<init>"), (0, u "()V"), (0, .fieldref 8 9), (0, .class_ 10), (0, .nameAndType 11 12), (0, u "com/example/idem_log/idemlog/protocol/Api"), (0, u "PRODUCE"), (0, u "Lcom/example/idem_log/idemlog/protocol/Api;"), (0, .fieldref 8 14), (0, .nameAndType 15 12), (0, u "FETCH"), (0, .fieldref 8 17), (0, .nameAndType 18 12), (0, u "LIST_OFFSETS"), (0, .fieldref 8 20), (0, .nameAndType 21 12), (0, u "METADATA"), (0, .fieldref 8 23), (0, .nameAndType 24 12), (0, u "OFFSET_COMMIT"), (0, .fieldref 8 26), (0, .nameAndType 27 12), (0, u "OFFSET_FETCH"), (0, .fieldref 8 29), (0, .nameAndType 30 12), (0, u "FIND_COORDINATOR"), (0, .fieldref 8 32), (0, .nameAndType 33 12), (0, u "JOIN_GROUP"), (0, .fieldref 8 35), (0, .nameAndType 36 12), (0, u "HEARTBEAT"), (0, .fieldref 8 38), (0, .nameAndType 39 12), (0, u "LEAVE_GROUP"), (0, .fieldref 8 41), (0, .nameAndType 42 12), (0, u "SYNC_GROUP"), (0, .fieldref 8 44), (0, .nameAndType 45 12), (0, u "API_VERSIONS"), (0, .fieldref 8 47), (0, .nameAndType 48 12), (0, u "INIT_PRODUCER_ID"), (0, .fieldref 8 50), (0, .nameAndType 51 12), (0, u "ADD_PARTITIONS_TO_TXN"), (0, .fieldref 8 53), (0, .nameAndType 54 12), (0, u "ADD_OFFSETS_TO_TXN"), (0, .fieldref 8 56), (0, .nameAndType 57 12), (0, u "END_TXN"), (0, .fieldref 8 59), (0, .nameAndType 60 12), (0, u "TXN_OFFSET_COMMIT"), (0, .methodref 8 62), (0, .nameAndType 63 64), (0, u "forKey"), (0, u "(S)Lcom/example/idem_log/idemlog/protocol/Api;"), (0, .methodref 66 67), (0, .class_ 68), (0, .nameAndType 69 70), (0, u "com/example/idem_log/idemlog/protocol/ApiForKeyPinLaw"), (0, u "expected"), (0, u "(I)Lcom/example/idem_log/idemlog/protocol/Api;"), (0, .fieldref 8 72), (0, .nameAndType 73 74), (0, u "key"), (0, u "S"), (3, u "law"), (0, u "(II)Z")] 2

def k1m0 : Method := { name := "<init>", desc := "()V", sig := { parameters := [], returnType := none }, accessFlags := 2, code := none }
def k1c1 : Code := { maxStack := 2, maxLocals := 1, code := method_2_code, exceptionTable := #[], attributes := #[] }
def k1m1 : Method := { name := "expected", desc := "(I)Lcom/example/idem_log/idemlog/protocol/Api;", sig := { parameters := [.int], returnType := some (.object "com/example/idem_log/idemlog/protocol/Api") }, accessFlags := 10, code := some k1c1 }
def k1c2 : Code := { maxStack := 2, maxLocals := 5, code := code, exceptionTable := #[], attributes := #[] }
def k1m2 : Method := { name := "law", desc := "(II)Z", sig := { parameters := [.int, .int], returnType := some .boolean }, accessFlags := 9, code := some k1c2 }
/-- com/example/idem_log/idemlog/protocol/ApiForKeyPinLaw -/
def k1 : Class := { plain "com/example/idem_log/idemlog/protocol/ApiForKeyPinLaw" (some 0) with
  accessFlags := 49
  interfaces := #[]
  cf := some (fileOf pool1 66 #[] #[{ accessFlags := 2, nameIndex := 5, descriptorIndex := 6, attributes := #[] }, { accessFlags := 10, nameIndex := 69, descriptorIndex := 70, attributes := #[] }, { accessFlags := 9, nameIndex := 78, descriptorIndex := 79, attributes := #[] }] 49 2 #[] #[])
  fields := #[]
  methods := #[k1m0, k1m1, k1m2]
  instanceTypes := #[]
  staticTypes := #[]
  resolved := Array.replicate 82 none
  statics := none }

def pool2 : Array CpInfo := pool [(1, .class_ 2), (0, u "java/lang/constant/Constable"), (0, .class_ 4), (0, u "java/lang/Object")] 6

/-- java/lang/constant/Constable -/
def k2 : Class := { plain "java/lang/constant/Constable" (some 0) with
  accessFlags := 1537
  interfaces := #[]
  cf := some (fileOf pool2 1 #[] #[] 1537 3 #[] #[])
  fields := #[]
  methods := #[]
  instanceTypes := #[]
  staticTypes := #[]
  resolved := Array.replicate 11 none
  statics := none }

def pool3 : Array CpInfo := pool [(1, .class_ 2), (0, u "java/lang/Comparable"), (0, .class_ 4), (0, u "java/lang/Object")] 7

/-- java/lang/Comparable -/
def k3 : Class := { plain "java/lang/Comparable" (some 0) with
  accessFlags := 1537
  interfaces := #[]
  cf := some (fileOf pool3 1 #[] #[] 1537 3 #[] #[])
  fields := #[]
  methods := #[]
  instanceTypes := #[]
  staticTypes := #[]
  resolved := Array.replicate 12 none
  statics := none }

def pool4 : Array CpInfo := pool [(1, .class_ 2), (0, u "java/io/Serializable"), (0, .class_ 4), (0, u "java/lang/Object")] 2

/-- java/io/Serializable -/
def k4 : Class := { plain "java/io/Serializable" (some 0) with
  accessFlags := 1537
  interfaces := #[]
  cf := some (fileOf pool4 1 #[] #[] 1537 3 #[] #[])
  fields := #[]
  methods := #[]
  instanceTypes := #[]
  staticTypes := #[]
  resolved := Array.replicate 7 none
  statics := none }

def pool5 : Array CpInfo := pool [(2, .class_ 4), (1, u "java/lang/Enum"), (0, u "name"), (0, u "Ljava/lang/String;"), (2, u "ordinal"), (0, u "I"), (1, .class_ 14), (1, u "java/lang/Object"), (4, u "hash"), (86, .class_ 108), (1, u "java/lang/Enum$EnumDesc"), (2, .class_ 112), (0, u "java/lang/constant/Constable"), (0, .class_ 114), (0, u "java/lang/Comparable"), (0, .class_ 116), (0, u "java/io/Serializable")] 87

/-- java/lang/Enum -/
def k5 : Class := { plain "java/lang/Enum" (some 0) with
  accessFlags := 1057
  interfaces := #[2, 3, 4]
  cf := some (fileOf pool5 2 #[.nestMembers #[106]] #[] 1057 12 #[111, 113, 115] #[{ accessFlags := 18, nameIndex := 5, descriptorIndex := 6, attributes := #[] }, { accessFlags := 18, nameIndex := 9, descriptorIndex := 10, attributes := #[] }, { accessFlags := 2, nameIndex := 19, descriptorIndex := 10, attributes := #[] }])
  fields := #[{ name := "name", type := (.object "java/lang/String"), accessFlags := 18, slot := 0, constantValue := 0 }, { name := "ordinal", type := .int, accessFlags := 18, slot := 1, constantValue := 0 }, { name := "hash", type := .int, accessFlags := 2, slot := 2, constantValue := 0 }]
  methods := #[]
  instanceTypes := #[(.object "java/lang/String"), .int, .int]
  staticTypes := #[]
  resolved := Array.replicate 204 none
  statics := none }

def pool6 : Array CpInfo := pool [(1, .class_ 2), (0, u "com/example/idem_log/idemlog/protocol/Api"), (2, u "PRODUCE"), (0, u "Lcom/example/idem_log/idemlog/protocol/Api;"), (2, u "FETCH"), (2, u "LIST_OFFSETS"), (2, u "METADATA"), (2, u "OFFSET_COMMIT"), (2, u "OFFSET_FETCH"), (2, u "FIND_COORDINATOR"), (2, u "JOIN_GROUP"), (2, u "HEARTBEAT"), (2, u "LEAVE_GROUP"), (2, u "SYNC_GROUP"), (2, u "API_VERSIONS"), (2, u "INIT_PRODUCER_ID"), (2, u "ADD_PARTITIONS_TO_TXN"), (2, u "ADD_OFFSETS_TO_TXN"), (2, u "END_TXN"), (2, u "TXN_OFFSET_COMMIT"), (0, .fieldref 1 56), (0, .nameAndType 57 58), (0, u "$VALUES"), (0, u "[Lcom/example/idem_log/idemlog/protocol/Api;"), (0, .methodref 60 61), (0, .class_ 58), (0, .nameAndType 62 63), (0, u "clone"), (0, u "()Ljava/lang/Object;"), (1, .class_ 67), (1, u "java/lang/Enum"), (6, .fieldref 1 75), (0, .nameAndType 76 77), (0, u "key"), (0, u "S"), (2, u "minVersion"), (2, u "maxVersion"), (2, u "firstFlexibleVersion"), (0, .methodref 1 88), (0, .nameAndType 89 90), (0, u "values"), (0, u "()[Lcom/example/idem_log/idemlog/protocol/Api;"), (29, u "forKey"), (0, u "(S)Lcom/example/idem_log/idemlog/protocol/Api;")] 9

def k6c0 : Code := { maxStack := 1, maxLocals := 0, code := prog_15_method_1_code, exceptionTable := #[], attributes := #[] }
def k6m0 : Method := { name := "values", desc := "()[Lcom/example/idem_log/idemlog/protocol/Api;", sig := { parameters := [], returnType := some (.array (.object "com/example/idem_log/idemlog/protocol/Api")) }, accessFlags := 9, code := some k6c0 }
def k6c1 : Code := { maxStack := 2, maxLocals := 5, code := prog_15_method_4_code, exceptionTable := #[], attributes := #[] }
def k6m1 : Method := { name := "forKey", desc := "(S)Lcom/example/idem_log/idemlog/protocol/Api;", sig := { parameters := [.short], returnType := some (.object "com/example/idem_log/idemlog/protocol/Api") }, accessFlags := 8, code := some k6c1 }
/-- com/example/idem_log/idemlog/protocol/Api -/
def k6 : Class := { plain "com/example/idem_log/idemlog/protocol/Api" (some 5) with
  accessFlags := 16432
  interfaces := #[]
  cf := some (fileOf pool6 1 #[] #[{ accessFlags := 9, nameIndex := 89, descriptorIndex := 90, attributes := #[] }, { accessFlags := 8, nameIndex := 120, descriptorIndex := 121, attributes := #[] }] 16432 65 #[] #[{ accessFlags := 16409, nameIndex := 5, descriptorIndex := 6, attributes := #[] }, { accessFlags := 16409, nameIndex := 9, descriptorIndex := 6, attributes := #[] }, { accessFlags := 16409, nameIndex := 12, descriptorIndex := 6, attributes := #[] }, { accessFlags := 16409, nameIndex := 15, descriptorIndex := 6, attributes := #[] }, { accessFlags := 16409, nameIndex := 18, descriptorIndex := 6, attributes := #[] }, { accessFlags := 16409, nameIndex := 21, descriptorIndex := 6, attributes := #[] }, { accessFlags := 16409, nameIndex := 24, descriptorIndex := 6, attributes := #[] }, { accessFlags := 16409, nameIndex := 27, descriptorIndex := 6, attributes := #[] }, { accessFlags := 16409, nameIndex := 30, descriptorIndex := 6, attributes := #[] }, { accessFlags := 16409, nameIndex := 33, descriptorIndex := 6, attributes := #[] }, { accessFlags := 16409, nameIndex := 36, descriptorIndex := 6, attributes := #[] }, { accessFlags := 16409, nameIndex := 39, descriptorIndex := 6, attributes := #[] }, { accessFlags := 16409, nameIndex := 42, descriptorIndex := 6, attributes := #[] }, { accessFlags := 16409, nameIndex := 45, descriptorIndex := 6, attributes := #[] }, { accessFlags := 16409, nameIndex := 48, descriptorIndex := 6, attributes := #[] }, { accessFlags := 16409, nameIndex := 51, descriptorIndex := 6, attributes := #[] }, { accessFlags := 16409, nameIndex := 54, descriptorIndex := 6, attributes := #[] }, { accessFlags := 16, nameIndex := 76, descriptorIndex := 77, attributes := #[] }, { accessFlags := 16, nameIndex := 80, descriptorIndex := 77, attributes := #[] }, { accessFlags := 16, nameIndex := 83, descriptorIndex := 77, attributes := #[] }, { accessFlags := 18, nameIndex := 86, descriptorIndex := 77, attributes := #[] }, { accessFlags := 4122, nameIndex := 57, descriptorIndex := 58, attributes := #[] }])
  fields := #[{ name := "PRODUCE", type := (.object "com/example/idem_log/idemlog/protocol/Api"), accessFlags := 16409, slot := 0, constantValue := 0 }, { name := "FETCH", type := (.object "com/example/idem_log/idemlog/protocol/Api"), accessFlags := 16409, slot := 1, constantValue := 0 }, { name := "LIST_OFFSETS", type := (.object "com/example/idem_log/idemlog/protocol/Api"), accessFlags := 16409, slot := 2, constantValue := 0 }, { name := "METADATA", type := (.object "com/example/idem_log/idemlog/protocol/Api"), accessFlags := 16409, slot := 3, constantValue := 0 }, { name := "OFFSET_COMMIT", type := (.object "com/example/idem_log/idemlog/protocol/Api"), accessFlags := 16409, slot := 4, constantValue := 0 }, { name := "OFFSET_FETCH", type := (.object "com/example/idem_log/idemlog/protocol/Api"), accessFlags := 16409, slot := 5, constantValue := 0 }, { name := "FIND_COORDINATOR", type := (.object "com/example/idem_log/idemlog/protocol/Api"), accessFlags := 16409, slot := 6, constantValue := 0 }, { name := "JOIN_GROUP", type := (.object "com/example/idem_log/idemlog/protocol/Api"), accessFlags := 16409, slot := 7, constantValue := 0 }, { name := "HEARTBEAT", type := (.object "com/example/idem_log/idemlog/protocol/Api"), accessFlags := 16409, slot := 8, constantValue := 0 }, { name := "LEAVE_GROUP", type := (.object "com/example/idem_log/idemlog/protocol/Api"), accessFlags := 16409, slot := 9, constantValue := 0 }, { name := "SYNC_GROUP", type := (.object "com/example/idem_log/idemlog/protocol/Api"), accessFlags := 16409, slot := 10, constantValue := 0 }, { name := "API_VERSIONS", type := (.object "com/example/idem_log/idemlog/protocol/Api"), accessFlags := 16409, slot := 11, constantValue := 0 }, { name := "INIT_PRODUCER_ID", type := (.object "com/example/idem_log/idemlog/protocol/Api"), accessFlags := 16409, slot := 12, constantValue := 0 }, { name := "ADD_PARTITIONS_TO_TXN", type := (.object "com/example/idem_log/idemlog/protocol/Api"), accessFlags := 16409, slot := 13, constantValue := 0 }, { name := "ADD_OFFSETS_TO_TXN", type := (.object "com/example/idem_log/idemlog/protocol/Api"), accessFlags := 16409, slot := 14, constantValue := 0 }, { name := "END_TXN", type := (.object "com/example/idem_log/idemlog/protocol/Api"), accessFlags := 16409, slot := 15, constantValue := 0 }, { name := "TXN_OFFSET_COMMIT", type := (.object "com/example/idem_log/idemlog/protocol/Api"), accessFlags := 16409, slot := 16, constantValue := 0 }, { name := "key", type := .short, accessFlags := 16, slot := 3, constantValue := 0 }, { name := "minVersion", type := .short, accessFlags := 16, slot := 4, constantValue := 0 }, { name := "maxVersion", type := .short, accessFlags := 16, slot := 5, constantValue := 0 }, { name := "firstFlexibleVersion", type := .short, accessFlags := 18, slot := 6, constantValue := 0 }, { name := "$VALUES", type := (.array (.object "com/example/idem_log/idemlog/protocol/Api")), accessFlags := 4122, slot := 17, constantValue := 0 }]
  methods := #[k6m0, k6m1]
  instanceTypes := #[(.object "java/lang/String"), .int, .int, .short, .short, .short, .short]
  staticTypes := #[(.object "com/example/idem_log/idemlog/protocol/Api"), (.object "com/example/idem_log/idemlog/protocol/Api"), (.object "com/example/idem_log/idemlog/protocol/Api"), (.object "com/example/idem_log/idemlog/protocol/Api"), (.object "com/example/idem_log/idemlog/protocol/Api"), (.object "com/example/idem_log/idemlog/protocol/Api"), (.object "com/example/idem_log/idemlog/protocol/Api"), (.object "com/example/idem_log/idemlog/protocol/Api"), (.object "com/example/idem_log/idemlog/protocol/Api"), (.object "com/example/idem_log/idemlog/protocol/Api"), (.object "com/example/idem_log/idemlog/protocol/Api"), (.object "com/example/idem_log/idemlog/protocol/Api"), (.object "com/example/idem_log/idemlog/protocol/Api"), (.object "com/example/idem_log/idemlog/protocol/Api"), (.object "com/example/idem_log/idemlog/protocol/Api"), (.object "com/example/idem_log/idemlog/protocol/Api"), (.object "com/example/idem_log/idemlog/protocol/Api"), (.array (.object "com/example/idem_log/idemlog/protocol/Api"))]
  resolved := Array.replicate 131 none
  statics := some 0 }

def pool7 : Array CpInfo := pool [(1, .class_ 2), (0, u "java/lang/Cloneable"), (0, .class_ 4), (0, u "java/lang/Object")] 2

/-- java/lang/Cloneable -/
def k7 : Class := { plain "java/lang/Cloneable" (some 0) with
  accessFlags := 1537
  interfaces := #[]
  cf := some (fileOf pool7 1 #[] #[] 1537 3 #[] #[])
  fields := #[]
  methods := #[]
  instanceTypes := #[]
  staticTypes := #[]
  resolved := Array.replicate 7 none
  statics := none }

/-- the primitive byte -/
def k8 : Class := { plain "byte" none with kind := .primitive 'B', accessFlags := 0x411 }
/-- [B -/
def k9 : Class := { plain "[B" (some 0) with kind := .array 8 .byte, interfaces := #[7, 4], accessFlags := 1041 }

/-- the primitive int -/
def k10 : Class := { plain "int" none with kind := .primitive 'I', accessFlags := 0x411 }
/-- [I -/
def k11 : Class := { plain "[I" (some 0) with kind := .array 10 .int, interfaces := #[7, 4], accessFlags := 1041 }

/-- [Lcom/example/idem_log/idemlog/protocol/Api; -/
def k12 : Class := { plain "[Lcom/example/idem_log/idemlog/protocol/Api;" (some 0) with kind := .array 6 (.object "com/example/idem_log/idemlog/protocol/Api"), interfaces := #[7, 4], accessFlags := 1041 }

def heap : Heap := #[{ cls := 6, slots := #[.ref 2, .ref 3, .ref 4, .ref 5, .ref 6, .ref 7, .ref 8, .ref 9, .ref 10, .ref 11, .ref 12, .ref 13, .ref 14, .ref 15, .ref 16, .ref 17, .ref 18, .ref 1], vm := .statics 6 },
  { cls := 12, slots := #[.ref 2, .ref 3, .ref 4, .ref 5, .ref 6, .ref 7, .ref 8, .ref 9, .ref 10, .ref 11, .ref 12, .ref 13, .ref 14, .ref 15, .ref 16, .ref 17, .ref 18], vm := .none },
  { cls := 6, slots := #[.null, .int 0, .int 0, .int 0, .int 0, .int 0, .int 0], vm := .none },
  { cls := 6, slots := #[.null, .int 0, .int 0, .int 1, .int 0, .int 0, .int 0], vm := .none },
  { cls := 6, slots := #[.null, .int 0, .int 0, .int 2, .int 0, .int 0, .int 0], vm := .none },
  { cls := 6, slots := #[.null, .int 0, .int 0, .int 3, .int 0, .int 0, .int 0], vm := .none },
  { cls := 6, slots := #[.null, .int 0, .int 0, .int 8, .int 0, .int 0, .int 0], vm := .none },
  { cls := 6, slots := #[.null, .int 0, .int 0, .int 9, .int 0, .int 0, .int 0], vm := .none },
  { cls := 6, slots := #[.null, .int 0, .int 0, .int 10, .int 0, .int 0, .int 0], vm := .none },
  { cls := 6, slots := #[.null, .int 0, .int 0, .int 11, .int 0, .int 0, .int 0], vm := .none },
  { cls := 6, slots := #[.null, .int 0, .int 0, .int 12, .int 0, .int 0, .int 0], vm := .none },
  { cls := 6, slots := #[.null, .int 0, .int 0, .int 13, .int 0, .int 0, .int 0], vm := .none },
  { cls := 6, slots := #[.null, .int 0, .int 0, .int 14, .int 0, .int 0, .int 0], vm := .none },
  { cls := 6, slots := #[.null, .int 0, .int 0, .int 18, .int 0, .int 0, .int 0], vm := .none },
  { cls := 6, slots := #[.null, .int 0, .int 0, .int 22, .int 0, .int 0, .int 0], vm := .none },
  { cls := 6, slots := #[.null, .int 0, .int 0, .int 24, .int 0, .int 0, .int 0], vm := .none },
  { cls := 6, slots := #[.null, .int 0, .int 0, .int 25, .int 0, .int 0, .int 0], vm := .none },
  { cls := 6, slots := #[.null, .int 0, .int 0, .int 26, .int 0, .int 0, .int 0], vm := .none },
  { cls := 6, slots := #[.null, .int 0, .int 0, .int 28, .int 0, .int 0, .int 0], vm := .none }]
def classes : Array Class := #[k0, k1, k2, k3, k4, k5, k6, k7, k8, k9, k10, k11, k12]
def interned : List (Array UInt16 × Addr) := []
def slotsUsed : Nat := 154
def theMethod : MethodId := ⟨1, 2⟩
def args0 : Array Value := #[.int 5, .int 7]
def aboutOver (below : List Frame) : State where
  vm := { classes := classes, interned := interned.toArray }
  heap := heap
  slotsUsed := slotsUsed
  threads := #[{ frames := .invoking theMethod args0 :: below }]
def below0 : List Frame := [.native { method := ⟨0, 0⟩, args := #[] }]
def about1 : State := aboutOver below0
def p0 : Program := .bare "" "" ""
def e0 : Env := launch0.env 0 0 0
theorem w_frames : about1.frames = Frame.invoking theMethod args0 :: below0 := rfl
set_option maxRecDepth 65536 in
theorem w_args : argsFit about1.vm theMethod args0 = true := by decide +kernel
set_option maxRecDepth 65536 in
theorem w_heap : heapFits about1 = true := by decide +kernel
set_option maxRecDepth 65536 in
theorem w_runnable : about1.curStatus? = some .runnable := by decide +kernel
set_option maxRecDepth 65536 in
theorem w_alone : about1.alone = true := by decide +kernel
set_option maxRecDepth 65536 in
theorem w_named : about1.methodNamed? x = some theMethod := by decide +kernel
set_option maxRecDepth 65536 in
theorem w_hears : about1.hears theMethod below0 = true := by decide +kernel
set_option maxRecDepth 65536 in
theorem w_ripe : about1.ripe theMethod args0 below0 = true := by decide +kernel
theorem w_running : about1.status = .running := rfl
set_option maxRecDepth 65536 in
theorem w_room : about1.hasRoom e0.platform room_1 = true :=
  launch0.hasRoom_least _ room_1 (by decide +kernel) (by decide +kernel) (by decide +kernel) (by decide +kernel) (by decide +kernel) (by decide +kernel)
theorem allAtoms_all (ts : List Jvm.Cond) (a : Array Jvm.Value) (st : Jvm.State) : (allAtoms ts).before a st = ts.all (fun c => c.before a st) := by
  induction ts with
  | nil => rfl
  | cons c t ih =>
    show (Jvm.Cond.and c (allAtoms t)).before a st = _
    rw [Jvm.Cond.before_and, ih, List.all_cons]
def words1 : List Jvm.Cond := Jvm.Cond.code x code maxLocals ret :: tables_1
/-- a 'code' word, met by the world's own term for the bytes: nothing is compared byte by byte -/
theorem code_word {y : MethodName} {bytes : ByteArray} {mx : Nat} {rt : Option FieldType} {a : Array Value} {s : State} {m : MethodId} {meth : Method} {c : Code} (h1 : s.methodNamed? y = some m) (h2 : s.vm.method? m = some meth) (h3 : meth.code = some c) (h4 : c.code = bytes)
    (h5 : (c.maxLocals == mx && c.exceptionTable.isEmpty && decide (c.maxStack ≤ mostOperands) && decide (meth.sig.returnType = rt) && !meth.locks && decide (parseMethodDescriptor y.desc = some meth.sig)) = true) : (Jvm.Cond.code y bytes mx rt).before a s = true := by
  simp only [Bool.and_eq_true, beq_iff_eq, Bool.not_eq_true', decide_eq_true_eq] at h5
  obtain ⟨⟨⟨⟨⟨g1, g2⟩, g3⟩, g4⟩, g5⟩, g6⟩ := h5
  simp [Cond.before, Cond.holds, Cond.value, h1, h2, h3, h4, g1, g2, g3, g4, g5, g6]
def isCode : Jvm.Cond → Bool
  | .code _ _ _ _ => true
  | _ => false
theorem all_split {L : List Jvm.Cond} {P : Jvm.Cond → Bool} (h1 : L.all (fun c => isCode c || P c) = true) (h2 : ∀ c ∈ L.filter isCode, P c = true) : L.all P = true := by
  refine List.all_eq_true.mpr fun c hc => ?_
  have h := List.all_eq_true.mp h1 c hc
  rcases Bool.eq_false_or_eq_true (isCode c) with hi | hi
  · exact h2 c (List.mem_filter.mpr ⟨hc, hi⟩)
  · simpa [hi] using h
set_option maxRecDepth 65536 in
theorem w_c0 : (Jvm.Cond.code x code maxLocals ret).before args0 about1 = true := code_word (m := ⟨1, 2⟩) (meth := k1m2) (c := k1c2) (by decide +kernel) rfl rfl rfl (by decide +kernel)
set_option maxRecDepth 65536 in
theorem w_c1 : (Jvm.Cond.code ({ cls := "com/example/idem_log/idemlog/protocol/Api", name := "forKey", desc := "(S)Lcom/example/idem_log/idemlog/protocol/Api;" } : Jvm.MethodName) prog_15_method_4_code (5 : Nat) (Option.some (Jvm.ClassFile.FieldType.object "com/example/idem_log/idemlog/protocol/Api"))).before args0 about1 = true := code_word (m := ⟨6, 1⟩) (meth := k6m1) (c := k6c1) (by decide +kernel) rfl rfl rfl (by decide +kernel)
set_option maxRecDepth 65536 in
theorem w_c2 : (Jvm.Cond.code ({ cls := "com/example/idem_log/idemlog/protocol/Api", name := "values", desc := "()[Lcom/example/idem_log/idemlog/protocol/Api;" } : Jvm.MethodName) prog_15_method_1_code (0 : Nat) (Option.some (Jvm.ClassFile.FieldType.array (Jvm.ClassFile.FieldType.object "com/example/idem_log/idemlog/protocol/Api")))).before args0 about1 = true := code_word (m := ⟨6, 0⟩) (meth := k6m0) (c := k6c0) (by decide +kernel) rfl rfl rfl (by decide +kernel)
set_option maxRecDepth 65536 in
theorem w_c3 : (Jvm.Cond.code ({ cls := "com/example/idem_log/idemlog/protocol/ApiForKeyPinLaw", name := "expected", desc := "(I)Lcom/example/idem_log/idemlog/protocol/Api;" } : Jvm.MethodName) method_2_code (1 : Nat) (Option.some (Jvm.ClassFile.FieldType.object "com/example/idem_log/idemlog/protocol/Api"))).before args0 about1 = true := code_word (m := ⟨1, 1⟩) (meth := k1m1) (c := k1c1) (by decide +kernel) rfl rfl rfl (by decide +kernel)
def codes1 : List Jvm.Cond := [Jvm.Cond.code x code maxLocals ret, Jvm.Cond.code ({ cls := "com/example/idem_log/idemlog/protocol/Api", name := "forKey", desc := "(S)Lcom/example/idem_log/idemlog/protocol/Api;" } : Jvm.MethodName) prog_15_method_4_code (5 : Nat) (Option.some (Jvm.ClassFile.FieldType.object "com/example/idem_log/idemlog/protocol/Api")), Jvm.Cond.code ({ cls := "com/example/idem_log/idemlog/protocol/Api", name := "values", desc := "()[Lcom/example/idem_log/idemlog/protocol/Api;" } : Jvm.MethodName) prog_15_method_1_code (0 : Nat) (Option.some (Jvm.ClassFile.FieldType.array (Jvm.ClassFile.FieldType.object "com/example/idem_log/idemlog/protocol/Api"))), Jvm.Cond.code ({ cls := "com/example/idem_log/idemlog/protocol/ApiForKeyPinLaw", name := "expected", desc := "(I)Lcom/example/idem_log/idemlog/protocol/Api;" } : Jvm.MethodName) method_2_code (1 : Nat) (Option.some (Jvm.ClassFile.FieldType.object "com/example/idem_log/idemlog/protocol/Api"))]
set_option maxRecDepth 65536 in
theorem codes_eq : words1.filter isCode = codes1 := rfl
theorem w_codes : ∀ c ∈ words1.filter isCode, c.before args0 about1 = true := by
  rw [codes_eq]
  intro c hc
  simp only [codes1, List.mem_cons, List.not_mem_nil, or_false] at hc
  rcases hc with rfl | rfl | rfl | rfl
  · exact w_c0
  · exact w_c1
  · exact w_c2
  · exact w_c3
set_option maxRecDepth 65536 in
theorem w_t1 : (words1.take 24).all (fun c => isCode c || c.before args0 about1) = true := by decide +kernel
set_option maxRecDepth 65536 in
theorem w_t2 : ((words1.drop 24).take 24).all (fun c => isCode c || c.before args0 about1) = true := by decide +kernel
set_option maxRecDepth 65536 in
theorem w_t3 : ((words1.drop 24).drop 24).all (fun c => isCode c || c.before args0 about1) = true := by decide +kernel
theorem w_tables : (allAtoms (Jvm.Cond.code x code maxLocals ret :: tables_1)).before args0 about1 = true := by
  rw [allAtoms_all]
  show words1.all (fun c => c.before args0 about1) = true
  refine all_split ?_ w_codes
  rw [← List.take_append_drop 24 words1, List.all_append, w_t1, ← List.take_append_drop 24 (words1.drop 24), List.all_append, w_t2, w_t3]
  rfl
set_option maxRecDepth 65536 in
theorem w_case : (Jvm.Cond.and given_1 narrow_1).before args0 about1 = true := by decide +kernel
theorem w_applies : (headSpec (Jvm.Cond.code x code maxLocals ret :: tables_1) room_1).applies x e0.platform about1 = true :=
  (Spec.applies_iff w_frames).mpr ⟨w_running, w_runnable, w_alone, w_named, w_hears, w_ripe, w_room, w_tables⟩
theorem atStart : AtStart classFile x code maxLocals ret World_1 tables_1 room_1 Calls_1 rest_1 Pre_1 launch0 p0 e0 about1 theMethod args0 below0 :=
  ⟨lists_1, trivial, launch0.admits_env _ _ _, launch0.least_env, fairChoices_fair.cas, fairChoices_fair.clock, w_frames, w_args, w_heap, w_applies, trivial, trivial, w_case⟩
end start1
theorem witness_1 : WitnessClaimed_1 := ⟨start1.p0, start1.e0, start1.about1, start1.theMethod, start1.args0, start1.below0, start1.atStart⟩
end Jvm.Pilot.@@N@@
