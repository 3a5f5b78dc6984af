import JvmDerived
import JvmDerived.Pilot.@@N@@Statement
import JvmDerived.Pilot.@@N@@Code
set_option linter.unusedVariables false
set_option linter.unusedSimpArgs false
namespace Jvm.RoadKit
open Sem ClassFile Op Lib Jvm.Stand Jvm.Free Jvm.LawKit
section New
variable {p : Program} {l : Launch} {e : Env} {R : Room} {s : State} {m : MethodId} {args : Array Value} {below : List Frame} {meth : Method} {c : Code} {T : State} {locs : List Loc} {cells slots : Nat}
theorem own_retI (X : Stand p l e R s m args below meth c T locs cells slots) (hx : p.tables.exec = Jvm.exec) {pc : Nat} {Ls : Array Slot} {z : Int32} {rest : List Value} (hret : meth.sig.returnType = some .int) (hd : decode c.code pc = .ok (.ireturn, 1)) {fs : List Frame}
    (hl : ∀ (f : JFrame) (acts : List Action), f.method = m → f.locked = none → f.entered = [] → (doReturn e (T.setTop f) acts (some (.int z))).1 = T.setFrames fs) : Steps p.tables e below (T.setTop (mkF m pc Ls (.int z :: rest))) (T.setFrames fs) :=
  retOut X hx hret rfl (Or.inl ⟨rfl, Or.inl rfl, z, rfl⟩) hd hl
theorem own_retL (X : Stand p l e R s m args below meth c T locs cells slots) (hx : p.tables.exec = Jvm.exec) {pc : Nat} {Ls : Array Slot} {z : Int64} {rest : List Value} (hret : meth.sig.returnType = some .long) (hd : decode c.code pc = .ok (.lreturn, 1)) {fs : List Frame}
    (hl : ∀ (f : JFrame) (acts : List Action), f.method = m → f.locked = none → f.entered = [] → (doReturn e (T.setTop f) acts (some (.long z))).1 = T.setFrames fs) : Steps p.tables e below (T.setTop (mkF m pc Ls (.long z :: rest))) (T.setFrames fs) :=
  retOut X hx hret rfl (Or.inr (Or.inl ⟨rfl, rfl, z, rfl⟩)) hd hl
theorem own_retA (X : Stand p l e R s m args below meth c T locs cells slots) (hx : p.tables.exec = Jvm.exec) {pc : Nat} {Ls : Array Slot} {w : Value} {t : FieldType} {rest : List Value} (hret : meth.sig.returnType = some t) (ht : t.isReference = true) (hw : w.isRef = true) (hd : decode c.code pc = .ok (.areturn, 1)) {fs : List Frame}
    (hl : ∀ (f : JFrame) (acts : List Action), f.method = m → f.locked = none → f.entered = [] → (doReturn e (T.setTop f) acts (some w)).1 = T.setFrames fs) : Steps p.tables e below (T.setTop (mkF m pc Ls (w :: rest))) (T.setFrames fs) :=
  retOut X hx hret (by cases t <;> cases w <;> simp_all [narrow, Value.isRef, FieldType.isReference]) (Or.inr (Or.inr (Or.inr (Or.inr ⟨rfl, ht, hw⟩)))) hd hl
end New
end Jvm.RoadKit
namespace Jvm.Pilot.@@N@@
open Jvm Jvm.ClassFile Sem Op Lib Jvm.Free Jvm.Stand Jvm.LawKit Jvm.RoadKit Bundle Jvm.Pilot.@@N@@.Jvm.D
theorem own_lcEt {x y : Int64} (h : x = y) : lcmpW x y = (0 : Int32) := by rw [lcW]; exact (lc_eq x y).mpr h
theorem own_lcEf {x y : Int64} (h : ¬ (x = y)) : ¬ (lcmpW x y = (0 : Int32)) := by rw [lcW]; exact fun q => h ((lc_eq x y).mp q)
theorem own_lcLt {x y : Int64} (h : x < y) : lcmpW x y < (0 : Int32) := by rw [lcW]; exact (lc_lt x y).mpr h
theorem own_lcLf {x y : Int64} (h : ¬ (x < y)) : ¬ (lcmpW x y < (0 : Int32)) := by rw [lcW]; exact fun q => h ((lc_lt x y).mp q)
theorem own_lcGt {x y : Int64} (h : y < x) : (0 : Int32) < lcmpW x y := by rw [lcW]; exact (lc_gt x y).mpr h
theorem own_lcGf {x y : Int64} (h : ¬ (y < x)) : ¬ ((0 : Int32) < lcmpW x y) := by rw [lcW]; exact fun q => h ((lc_gt x y).mp q)
theorem own_ext_refl (h : Heap) : Ext h h := ⟨Nat.le_refl _, fun _ _ q => q⟩
theorem own_ext_trans {h h' h'' : Heap} (E : Ext h h') (F : Ext h' h'') : Ext h h'' := ⟨Nat.le_trans E.1 F.1, fun a c q => F.2 a c (E.2 a c q)⟩
theorem own_ext_wr {h h' h'' : Heap} {a : Addr} {sl : Nat} {v : Value} (E : Ext h h') (W : Wr h' h'' a sl v) (q : h.size ≤ a) : Ext h h'' := by
  obtain ⟨cell, -, -, -, rfl⟩ := W
  refine ⟨by simpa using E.1, fun b c r => ?_⟩
  have hb : b < h.size := (Array.getElem?_eq_some_iff.mp r).1
  rw [Array.getElem?_setIfInBounds_ne (Nat.ne_of_gt (Nat.lt_of_lt_of_le hb q))]
  exact E.2 b c r
theorem own_fldI {args : Array Value} {s : State} {t : Term} {a : Addr} {C n d : String} {k : Int32} (ev : t.eval args s none [] s = some (.ref a)) (h : (Cond.eq (.field t C n d) (.int k)).value args s none s [] = some true) : Fld s s.heap a C n d (.int k) := by
  obtain ⟨u, v, h1, h2, -, k2⟩ := cmp_v (Or.inl h)
  have e2 : (Term.int k).eval args s none [] s = some (.int k) := rfl
  cases e2.symm.trans h2
  obtain ⟨z, rfl⟩ := k2
  have q : z = k := by simpa [Cond.value, h1, e2] using h
  subst q
  exact Fld.start ((fld_at ev).symm.trans h1)
theorem own_fldJ {args : Array Value} {s : State} {t : Term} {a : Addr} {C n d : String} {k : Int64} (ev : t.eval args s none [] s = some (.ref a)) (h : (Cond.eq (.field t C n d) (.long k)).value args s none s [] = some true) : Fld s s.heap a C n d (.long k) := by
  obtain ⟨u, v, h1, h2, -, k2⟩ := cmp_v (Or.inl h)
  have e2 : (Term.long k).eval args s none [] s = some (.long k) := rfl
  cases e2.symm.trans h2
  obtain ⟨z, rfl⟩ := k2
  have q : z = k := by simpa [Cond.value, h1, e2] using h
  subst q
  exact Fld.start ((fld_at ev).symm.trans h1)
theorem own_fldN {args : Array Value} {s : State} {t : Term} {a : Addr} {C n d : String} (ev : t.eval args s none [] s = some (.ref a)) (h : (Cond.eq (.field t C n d) .null).value args s none s [] = some true) : Fld s s.heap a C n d .null :=
  Fld.start ((fld_at ev).symm.trans (null_v h))
theorem own_eqR {args : Array Value} {s : State} {t u : Term} {b : Addr} (eu : u.eval args s none [] s = some (.ref b)) (h : (Cond.eq t u).value args s none s [] = some true) : t.eval args s none [] s = some (.ref b) := by
  obtain ⟨x, y, h1, h2, k1, k2⟩ := cmp_v (Or.inl h)
  cases eu.symm.trans h2
  have hx : x.isRef = true := k2.2
  have q := gotT (eq_R h1 h2 hx rfl) h
  rw [h1, q]
theorem own_fldR {args : Array Value} {s : State} {t u : Term} {a b : Addr} {C n d : String} (ev : t.eval args s none [] s = some (.ref a)) (eu : u.eval args s none [] s = some (.ref b)) (h : (Cond.eq (.field t C n d) u).value args s none s [] = some true) : Fld s s.heap a C n d (.ref b) :=
  Fld.start ((fld_at ev).symm.trans (own_eqR eu h))
theorem own_elI {args : Array Value} {s : State} {t : Term} {a : Addr} {cl : Cell} {j k : Int32} {i : Nat} (ev : t.eval args s none [] s = some (.ref a)) (hc : s.heap[a]? = some cl) (h : (Cond.eq (.elem t (.int j)) (.int k)).value args s none s [] = some true) (hj : j.toNatClampNeg = i) : cl.slots[i]? = some (.int k) := by
  obtain ⟨u, v, h1, h2, -, k2⟩ := cmp_v (Or.inl h)
  have e2 : (Term.int k).eval args s none [] s = some (.int k) := rfl
  cases e2.symm.trans h2
  obtain ⟨z, rfl⟩ := k2
  have q : z = k := by simpa [Cond.value, h1, e2] using h
  subst q hj
  exact (elem_in h1 ev (rfl : (Term.int j).eval args s none [] s = some (.int j)) hc).2
theorem own_elR {args : Array Value} {s : State} {t u : Term} {a b : Addr} {cl : Cell} {j : Int32} {i : Nat} (ev : t.eval args s none [] s = some (.ref a)) (eu : u.eval args s none [] s = some (.ref b)) (hc : s.heap[a]? = some cl) (h : (Cond.eq (.elem t (.int j)) u).value args s none s [] = some true) (hj : j.toNatClampNeg = i) : cl.slots[i]? = some (.ref b) := by
  subst hj
  exact (elem_in (own_eqR eu h) ev (rfl : (Term.int j).eval args s none [] s = some (.int j)) hc).2
theorem own_len {args : Array Value} {s : State} {t : Term} {a : Addr} {cl : Cell} {ty : FieldType} {k : Int32} (ev : t.eval args s none [] s = some (.ref a)) (A : Arr s s.heap a cl ty) (h : (Cond.eq (.length t) (.int k)).value args s none s [] = some true) : cl.slots.size < 2 ^ 31 ∧ cl.slots.size.toInt32 = k := by
  obtain ⟨u, v, h1, h2, -, k2⟩ := cmp_v (Or.inl h)
  have e2 : (Term.int k).eval args s none [] s = some (.int k) := rfl
  cases e2.symm.trans h2
  obtain ⟨z, rfl⟩ := k2
  have q : z = k := by simpa [Cond.value, h1, e2] using h
  subst q
  have ha := A.fin (Vm.Alike.refl _)
  simp only [Term.eval, ev, ha, Option.bind_eq_bind, Option.bind_some] at h1
  split at h1
  · rename_i q
    exact ⟨q, by simpa using h1⟩
  · cases h1
def World (Z : State) (h : Heap) (wPRODUCE : Addr) (wFETCH : Addr) (wAPI_VERSIONS : Addr) (wHEARTBEAT : Addr) (wINIT_PRODUCER_ID : Addr) (wADD_PARTITIONS_TO_TXN : Addr) (wMETADATA : Addr) (wSYNC_GROUP : Addr) (wTXN_OFFSET_COMMIT : Addr) (wJOIN_GROUP : Addr) (wLIST_OFFSETS : Addr) (wOFFSET_COMMIT : Addr) (wOFFSET_FETCH : Addr) (wADD_OFFSETS_TO_TXN : Addr) (wFIND_COORDINATOR : Addr) (wLEAVE_GROUP : Addr) (wEND_TXN : Addr) : Prop := Sta Z h "com/example/idem_log/idemlog/protocol/Api" "PRODUCE" "Lcom/example/idem_log/idemlog/protocol/Api;" (.ref wPRODUCE) ∧ Exa Z h wPRODUCE "com/example/idem_log/idemlog/protocol/Api" ∧ Fld Z h wPRODUCE "com/example/idem_log/idemlog/protocol/Api" "firstFlexibleVersion" "S" (.int (9 : Int32)) ∧ Sta Z h "com/example/idem_log/idemlog/protocol/Api" "FETCH" "Lcom/example/idem_log/idemlog/protocol/Api;" (.ref wFETCH) ∧ Exa Z h wFETCH "com/example/idem_log/idemlog/protocol/Api" ∧ Fld Z h wFETCH "com/example/idem_log/idemlog/protocol/Api" "firstFlexibleVersion" "S" (.int (12 : Int32)) ∧ Sta Z h "com/example/idem_log/idemlog/protocol/Api" "API_VERSIONS" "Lcom/example/idem_log/idemlog/protocol/Api;" (.ref wAPI_VERSIONS) ∧ Exa Z h wAPI_VERSIONS "com/example/idem_log/idemlog/protocol/Api" ∧ Fld Z h wAPI_VERSIONS "com/example/idem_log/idemlog/protocol/Api" "firstFlexibleVersion" "S" (.int (3 : Int32)) ∧ Sta Z h "com/example/idem_log/idemlog/protocol/Api" "HEARTBEAT" "Lcom/example/idem_log/idemlog/protocol/Api;" (.ref wHEARTBEAT) ∧ Exa Z h wHEARTBEAT "com/example/idem_log/idemlog/protocol/Api" ∧ Fld Z h wHEARTBEAT "com/example/idem_log/idemlog/protocol/Api" "firstFlexibleVersion" "S" (.int (4 : Int32)) ∧ Sta Z h "com/example/idem_log/idemlog/protocol/Api" "INIT_PRODUCER_ID" "Lcom/example/idem_log/idemlog/protocol/Api;" (.ref wINIT_PRODUCER_ID) ∧ Exa Z h wINIT_PRODUCER_ID "com/example/idem_log/idemlog/protocol/Api" ∧ Fld Z h wINIT_PRODUCER_ID "com/example/idem_log/idemlog/protocol/Api" "firstFlexibleVersion" "S" (.int (2 : Int32)) ∧ Sta Z h "com/example/idem_log/idemlog/protocol/Api" "ADD_PARTITIONS_TO_TXN" "Lcom/example/idem_log/idemlog/protocol/Api;" (.ref wADD_PARTITIONS_TO_TXN) ∧ Exa Z h wADD_PARTITIONS_TO_TXN "com/example/idem_log/idemlog/protocol/Api" ∧ Fld Z h wADD_PARTITIONS_TO_TXN "com/example/idem_log/idemlog/protocol/Api" "firstFlexibleVersion" "S" (.int (3 : Int32)) ∧ Sta Z h "com/example/idem_log/idemlog/protocol/Api" "METADATA" "Lcom/example/idem_log/idemlog/protocol/Api;" (.ref wMETADATA) ∧ Exa Z h wMETADATA "com/example/idem_log/idemlog/protocol/Api" ∧ Fld Z h wMETADATA "com/example/idem_log/idemlog/protocol/Api" "firstFlexibleVersion" "S" (.int (9 : Int32)) ∧ Sta Z h "com/example/idem_log/idemlog/protocol/Api" "SYNC_GROUP" "Lcom/example/idem_log/idemlog/protocol/Api;" (.ref wSYNC_GROUP) ∧ Exa Z h wSYNC_GROUP "com/example/idem_log/idemlog/protocol/Api" ∧ Fld Z h wSYNC_GROUP "com/example/idem_log/idemlog/protocol/Api" "firstFlexibleVersion" "S" (.int (4 : Int32)) ∧ Sta Z h "com/example/idem_log/idemlog/protocol/Api" "TXN_OFFSET_COMMIT" "Lcom/example/idem_log/idemlog/protocol/Api;" (.ref wTXN_OFFSET_COMMIT) ∧ Exa Z h wTXN_OFFSET_COMMIT "com/example/idem_log/idemlog/protocol/Api" ∧ Fld Z h wTXN_OFFSET_COMMIT "com/example/idem_log/idemlog/protocol/Api" "firstFlexibleVersion" "S" (.int (3 : Int32)) ∧ Sta Z h "com/example/idem_log/idemlog/protocol/Api" "JOIN_GROUP" "Lcom/example/idem_log/idemlog/protocol/Api;" (.ref wJOIN_GROUP) ∧ Exa Z h wJOIN_GROUP "com/example/idem_log/idemlog/protocol/Api" ∧ Fld Z h wJOIN_GROUP "com/example/idem_log/idemlog/protocol/Api" "firstFlexibleVersion" "S" (.int (6 : Int32)) ∧ Sta Z h "com/example/idem_log/idemlog/protocol/Api" "LIST_OFFSETS" "Lcom/example/idem_log/idemlog/protocol/Api;" (.ref wLIST_OFFSETS) ∧ Exa Z h wLIST_OFFSETS "com/example/idem_log/idemlog/protocol/Api" ∧ Fld Z h wLIST_OFFSETS "com/example/idem_log/idemlog/protocol/Api" "firstFlexibleVersion" "S" (.int (6 : Int32)) ∧ Sta Z h "com/example/idem_log/idemlog/protocol/Api" "OFFSET_COMMIT" "Lcom/example/idem_log/idemlog/protocol/Api;" (.ref wOFFSET_COMMIT) ∧ Exa Z h wOFFSET_COMMIT "com/example/idem_log/idemlog/protocol/Api" ∧ Fld Z h wOFFSET_COMMIT "com/example/idem_log/idemlog/protocol/Api" "firstFlexibleVersion" "S" (.int (8 : Int32)) ∧ Sta Z h "com/example/idem_log/idemlog/protocol/Api" "OFFSET_FETCH" "Lcom/example/idem_log/idemlog/protocol/Api;" (.ref wOFFSET_FETCH) ∧ Exa Z h wOFFSET_FETCH "com/example/idem_log/idemlog/protocol/Api" ∧ Fld Z h wOFFSET_FETCH "com/example/idem_log/idemlog/protocol/Api" "firstFlexibleVersion" "S" (.int (6 : Int32)) ∧ Sta Z h "com/example/idem_log/idemlog/protocol/Api" "ADD_OFFSETS_TO_TXN" "Lcom/example/idem_log/idemlog/protocol/Api;" (.ref wADD_OFFSETS_TO_TXN) ∧ Exa Z h wADD_OFFSETS_TO_TXN "com/example/idem_log/idemlog/protocol/Api" ∧ Fld Z h wADD_OFFSETS_TO_TXN "com/example/idem_log/idemlog/protocol/Api" "firstFlexibleVersion" "S" (.int (3 : Int32)) ∧ Sta Z h "com/example/idem_log/idemlog/protocol/Api" "FIND_COORDINATOR" "Lcom/example/idem_log/idemlog/protocol/Api;" (.ref wFIND_COORDINATOR) ∧ Exa Z h wFIND_COORDINATOR "com/example/idem_log/idemlog/protocol/Api" ∧ Fld Z h wFIND_COORDINATOR "com/example/idem_log/idemlog/protocol/Api" "firstFlexibleVersion" "S" (.int (3 : Int32)) ∧ Sta Z h "com/example/idem_log/idemlog/protocol/Api" "LEAVE_GROUP" "Lcom/example/idem_log/idemlog/protocol/Api;" (.ref wLEAVE_GROUP) ∧ Exa Z h wLEAVE_GROUP "com/example/idem_log/idemlog/protocol/Api" ∧ Fld Z h wLEAVE_GROUP "com/example/idem_log/idemlog/protocol/Api" "firstFlexibleVersion" "S" (.int (4 : Int32)) ∧ Sta Z h "com/example/idem_log/idemlog/protocol/Api" "END_TXN" "Lcom/example/idem_log/idemlog/protocol/Api;" (.ref wEND_TXN) ∧ Exa Z h wEND_TXN "com/example/idem_log/idemlog/protocol/Api" ∧ Fld Z h wEND_TXN "com/example/idem_log/idemlog/protocol/Api" "firstFlexibleVersion" "S" (.int (3 : Int32)) ∧ True
theorem World.ext {Z : State} {h h' : Heap} {wPRODUCE : Addr} {wFETCH : Addr} {wAPI_VERSIONS : Addr} {wHEARTBEAT : Addr} {wINIT_PRODUCER_ID : Addr} {wADD_PARTITIONS_TO_TXN : Addr} {wMETADATA : Addr} {wSYNC_GROUP : Addr} {wTXN_OFFSET_COMMIT : Addr} {wJOIN_GROUP : Addr} {wLIST_OFFSETS : Addr} {wOFFSET_COMMIT : Addr} {wOFFSET_FETCH : Addr} {wADD_OFFSETS_TO_TXN : Addr} {wFIND_COORDINATOR : Addr} {wLEAVE_GROUP : Addr} {wEND_TXN : Addr} (W : World Z h wPRODUCE wFETCH wAPI_VERSIONS wHEARTBEAT wINIT_PRODUCER_ID wADD_PARTITIONS_TO_TXN wMETADATA wSYNC_GROUP wTXN_OFFSET_COMMIT wJOIN_GROUP wLIST_OFFSETS wOFFSET_COMMIT wOFFSET_FETCH wADD_OFFSETS_TO_TXN wFIND_COORDINATOR wLEAVE_GROUP wEND_TXN) (E : Ext h h') : World Z h' wPRODUCE wFETCH wAPI_VERSIONS wHEARTBEAT wINIT_PRODUCER_ID wADD_PARTITIONS_TO_TXN wMETADATA wSYNC_GROUP wTXN_OFFSET_COMMIT wJOIN_GROUP wLIST_OFFSETS wOFFSET_COMMIT wOFFSET_FETCH wADD_OFFSETS_TO_TXN wFIND_COORDINATOR wLEAVE_GROUP wEND_TXN := by
  obtain ⟨SPRODUCE, EPRODUCE, FPRODUCE_firstFlexibleVersion, SFETCH, EFETCH, FFETCH_firstFlexibleVersion, SAPI_VERSIONS, EAPI_VERSIONS, FAPI_VERSIONS_firstFlexibleVersion, SHEARTBEAT, EHEARTBEAT, FHEARTBEAT_firstFlexibleVersion, SINIT_PRODUCER_ID, EINIT_PRODUCER_ID, FINIT_PRODUCER_ID_firstFlexibleVersion, SADD_PARTITIONS_TO_TXN, EADD_PARTITIONS_TO_TXN, FADD_PARTITIONS_TO_TXN_firstFlexibleVersion, SMETADATA, EMETADATA, FMETADATA_firstFlexibleVersion, SSYNC_GROUP, ESYNC_GROUP, FSYNC_GROUP_firstFlexibleVersion, STXN_OFFSET_COMMIT, ETXN_OFFSET_COMMIT, FTXN_OFFSET_COMMIT_firstFlexibleVersion, SJOIN_GROUP, EJOIN_GROUP, FJOIN_GROUP_firstFlexibleVersion, SLIST_OFFSETS, ELIST_OFFSETS, FLIST_OFFSETS_firstFlexibleVersion, SOFFSET_COMMIT, EOFFSET_COMMIT, FOFFSET_COMMIT_firstFlexibleVersion, SOFFSET_FETCH, EOFFSET_FETCH, FOFFSET_FETCH_firstFlexibleVersion, SADD_OFFSETS_TO_TXN, EADD_OFFSETS_TO_TXN, FADD_OFFSETS_TO_TXN_firstFlexibleVersion, SFIND_COORDINATOR, EFIND_COORDINATOR, FFIND_COORDINATOR_firstFlexibleVersion, SLEAVE_GROUP, ELEAVE_GROUP, FLEAVE_GROUP_firstFlexibleVersion, SEND_TXN, EEND_TXN, FEND_TXN_firstFlexibleVersion, -⟩ := W
  exact ⟨SPRODUCE.ext E, EPRODUCE.ext E, FPRODUCE_firstFlexibleVersion.ext E, SFETCH.ext E, EFETCH.ext E, FFETCH_firstFlexibleVersion.ext E, SAPI_VERSIONS.ext E, EAPI_VERSIONS.ext E, FAPI_VERSIONS_firstFlexibleVersion.ext E, SHEARTBEAT.ext E, EHEARTBEAT.ext E, FHEARTBEAT_firstFlexibleVersion.ext E, SINIT_PRODUCER_ID.ext E, EINIT_PRODUCER_ID.ext E, FINIT_PRODUCER_ID_firstFlexibleVersion.ext E, SADD_PARTITIONS_TO_TXN.ext E, EADD_PARTITIONS_TO_TXN.ext E, FADD_PARTITIONS_TO_TXN_firstFlexibleVersion.ext E, SMETADATA.ext E, EMETADATA.ext E, FMETADATA_firstFlexibleVersion.ext E, SSYNC_GROUP.ext E, ESYNC_GROUP.ext E, FSYNC_GROUP_firstFlexibleVersion.ext E, STXN_OFFSET_COMMIT.ext E, ETXN_OFFSET_COMMIT.ext E, FTXN_OFFSET_COMMIT_firstFlexibleVersion.ext E, SJOIN_GROUP.ext E, EJOIN_GROUP.ext E, FJOIN_GROUP_firstFlexibleVersion.ext E, SLIST_OFFSETS.ext E, ELIST_OFFSETS.ext E, FLIST_OFFSETS_firstFlexibleVersion.ext E, SOFFSET_COMMIT.ext E, EOFFSET_COMMIT.ext E, FOFFSET_COMMIT_firstFlexibleVersion.ext E, SOFFSET_FETCH.ext E, EOFFSET_FETCH.ext E, FOFFSET_FETCH_firstFlexibleVersion.ext E, SADD_OFFSETS_TO_TXN.ext E, EADD_OFFSETS_TO_TXN.ext E, FADD_OFFSETS_TO_TXN_firstFlexibleVersion.ext E, SFIND_COORDINATOR.ext E, EFIND_COORDINATOR.ext E, FFIND_COORDINATOR_firstFlexibleVersion.ext E, SLEAVE_GROUP.ext E, ELEAVE_GROUP.ext E, FLEAVE_GROUP_firstFlexibleVersion.ext E, SEND_TXN.ext E, EEND_TXN.ext E, FEND_TXN_firstFlexibleVersion.ext E, trivial⟩
theorem d1_0 : decode method_3_code 0 = .ok (.iload_n 0, 1) := by decide +kernel
theorem d1_1 : decode method_3_code 1 = .ok (.ifCond .ne 7, 3) := by decide +kernel
theorem d1_4 : decode method_3_code 4 = .ok (.getstatic 24, 3) := by decide +kernel
theorem d1_7 : decode method_3_code 7 = .ok (.areturn, 1) := by decide +kernel
theorem d1_8 : decode method_3_code 8 = .ok (.iload_n 0, 1) := by decide +kernel
theorem d1_9 : decode method_3_code 9 = .ok (.iconst 1, 1) := by decide +kernel
theorem d1_10 : decode method_3_code 10 = .ok (.if_icmp .ne 7, 3) := by decide +kernel
theorem d1_13 : decode method_3_code 13 = .ok (.getstatic 28, 3) := by decide +kernel
theorem d1_16 : decode method_3_code 16 = .ok (.areturn, 1) := by decide +kernel
theorem d1_17 : decode method_3_code 17 = .ok (.iload_n 0, 1) := by decide +kernel
theorem d1_18 : decode method_3_code 18 = .ok (.iconst 2, 1) := by decide +kernel
theorem d1_19 : decode method_3_code 19 = .ok (.if_icmp .ne 7, 3) := by decide +kernel
theorem d1_22 : decode method_3_code 22 = .ok (.getstatic 31, 3) := by decide +kernel
theorem d1_25 : decode method_3_code 25 = .ok (.areturn, 1) := by decide +kernel
theorem d1_26 : decode method_3_code 26 = .ok (.iload_n 0, 1) := by decide +kernel
theorem d1_27 : decode method_3_code 27 = .ok (.iconst 3, 1) := by decide +kernel
theorem d1_28 : decode method_3_code 28 = .ok (.if_icmp .ne 7, 3) := by decide +kernel
theorem d1_31 : decode method_3_code 31 = .ok (.getstatic 34, 3) := by decide +kernel
theorem d1_34 : decode method_3_code 34 = .ok (.areturn, 1) := by decide +kernel
theorem d1_35 : decode method_3_code 35 = .ok (.iload_n 0, 1) := by decide +kernel
theorem d1_36 : decode method_3_code 36 = .ok (.iconst 4, 1) := by decide +kernel
theorem d1_37 : decode method_3_code 37 = .ok (.if_icmp .ne 7, 3) := by decide +kernel
theorem d1_40 : decode method_3_code 40 = .ok (.getstatic 37, 3) := by decide +kernel
theorem d1_43 : decode method_3_code 43 = .ok (.areturn, 1) := by decide +kernel
theorem d1_44 : decode method_3_code 44 = .ok (.iload_n 0, 1) := by decide +kernel
theorem d1_45 : decode method_3_code 45 = .ok (.iconst 5, 1) := by decide +kernel
theorem d1_46 : decode method_3_code 46 = .ok (.if_icmp .ne 7, 3) := by decide +kernel
theorem d1_49 : decode method_3_code 49 = .ok (.getstatic 40, 3) := by decide +kernel
theorem d1_52 : decode method_3_code 52 = .ok (.areturn, 1) := by decide +kernel
theorem d1_53 : decode method_3_code 53 = .ok (.iload_n 0, 1) := by decide +kernel
theorem d1_54 : decode method_3_code 54 = .ok (.bipush 6, 2) := by decide +kernel
theorem d1_56 : decode method_3_code 56 = .ok (.if_icmp .ne 7, 3) := by decide +kernel
theorem d1_59 : decode method_3_code 59 = .ok (.getstatic 43, 3) := by decide +kernel
theorem d1_62 : decode method_3_code 62 = .ok (.areturn, 1) := by decide +kernel
theorem d1_63 : decode method_3_code 63 = .ok (.iload_n 0, 1) := by decide +kernel
theorem d1_64 : decode method_3_code 64 = .ok (.bipush 7, 2) := by decide +kernel
theorem d1_66 : decode method_3_code 66 = .ok (.if_icmp .ne 7, 3) := by decide +kernel
theorem d1_69 : decode method_3_code 69 = .ok (.getstatic 46, 3) := by decide +kernel
theorem d1_72 : decode method_3_code 72 = .ok (.areturn, 1) := by decide +kernel
theorem d1_73 : decode method_3_code 73 = .ok (.iload_n 0, 1) := by decide +kernel
theorem d1_74 : decode method_3_code 74 = .ok (.bipush 8, 2) := by decide +kernel
theorem d1_76 : decode method_3_code 76 = .ok (.if_icmp .ne 7, 3) := by decide +kernel
theorem d1_79 : decode method_3_code 79 = .ok (.getstatic 49, 3) := by decide +kernel
theorem d1_82 : decode method_3_code 82 = .ok (.areturn, 1) := by decide +kernel
theorem d1_83 : decode method_3_code 83 = .ok (.iload_n 0, 1) := by decide +kernel
theorem d1_84 : decode method_3_code 84 = .ok (.bipush 9, 2) := by decide +kernel
theorem d1_86 : decode method_3_code 86 = .ok (.if_icmp .ne 7, 3) := by decide +kernel
theorem d1_89 : decode method_3_code 89 = .ok (.getstatic 52, 3) := by decide +kernel
theorem d1_92 : decode method_3_code 92 = .ok (.areturn, 1) := by decide +kernel
theorem d1_93 : decode method_3_code 93 = .ok (.iload_n 0, 1) := by decide +kernel
theorem d1_94 : decode method_3_code 94 = .ok (.bipush 10, 2) := by decide +kernel
theorem d1_96 : decode method_3_code 96 = .ok (.if_icmp .ne 7, 3) := by decide +kernel
theorem d1_99 : decode method_3_code 99 = .ok (.getstatic 55, 3) := by decide +kernel
theorem d1_102 : decode method_3_code 102 = .ok (.areturn, 1) := by decide +kernel
theorem d1_103 : decode method_3_code 103 = .ok (.iload_n 0, 1) := by decide +kernel
theorem d1_104 : decode method_3_code 104 = .ok (.bipush 11, 2) := by decide +kernel
theorem d1_106 : decode method_3_code 106 = .ok (.if_icmp .ne 7, 3) := by decide +kernel
theorem d1_109 : decode method_3_code 109 = .ok (.getstatic 58, 3) := by decide +kernel
theorem d1_112 : decode method_3_code 112 = .ok (.areturn, 1) := by decide +kernel
theorem d1_113 : decode method_3_code 113 = .ok (.iload_n 0, 1) := by decide +kernel
theorem d1_114 : decode method_3_code 114 = .ok (.bipush 12, 2) := by decide +kernel
theorem d1_116 : decode method_3_code 116 = .ok (.if_icmp .ne 7, 3) := by decide +kernel
theorem d1_119 : decode method_3_code 119 = .ok (.getstatic 61, 3) := by decide +kernel
theorem d1_122 : decode method_3_code 122 = .ok (.areturn, 1) := by decide +kernel
theorem d1_123 : decode method_3_code 123 = .ok (.iload_n 0, 1) := by decide +kernel
theorem d1_124 : decode method_3_code 124 = .ok (.bipush 13, 2) := by decide +kernel
theorem d1_126 : decode method_3_code 126 = .ok (.if_icmp .ne 7, 3) := by decide +kernel
theorem d1_129 : decode method_3_code 129 = .ok (.getstatic 64, 3) := by decide +kernel
theorem d1_132 : decode method_3_code 132 = .ok (.areturn, 1) := by decide +kernel
theorem d1_133 : decode method_3_code 133 = .ok (.iload_n 0, 1) := by decide +kernel
theorem d1_134 : decode method_3_code 134 = .ok (.bipush 14, 2) := by decide +kernel
theorem d1_136 : decode method_3_code 136 = .ok (.if_icmp .ne 7, 3) := by decide +kernel
theorem d1_139 : decode method_3_code 139 = .ok (.getstatic 67, 3) := by decide +kernel
theorem d1_142 : decode method_3_code 142 = .ok (.areturn, 1) := by decide +kernel
theorem d1_143 : decode method_3_code 143 = .ok (.iload_n 0, 1) := by decide +kernel
theorem d1_144 : decode method_3_code 144 = .ok (.bipush 15, 2) := by decide +kernel
theorem d1_146 : decode method_3_code 146 = .ok (.if_icmp .ne 7, 3) := by decide +kernel
theorem d1_149 : decode method_3_code 149 = .ok (.getstatic 70, 3) := by decide +kernel
theorem d1_152 : decode method_3_code 152 = .ok (.areturn, 1) := by decide +kernel
theorem d1_153 : decode method_3_code 153 = .ok (.getstatic 73, 3) := by decide +kernel
theorem d1_156 : decode method_3_code 156 = .ok (.areturn, 1) := by decide +kernel
theorem pn_0 : plainName "com/example/idem_log/idemlog/protocol/ApiIsFlexiblePinLaw" = true := by first | (simp [plainName, overriddenIn]; done) | decide +kernel
def f1 (p0 : Int32) (wPRODUCE : Addr) (wFETCH : Addr) (wAPI_VERSIONS : Addr) (wHEARTBEAT : Addr) (wINIT_PRODUCER_ID : Addr) (wADD_PARTITIONS_TO_TXN : Addr) (wMETADATA : Addr) (wSYNC_GROUP : Addr) (wTXN_OFFSET_COMMIT : Addr) (wJOIN_GROUP : Addr) (wLIST_OFFSETS : Addr) (wOFFSET_COMMIT : Addr) (wOFFSET_FETCH : Addr) (wADD_OFFSETS_TO_TXN : Addr) (wFIND_COORDINATOR : Addr) (wLEAVE_GROUP : Addr) (wEND_TXN : Addr) : Addr := if p0 = (0 : Int32) then wPRODUCE else if p0 = (1 : Int32) then wFETCH else if p0 = (2 : Int32) then wLIST_OFFSETS else if p0 = (3 : Int32) then wMETADATA else if p0 = (4 : Int32) then wOFFSET_COMMIT else if p0 = (5 : Int32) then wOFFSET_FETCH else if p0 = (6 : Int32) then wFIND_COORDINATOR else if p0 = (7 : Int32) then wJOIN_GROUP else if p0 = (8 : Int32) then wHEARTBEAT else if p0 = (9 : Int32) then wLEAVE_GROUP else if p0 = (10 : Int32) then wSYNC_GROUP else if p0 = (11 : Int32) then wAPI_VERSIONS else if p0 = (12 : Int32) then wINIT_PRODUCER_ID else if p0 = (13 : Int32) then wADD_PARTITIONS_TO_TXN else if p0 = (14 : Int32) then wADD_OFFSETS_TO_TXN else if p0 = (15 : Int32) then wEND_TXN else wTXN_OFFSET_COMMIT
theorem ef_1 (m : MethodId) (p0 : Int32) : entryFrame m #[(.int p0)] 1 = mkF m 0 #[.val (.int p0)] [] := by first | (simp [entryFrame, mkF, argsToLocals, Value.category]; done) | rfl
def Q1 (Z : State) (p0 : Int32) (wPRODUCE : Addr) (wFETCH : Addr) (wAPI_VERSIONS : Addr) (wHEARTBEAT : Addr) (wINIT_PRODUCER_ID : Addr) (wADD_PARTITIONS_TO_TXN : Addr) (wMETADATA : Addr) (wSYNC_GROUP : Addr) (wTXN_OFFSET_COMMIT : Addr) (wJOIN_GROUP : Addr) (wLIST_OFFSETS : Addr) (wOFFSET_COMMIT : Addr) (wOFFSET_FETCH : Addr) (wADD_OFFSETS_TO_TXN : Addr) (wFIND_COORDINATOR : Addr) (wLEAVE_GROUP : Addr) (wEND_TXN : Addr) (h0 : Heap) (n0 : Nat) (v : Option Value) (h : Heap) (L : List Loc) : Prop := v = some (.ref (f1 p0 wPRODUCE wFETCH wAPI_VERSIONS wHEARTBEAT wINIT_PRODUCER_ID wADD_PARTITIONS_TO_TXN wMETADATA wSYNC_GROUP wTXN_OFFSET_COMMIT wJOIN_GROUP wLIST_OFFSETS wOFFSET_COMMIT wOFFSET_FETCH wADD_OFFSETS_TO_TXN wFIND_COORDINATOR wLEAVE_GROUP wEND_TXN)) ∧ Fr n0 L ∧ h = h0
set_option maxRecDepth 65536 in
set_option maxHeartbeats 40000000 in
theorem rm1 (l : Launch) (Z : State) (a0 : Array Value) (hw : ∀ d ∈ tables_1, d.before a0 Z = true) (ws : List Jvm.Cond) (p0 : Int32) (wPRODUCE : Addr) (wFETCH : Addr) (wAPI_VERSIONS : Addr) (wHEARTBEAT : Addr) (wINIT_PRODUCER_ID : Addr) (wADD_PARTITIONS_TO_TXN : Addr) (wMETADATA : Addr) (wSYNC_GROUP : Addr) (wTXN_OFFSET_COMMIT : Addr) (wJOIN_GROUP : Addr) (wLIST_OFFSETS : Addr) (wOFFSET_COMMIT : Addr) (wOFFSET_FETCH : Addr) (wADD_OFFSETS_TO_TXN : Addr) (wFIND_COORDINATOR : Addr) (wLEAVE_GROUP : Addr) (wEND_TXN : Addr) (h0 : Heap) (n0 : Nat) (Z0 : n0 ≤ h0.size) (W0 : World Z h0 wPRODUCE wFETCH wAPI_VERSIONS wHEARTBEAT wINIT_PRODUCER_ID wADD_PARTITIONS_TO_TXN wMETADATA wSYNC_GROUP wTXN_OFFSET_COMMIT wJOIN_GROUP wLIST_OFFSETS wOFFSET_COMMIT wOFFSET_FETCH wADD_OFFSETS_TO_TXN wFIND_COORDINATOR wLEAVE_GROUP wEND_TXN) :
    MetFree l (⟨"com/example/idem_log/idemlog/protocol/ApiIsFlexiblePinLaw", "pick", "(I)Lcom/example/idem_log/idemlog/protocol/Api;"⟩ : MethodName) (head1 (Jvm.Cond.code (⟨"com/example/idem_log/idemlog/protocol/ApiIsFlexiblePinLaw", "pick", "(I)Lcom/example/idem_log/idemlog/protocol/Api;"⟩ : MethodName) method_3_code 1 (some (.object "com/example/idem_log/idemlog/protocol/Api")) :: ws) ({ frames := 0, cells := 0, slots := 0, locals := 0 } : Room)) (fun a U => a = #[(.int p0)] ∧ Z.Warmed39 U.vm ∧ U.heap = h0) (fun _ _ _ _ _ => True) (fun _ U o U' => ∃ v L, o = .returned v ∧ Q1 Z p0 wPRODUCE wFETCH wAPI_VERSIONS wHEARTBEAT wINIT_PRODUCER_ID wADD_PARTITIONS_TO_TXN wMETADATA wSYNC_GROUP wTXN_OFFSET_COMMIT wJOIN_GROUP wLIST_OFFSETS wOFFSET_COMMIT wOFFSET_FETCH wADD_OFFSETS_TO_TXN wFIND_COORDINATOR wLEAVE_GROUP wEND_TXN h0 n0 v U'.heap L ∧ FrameEnd U o U' L ({ frames := 0, cells := 0, slots := 0, locals := 0 } : Room).cells ({ frames := 0, cells := 0, slots := 0, locals := 0 } : Room).slots) := by
  refine MetFree.of_bodySF (plainFor_of_name pn_0) hisR ?_
  intro p e s m args below meth c s₁ Bd hml0 hP hK
  obtain ⟨rfl, hZ, hh⟩ := hP
  have hx := Bd.exec
  have hby := Bd.bytes
  have hml : c.maxLocals = 1 := hml0
  have hown : s.vm.findClass "com/example/idem_log/idemlog/protocol/ApiIsFlexiblePinLaw" = some m.cls := findClass_of_methodNamed Bd.named
  have X0 : Stand p l e ({ frames := 0, cells := 0, slots := 0, locals := 0 } : Room) s m #[(.int p0)] below meth c s₁ [] 0 0 := Stand.of_body Bd
  have e0 : s₁.heap = h0 := by rw [← hh, Bd.state]; rfl
  have N0 := Fr.nil n0
  have W1 := W0
  obtain ⟨SPRODUCE, EPRODUCE, FPRODUCE_firstFlexibleVersion, SFETCH, EFETCH, FFETCH_firstFlexibleVersion, SAPI_VERSIONS, EAPI_VERSIONS, FAPI_VERSIONS_firstFlexibleVersion, SHEARTBEAT, EHEARTBEAT, FHEARTBEAT_firstFlexibleVersion, SINIT_PRODUCER_ID, EINIT_PRODUCER_ID, FINIT_PRODUCER_ID_firstFlexibleVersion, SADD_PARTITIONS_TO_TXN, EADD_PARTITIONS_TO_TXN, FADD_PARTITIONS_TO_TXN_firstFlexibleVersion, SMETADATA, EMETADATA, FMETADATA_firstFlexibleVersion, SSYNC_GROUP, ESYNC_GROUP, FSYNC_GROUP_firstFlexibleVersion, STXN_OFFSET_COMMIT, ETXN_OFFSET_COMMIT, FTXN_OFFSET_COMMIT_firstFlexibleVersion, SJOIN_GROUP, EJOIN_GROUP, FJOIN_GROUP_firstFlexibleVersion, SLIST_OFFSETS, ELIST_OFFSETS, FLIST_OFFSETS_firstFlexibleVersion, SOFFSET_COMMIT, EOFFSET_COMMIT, FOFFSET_COMMIT_firstFlexibleVersion, SOFFSET_FETCH, EOFFSET_FETCH, FOFFSET_FETCH_firstFlexibleVersion, SADD_OFFSETS_TO_TXN, EADD_OFFSETS_TO_TXN, FADD_OFFSETS_TO_TXN_firstFlexibleVersion, SFIND_COORDINATOR, EFIND_COORDINATOR, FFIND_COORDINATOR_firstFlexibleVersion, SLEAVE_GROUP, ELEAVE_GROUP, FLEAVE_GROUP_firstFlexibleVersion, SEND_TXN, EEND_TXN, FEND_TXN_firstFlexibleVersion, -⟩ := W1
  have pre0 : ∀ t, Steps p.tables e below (s₁.setTop (mkF m 0 #[.val (.int p0)] [])) t → Steps p.tables e below (s₁.setTop (entryFrame m #[(.int p0)] 1)) t := fun t k => castTop (ef_1 m p0) k
  have k1 : ∀ t, Steps p.tables e below (s₁.setTop (mkF m 1 #[.val (.int p0)] [(.int p0)])) t → Steps p.tables e below (s₁.setTop (entryFrame m #[(.int p0)] 1)) t := fun t kt => pre0 t (by
    show Steps p.tables e below (s₁.setTop (mkF m 0 #[.val (.int p0)] [])) _
    refine XS.iloadN X0.here hx rfl (hb hby d1_0) rfl ?_
    exact kt)
  by_cases hc2 : p0 = (0 : Int32)
  · obtain ⟨T3, X3, e3, st3⟩ := getS2 X0 hx hZ hown (host := "") (Or.inl (hw _ (List.mem_of_getElem? (i := 5) rfl))) Via.refl e0 SPRODUCE (g := (mkF m 4 #[.val (.int p0)] [])) rfl (hb hby d1_4)
    obtain ⟨fs, hr, hrun, hended, hW, hsame⟩ := X3.leave (v := some (.ref wPRODUCE)) (fun h => by rw [Bd.returns] at h; cases h)
    refine ⟨_, _, k1 _ ?_, hrun, hended, _, _, rfl, ?_, ⟨_, rfl⟩, hW, hsame.mono (by decide) (by decide)⟩
    · show Steps p.tables e below (s₁.setTop (mkF m 1 #[.val (.int p0)] [(.int p0)])) _
      refine XS.ifNo X0.here hx rfl (hb hby d1_1) rfl ((if0 _ _).trans (teq (hc2 : p0 = (0 : Int32))).2) ?_
      show Steps p.tables e below (s₁.setTop (mkF m 4 #[.val (.int p0)] [])) _
      refine st3 _ ?_
      show Steps p.tables e below (T3.setTop (mkF m 7 #[.val (.int p0)] [(.ref wPRODUCE)])) _
      exact own_retA X3 hx Bd.returns rfl rfl (hb hby d1_7) hr
    · show Q1 Z p0 wPRODUCE wFETCH wAPI_VERSIONS wHEARTBEAT wINIT_PRODUCER_ID wADD_PARTITIONS_TO_TXN wMETADATA wSYNC_GROUP wTXN_OFFSET_COMMIT wJOIN_GROUP wLIST_OFFSETS wOFFSET_COMMIT wOFFSET_FETCH wADD_OFFSETS_TO_TXN wFIND_COORDINATOR wLEAVE_GROUP wEND_TXN h0 n0 _ T3.heap _
      rw [e3]
      exact ⟨by rw [f1, if_pos hc2], N0, rfl⟩
  · have k4 : ∀ t, Steps p.tables e below (s₁.setTop (mkF m 10 #[.val (.int p0)] [(.int (1 : Int32)), (.int p0)])) t → Steps p.tables e below (s₁.setTop (entryFrame m #[(.int p0)] 1)) t := fun t kt => k1 t (by
      show Steps p.tables e below (s₁.setTop (mkF m 1 #[.val (.int p0)] [(.int p0)])) _
      refine XS.ifYes X0.here hx rfl (pc0 := 1) (pc' := 8) rfl (hb hby d1_1) rfl ((if0 _ _).trans (feq (hc2 : ¬ (p0 = (0 : Int32)))).2) (by decide) (by decide) ?_
      show Steps p.tables e below (s₁.setTop (mkF m 8 #[.val (.int p0)] [])) _
      refine XS.iloadN X0.here hx rfl (hb hby d1_8) rfl ?_
      show Steps p.tables e below (s₁.setTop (mkF m 9 #[.val (.int p0)] [(.int p0)])) _
      refine XS.iconst X0.here hx rfl (hb hby d1_9) ?_
      exact kt)
    by_cases hc5 : p0 = (1 : Int32)
    · obtain ⟨T6, X6, e6, st6⟩ := getS2 X0 hx hZ hown (host := "") (Or.inl (hw _ (List.mem_of_getElem? (i := 18) rfl))) Via.refl e0 SFETCH (g := (mkF m 13 #[.val (.int p0)] [])) rfl (hb hby d1_13)
      obtain ⟨fs, hr, hrun, hended, hW, hsame⟩ := X6.leave (v := some (.ref wFETCH)) (fun h => by rw [Bd.returns] at h; cases h)
      refine ⟨_, _, k4 _ ?_, hrun, hended, _, _, rfl, ?_, ⟨_, rfl⟩, hW, hsame.mono (by decide) (by decide)⟩
      · show Steps p.tables e below (s₁.setTop (mkF m 10 #[.val (.int p0)] [(.int (1 : Int32)), (.int p0)])) _
        refine XS.icmpNo X0.here hx rfl (hb hby d1_10) rfl (teq (hc5 : p0 = (1 : Int32))).2 ?_
        show Steps p.tables e below (s₁.setTop (mkF m 13 #[.val (.int p0)] [])) _
        refine st6 _ ?_
        show Steps p.tables e below (T6.setTop (mkF m 16 #[.val (.int p0)] [(.ref wFETCH)])) _
        exact own_retA X6 hx Bd.returns rfl rfl (hb hby d1_16) hr
      · show Q1 Z p0 wPRODUCE wFETCH wAPI_VERSIONS wHEARTBEAT wINIT_PRODUCER_ID wADD_PARTITIONS_TO_TXN wMETADATA wSYNC_GROUP wTXN_OFFSET_COMMIT wJOIN_GROUP wLIST_OFFSETS wOFFSET_COMMIT wOFFSET_FETCH wADD_OFFSETS_TO_TXN wFIND_COORDINATOR wLEAVE_GROUP wEND_TXN h0 n0 _ T6.heap _
        rw [e6]
        exact ⟨by rw [f1, if_neg hc2, if_pos hc5], N0, rfl⟩
    · have k7 : ∀ t, Steps p.tables e below (s₁.setTop (mkF m 19 #[.val (.int p0)] [(.int (2 : Int32)), (.int p0)])) t → Steps p.tables e below (s₁.setTop (entryFrame m #[(.int p0)] 1)) t := fun t kt => k4 t (by
        show Steps p.tables e below (s₁.setTop (mkF m 10 #[.val (.int p0)] [(.int (1 : Int32)), (.int p0)])) _
        refine XS.icmpYes X0.here hx rfl (pc0 := 10) (pc' := 17) rfl (hb hby d1_10) rfl (feq (hc5 : ¬ (p0 = (1 : Int32)))).2 (by decide) (by decide) ?_
        show Steps p.tables e below (s₁.setTop (mkF m 17 #[.val (.int p0)] [])) _
        refine XS.iloadN X0.here hx rfl (hb hby d1_17) rfl ?_
        show Steps p.tables e below (s₁.setTop (mkF m 18 #[.val (.int p0)] [(.int p0)])) _
        refine XS.iconst X0.here hx rfl (hb hby d1_18) ?_
        exact kt)
      by_cases hc8 : p0 = (2 : Int32)
      · obtain ⟨T9, X9, e9, st9⟩ := getS2 X0 hx hZ hown (host := "") (Or.inl (hw _ (List.mem_of_getElem? (i := 36) rfl))) Via.refl e0 SLIST_OFFSETS (g := (mkF m 22 #[.val (.int p0)] [])) rfl (hb hby d1_22)
        obtain ⟨fs, hr, hrun, hended, hW, hsame⟩ := X9.leave (v := some (.ref wLIST_OFFSETS)) (fun h => by rw [Bd.returns] at h; cases h)
        refine ⟨_, _, k7 _ ?_, hrun, hended, _, _, rfl, ?_, ⟨_, rfl⟩, hW, hsame.mono (by decide) (by decide)⟩
        · show Steps p.tables e below (s₁.setTop (mkF m 19 #[.val (.int p0)] [(.int (2 : Int32)), (.int p0)])) _
          refine XS.icmpNo X0.here hx rfl (hb hby d1_19) rfl (teq (hc8 : p0 = (2 : Int32))).2 ?_
          show Steps p.tables e below (s₁.setTop (mkF m 22 #[.val (.int p0)] [])) _
          refine st9 _ ?_
          show Steps p.tables e below (T9.setTop (mkF m 25 #[.val (.int p0)] [(.ref wLIST_OFFSETS)])) _
          exact own_retA X9 hx Bd.returns rfl rfl (hb hby d1_25) hr
        · show Q1 Z p0 wPRODUCE wFETCH wAPI_VERSIONS wHEARTBEAT wINIT_PRODUCER_ID wADD_PARTITIONS_TO_TXN wMETADATA wSYNC_GROUP wTXN_OFFSET_COMMIT wJOIN_GROUP wLIST_OFFSETS wOFFSET_COMMIT wOFFSET_FETCH wADD_OFFSETS_TO_TXN wFIND_COORDINATOR wLEAVE_GROUP wEND_TXN h0 n0 _ T9.heap _
          rw [e9]
          exact ⟨by rw [f1, if_neg hc2, if_neg hc5, if_pos hc8], N0, rfl⟩
      · have k10 : ∀ t, Steps p.tables e below (s₁.setTop (mkF m 28 #[.val (.int p0)] [(.int (3 : Int32)), (.int p0)])) t → Steps p.tables e below (s₁.setTop (entryFrame m #[(.int p0)] 1)) t := fun t kt => k7 t (by
          show Steps p.tables e below (s₁.setTop (mkF m 19 #[.val (.int p0)] [(.int (2 : Int32)), (.int p0)])) _
          refine XS.icmpYes X0.here hx rfl (pc0 := 19) (pc' := 26) rfl (hb hby d1_19) rfl (feq (hc8 : ¬ (p0 = (2 : Int32)))).2 (by decide) (by decide) ?_
          show Steps p.tables e below (s₁.setTop (mkF m 26 #[.val (.int p0)] [])) _
          refine XS.iloadN X0.here hx rfl (hb hby d1_26) rfl ?_
          show Steps p.tables e below (s₁.setTop (mkF m 27 #[.val (.int p0)] [(.int p0)])) _
          refine XS.iconst X0.here hx rfl (hb hby d1_27) ?_
          exact kt)
        by_cases hc11 : p0 = (3 : Int32)
        · obtain ⟨T12, X12, e12, st12⟩ := getS2 X0 hx hZ hown (host := "") (Or.inl (hw _ (List.mem_of_getElem? (i := 28) rfl))) Via.refl e0 SMETADATA (g := (mkF m 31 #[.val (.int p0)] [])) rfl (hb hby d1_31)
          obtain ⟨fs, hr, hrun, hended, hW, hsame⟩ := X12.leave (v := some (.ref wMETADATA)) (fun h => by rw [Bd.returns] at h; cases h)
          refine ⟨_, _, k10 _ ?_, hrun, hended, _, _, rfl, ?_, ⟨_, rfl⟩, hW, hsame.mono (by decide) (by decide)⟩
          · show Steps p.tables e below (s₁.setTop (mkF m 28 #[.val (.int p0)] [(.int (3 : Int32)), (.int p0)])) _
            refine XS.icmpNo X0.here hx rfl (hb hby d1_28) rfl (teq (hc11 : p0 = (3 : Int32))).2 ?_
            show Steps p.tables e below (s₁.setTop (mkF m 31 #[.val (.int p0)] [])) _
            refine st12 _ ?_
            show Steps p.tables e below (T12.setTop (mkF m 34 #[.val (.int p0)] [(.ref wMETADATA)])) _
            exact own_retA X12 hx Bd.returns rfl rfl (hb hby d1_34) hr
          · show Q1 Z p0 wPRODUCE wFETCH wAPI_VERSIONS wHEARTBEAT wINIT_PRODUCER_ID wADD_PARTITIONS_TO_TXN wMETADATA wSYNC_GROUP wTXN_OFFSET_COMMIT wJOIN_GROUP wLIST_OFFSETS wOFFSET_COMMIT wOFFSET_FETCH wADD_OFFSETS_TO_TXN wFIND_COORDINATOR wLEAVE_GROUP wEND_TXN h0 n0 _ T12.heap _
            rw [e12]
            exact ⟨by rw [f1, if_neg hc2, if_neg hc5, if_neg hc8, if_pos hc11], N0, rfl⟩
        · have k13 : ∀ t, Steps p.tables e below (s₁.setTop (mkF m 37 #[.val (.int p0)] [(.int (4 : Int32)), (.int p0)])) t → Steps p.tables e below (s₁.setTop (entryFrame m #[(.int p0)] 1)) t := fun t kt => k10 t (by
            show Steps p.tables e below (s₁.setTop (mkF m 28 #[.val (.int p0)] [(.int (3 : Int32)), (.int p0)])) _
            refine XS.icmpYes X0.here hx rfl (pc0 := 28) (pc' := 35) rfl (hb hby d1_28) rfl (feq (hc11 : ¬ (p0 = (3 : Int32)))).2 (by decide) (by decide) ?_
            show Steps p.tables e below (s₁.setTop (mkF m 35 #[.val (.int p0)] [])) _
            refine XS.iloadN X0.here hx rfl (hb hby d1_35) rfl ?_
            show Steps p.tables e below (s₁.setTop (mkF m 36 #[.val (.int p0)] [(.int p0)])) _
            refine XS.iconst X0.here hx rfl (hb hby d1_36) ?_
            exact kt)
          by_cases hc14 : p0 = (4 : Int32)
          · obtain ⟨T15, X15, e15, st15⟩ := getS2 X0 hx hZ hown (host := "") (Or.inl (hw _ (List.mem_of_getElem? (i := 38) rfl))) Via.refl e0 SOFFSET_COMMIT (g := (mkF m 40 #[.val (.int p0)] [])) rfl (hb hby d1_40)
            obtain ⟨fs, hr, hrun, hended, hW, hsame⟩ := X15.leave (v := some (.ref wOFFSET_COMMIT)) (fun h => by rw [Bd.returns] at h; cases h)
            refine ⟨_, _, k13 _ ?_, hrun, hended, _, _, rfl, ?_, ⟨_, rfl⟩, hW, hsame.mono (by decide) (by decide)⟩
            · show Steps p.tables e below (s₁.setTop (mkF m 37 #[.val (.int p0)] [(.int (4 : Int32)), (.int p0)])) _
              refine XS.icmpNo X0.here hx rfl (hb hby d1_37) rfl (teq (hc14 : p0 = (4 : Int32))).2 ?_
              show Steps p.tables e below (s₁.setTop (mkF m 40 #[.val (.int p0)] [])) _
              refine st15 _ ?_
              show Steps p.tables e below (T15.setTop (mkF m 43 #[.val (.int p0)] [(.ref wOFFSET_COMMIT)])) _
              exact own_retA X15 hx Bd.returns rfl rfl (hb hby d1_43) hr
            · show Q1 Z p0 wPRODUCE wFETCH wAPI_VERSIONS wHEARTBEAT wINIT_PRODUCER_ID wADD_PARTITIONS_TO_TXN wMETADATA wSYNC_GROUP wTXN_OFFSET_COMMIT wJOIN_GROUP wLIST_OFFSETS wOFFSET_COMMIT wOFFSET_FETCH wADD_OFFSETS_TO_TXN wFIND_COORDINATOR wLEAVE_GROUP wEND_TXN h0 n0 _ T15.heap _
              rw [e15]
              exact ⟨by rw [f1, if_neg hc2, if_neg hc5, if_neg hc8, if_neg hc11, if_pos hc14], N0, rfl⟩
          · have k16 : ∀ t, Steps p.tables e below (s₁.setTop (mkF m 46 #[.val (.int p0)] [(.int (5 : Int32)), (.int p0)])) t → Steps p.tables e below (s₁.setTop (entryFrame m #[(.int p0)] 1)) t := fun t kt => k13 t (by
              show Steps p.tables e below (s₁.setTop (mkF m 37 #[.val (.int p0)] [(.int (4 : Int32)), (.int p0)])) _
              refine XS.icmpYes X0.here hx rfl (pc0 := 37) (pc' := 44) rfl (hb hby d1_37) rfl (feq (hc14 : ¬ (p0 = (4 : Int32)))).2 (by decide) (by decide) ?_
              show Steps p.tables e below (s₁.setTop (mkF m 44 #[.val (.int p0)] [])) _
              refine XS.iloadN X0.here hx rfl (hb hby d1_44) rfl ?_
              show Steps p.tables e below (s₁.setTop (mkF m 45 #[.val (.int p0)] [(.int p0)])) _
              refine XS.iconst X0.here hx rfl (hb hby d1_45) ?_
              exact kt)
            by_cases hc17 : p0 = (5 : Int32)
            · obtain ⟨T18, X18, e18, st18⟩ := getS2 X0 hx hZ hown (host := "") (Or.inl (hw _ (List.mem_of_getElem? (i := 40) rfl))) Via.refl e0 SOFFSET_FETCH (g := (mkF m 49 #[.val (.int p0)] [])) rfl (hb hby d1_49)
              obtain ⟨fs, hr, hrun, hended, hW, hsame⟩ := X18.leave (v := some (.ref wOFFSET_FETCH)) (fun h => by rw [Bd.returns] at h; cases h)
              refine ⟨_, _, k16 _ ?_, hrun, hended, _, _, rfl, ?_, ⟨_, rfl⟩, hW, hsame.mono (by decide) (by decide)⟩
              · show Steps p.tables e below (s₁.setTop (mkF m 46 #[.val (.int p0)] [(.int (5 : Int32)), (.int p0)])) _
                refine XS.icmpNo X0.here hx rfl (hb hby d1_46) rfl (teq (hc17 : p0 = (5 : Int32))).2 ?_
                show Steps p.tables e below (s₁.setTop (mkF m 49 #[.val (.int p0)] [])) _
                refine st18 _ ?_
                show Steps p.tables e below (T18.setTop (mkF m 52 #[.val (.int p0)] [(.ref wOFFSET_FETCH)])) _
                exact own_retA X18 hx Bd.returns rfl rfl (hb hby d1_52) hr
              · show Q1 Z p0 wPRODUCE wFETCH wAPI_VERSIONS wHEARTBEAT wINIT_PRODUCER_ID wADD_PARTITIONS_TO_TXN wMETADATA wSYNC_GROUP wTXN_OFFSET_COMMIT wJOIN_GROUP wLIST_OFFSETS wOFFSET_COMMIT wOFFSET_FETCH wADD_OFFSETS_TO_TXN wFIND_COORDINATOR wLEAVE_GROUP wEND_TXN h0 n0 _ T18.heap _
                rw [e18]
                exact ⟨by rw [f1, if_neg hc2, if_neg hc5, if_neg hc8, if_neg hc11, if_neg hc14, if_pos hc17], N0, rfl⟩
            · have k19 : ∀ t, Steps p.tables e below (s₁.setTop (mkF m 56 #[.val (.int p0)] [(.int (6 : Int32)), (.int p0)])) t → Steps p.tables e below (s₁.setTop (entryFrame m #[(.int p0)] 1)) t := fun t kt => k16 t (by
                show Steps p.tables e below (s₁.setTop (mkF m 46 #[.val (.int p0)] [(.int (5 : Int32)), (.int p0)])) _
                refine XS.icmpYes X0.here hx rfl (pc0 := 46) (pc' := 53) rfl (hb hby d1_46) rfl (feq (hc17 : ¬ (p0 = (5 : Int32)))).2 (by decide) (by decide) ?_
                show Steps p.tables e below (s₁.setTop (mkF m 53 #[.val (.int p0)] [])) _
                refine XS.iloadN X0.here hx rfl (hb hby d1_53) rfl ?_
                show Steps p.tables e below (s₁.setTop (mkF m 54 #[.val (.int p0)] [(.int p0)])) _
                refine XS.bipush X0.here hx rfl (hb hby d1_54) ?_
                exact kt)
              by_cases hc20 : p0 = (6 : Int32)
              · obtain ⟨T21, X21, e21, st21⟩ := getS2 X0 hx hZ hown (host := "") (Or.inl (hw _ (List.mem_of_getElem? (i := 44) rfl))) Via.refl e0 SFIND_COORDINATOR (g := (mkF m 59 #[.val (.int p0)] [])) rfl (hb hby d1_59)
                obtain ⟨fs, hr, hrun, hended, hW, hsame⟩ := X21.leave (v := some (.ref wFIND_COORDINATOR)) (fun h => by rw [Bd.returns] at h; cases h)
                refine ⟨_, _, k19 _ ?_, hrun, hended, _, _, rfl, ?_, ⟨_, rfl⟩, hW, hsame.mono (by decide) (by decide)⟩
                · show Steps p.tables e below (s₁.setTop (mkF m 56 #[.val (.int p0)] [(.int (6 : Int32)), (.int p0)])) _
                  refine XS.icmpNo X0.here hx rfl (hb hby d1_56) rfl (teq (hc20 : p0 = (6 : Int32))).2 ?_
                  show Steps p.tables e below (s₁.setTop (mkF m 59 #[.val (.int p0)] [])) _
                  refine st21 _ ?_
                  show Steps p.tables e below (T21.setTop (mkF m 62 #[.val (.int p0)] [(.ref wFIND_COORDINATOR)])) _
                  exact own_retA X21 hx Bd.returns rfl rfl (hb hby d1_62) hr
                · show Q1 Z p0 wPRODUCE wFETCH wAPI_VERSIONS wHEARTBEAT wINIT_PRODUCER_ID wADD_PARTITIONS_TO_TXN wMETADATA wSYNC_GROUP wTXN_OFFSET_COMMIT wJOIN_GROUP wLIST_OFFSETS wOFFSET_COMMIT wOFFSET_FETCH wADD_OFFSETS_TO_TXN wFIND_COORDINATOR wLEAVE_GROUP wEND_TXN h0 n0 _ T21.heap _
                  rw [e21]
                  exact ⟨by rw [f1, if_neg hc2, if_neg hc5, if_neg hc8, if_neg hc11, if_neg hc14, if_neg hc17, if_pos hc20], N0, rfl⟩
              · have k22 : ∀ t, Steps p.tables e below (s₁.setTop (mkF m 66 #[.val (.int p0)] [(.int (7 : Int32)), (.int p0)])) t → Steps p.tables e below (s₁.setTop (entryFrame m #[(.int p0)] 1)) t := fun t kt => k19 t (by
                  show Steps p.tables e below (s₁.setTop (mkF m 56 #[.val (.int p0)] [(.int (6 : Int32)), (.int p0)])) _
                  refine XS.icmpYes X0.here hx rfl (pc0 := 56) (pc' := 63) rfl (hb hby d1_56) rfl (feq (hc20 : ¬ (p0 = (6 : Int32)))).2 (by decide) (by decide) ?_
                  show Steps p.tables e below (s₁.setTop (mkF m 63 #[.val (.int p0)] [])) _
                  refine XS.iloadN X0.here hx rfl (hb hby d1_63) rfl ?_
                  show Steps p.tables e below (s₁.setTop (mkF m 64 #[.val (.int p0)] [(.int p0)])) _
                  refine XS.bipush X0.here hx rfl (hb hby d1_64) ?_
                  exact kt)
                by_cases hc23 : p0 = (7 : Int32)
                · obtain ⟨T24, X24, e24, st24⟩ := getS2 X0 hx hZ hown (host := "") (Or.inl (hw _ (List.mem_of_getElem? (i := 34) rfl))) Via.refl e0 SJOIN_GROUP (g := (mkF m 69 #[.val (.int p0)] [])) rfl (hb hby d1_69)
                  obtain ⟨fs, hr, hrun, hended, hW, hsame⟩ := X24.leave (v := some (.ref wJOIN_GROUP)) (fun h => by rw [Bd.returns] at h; cases h)
                  refine ⟨_, _, k22 _ ?_, hrun, hended, _, _, rfl, ?_, ⟨_, rfl⟩, hW, hsame.mono (by decide) (by decide)⟩
                  · show Steps p.tables e below (s₁.setTop (mkF m 66 #[.val (.int p0)] [(.int (7 : Int32)), (.int p0)])) _
                    refine XS.icmpNo X0.here hx rfl (hb hby d1_66) rfl (teq (hc23 : p0 = (7 : Int32))).2 ?_
                    show Steps p.tables e below (s₁.setTop (mkF m 69 #[.val (.int p0)] [])) _
                    refine st24 _ ?_
                    show Steps p.tables e below (T24.setTop (mkF m 72 #[.val (.int p0)] [(.ref wJOIN_GROUP)])) _
                    exact own_retA X24 hx Bd.returns rfl rfl (hb hby d1_72) hr
                  · show Q1 Z p0 wPRODUCE wFETCH wAPI_VERSIONS wHEARTBEAT wINIT_PRODUCER_ID wADD_PARTITIONS_TO_TXN wMETADATA wSYNC_GROUP wTXN_OFFSET_COMMIT wJOIN_GROUP wLIST_OFFSETS wOFFSET_COMMIT wOFFSET_FETCH wADD_OFFSETS_TO_TXN wFIND_COORDINATOR wLEAVE_GROUP wEND_TXN h0 n0 _ T24.heap _
                    rw [e24]
                    exact ⟨by rw [f1, if_neg hc2, if_neg hc5, if_neg hc8, if_neg hc11, if_neg hc14, if_neg hc17, if_neg hc20, if_pos hc23], N0, rfl⟩
                · have k25 : ∀ t, Steps p.tables e below (s₁.setTop (mkF m 76 #[.val (.int p0)] [(.int (8 : Int32)), (.int p0)])) t → Steps p.tables e below (s₁.setTop (entryFrame m #[(.int p0)] 1)) t := fun t kt => k22 t (by
                    show Steps p.tables e below (s₁.setTop (mkF m 66 #[.val (.int p0)] [(.int (7 : Int32)), (.int p0)])) _
                    refine XS.icmpYes X0.here hx rfl (pc0 := 66) (pc' := 73) rfl (hb hby d1_66) rfl (feq (hc23 : ¬ (p0 = (7 : Int32)))).2 (by decide) (by decide) ?_
                    show Steps p.tables e below (s₁.setTop (mkF m 73 #[.val (.int p0)] [])) _
                    refine XS.iloadN X0.here hx rfl (hb hby d1_73) rfl ?_
                    show Steps p.tables e below (s₁.setTop (mkF m 74 #[.val (.int p0)] [(.int p0)])) _
                    refine XS.bipush X0.here hx rfl (hb hby d1_74) ?_
                    exact kt)
                  by_cases hc26 : p0 = (8 : Int32)
                  · obtain ⟨T27, X27, e27, st27⟩ := getS2 X0 hx hZ hown (host := "") (Or.inl (hw _ (List.mem_of_getElem? (i := 22) rfl))) Via.refl e0 SHEARTBEAT (g := (mkF m 79 #[.val (.int p0)] [])) rfl (hb hby d1_79)
                    obtain ⟨fs, hr, hrun, hended, hW, hsame⟩ := X27.leave (v := some (.ref wHEARTBEAT)) (fun h => by rw [Bd.returns] at h; cases h)
                    refine ⟨_, _, k25 _ ?_, hrun, hended, _, _, rfl, ?_, ⟨_, rfl⟩, hW, hsame.mono (by decide) (by decide)⟩
                    · show Steps p.tables e below (s₁.setTop (mkF m 76 #[.val (.int p0)] [(.int (8 : Int32)), (.int p0)])) _
                      refine XS.icmpNo X0.here hx rfl (hb hby d1_76) rfl (teq (hc26 : p0 = (8 : Int32))).2 ?_
                      show Steps p.tables e below (s₁.setTop (mkF m 79 #[.val (.int p0)] [])) _
                      refine st27 _ ?_
                      show Steps p.tables e below (T27.setTop (mkF m 82 #[.val (.int p0)] [(.ref wHEARTBEAT)])) _
                      exact own_retA X27 hx Bd.returns rfl rfl (hb hby d1_82) hr
                    · show Q1 Z p0 wPRODUCE wFETCH wAPI_VERSIONS wHEARTBEAT wINIT_PRODUCER_ID wADD_PARTITIONS_TO_TXN wMETADATA wSYNC_GROUP wTXN_OFFSET_COMMIT wJOIN_GROUP wLIST_OFFSETS wOFFSET_COMMIT wOFFSET_FETCH wADD_OFFSETS_TO_TXN wFIND_COORDINATOR wLEAVE_GROUP wEND_TXN h0 n0 _ T27.heap _
                      rw [e27]
                      exact ⟨by rw [f1, if_neg hc2, if_neg hc5, if_neg hc8, if_neg hc11, if_neg hc14, if_neg hc17, if_neg hc20, if_neg hc23, if_pos hc26], N0, rfl⟩
                  · have k28 : ∀ t, Steps p.tables e below (s₁.setTop (mkF m 86 #[.val (.int p0)] [(.int (9 : Int32)), (.int p0)])) t → Steps p.tables e below (s₁.setTop (entryFrame m #[(.int p0)] 1)) t := fun t kt => k25 t (by
                      show Steps p.tables e below (s₁.setTop (mkF m 76 #[.val (.int p0)] [(.int (8 : Int32)), (.int p0)])) _
                      refine XS.icmpYes X0.here hx rfl (pc0 := 76) (pc' := 83) rfl (hb hby d1_76) rfl (feq (hc26 : ¬ (p0 = (8 : Int32)))).2 (by decide) (by decide) ?_
                      show Steps p.tables e below (s₁.setTop (mkF m 83 #[.val (.int p0)] [])) _
                      refine XS.iloadN X0.here hx rfl (hb hby d1_83) rfl ?_
                      show Steps p.tables e below (s₁.setTop (mkF m 84 #[.val (.int p0)] [(.int p0)])) _
                      refine XS.bipush X0.here hx rfl (hb hby d1_84) ?_
                      exact kt)
                    by_cases hc29 : p0 = (9 : Int32)
                    · obtain ⟨T30, X30, e30, st30⟩ := getS2 X0 hx hZ hown (host := "") (Or.inl (hw _ (List.mem_of_getElem? (i := 46) rfl))) Via.refl e0 SLEAVE_GROUP (g := (mkF m 89 #[.val (.int p0)] [])) rfl (hb hby d1_89)
                      obtain ⟨fs, hr, hrun, hended, hW, hsame⟩ := X30.leave (v := some (.ref wLEAVE_GROUP)) (fun h => by rw [Bd.returns] at h; cases h)
                      refine ⟨_, _, k28 _ ?_, hrun, hended, _, _, rfl, ?_, ⟨_, rfl⟩, hW, hsame.mono (by decide) (by decide)⟩
                      · show Steps p.tables e below (s₁.setTop (mkF m 86 #[.val (.int p0)] [(.int (9 : Int32)), (.int p0)])) _
                        refine XS.icmpNo X0.here hx rfl (hb hby d1_86) rfl (teq (hc29 : p0 = (9 : Int32))).2 ?_
                        show Steps p.tables e below (s₁.setTop (mkF m 89 #[.val (.int p0)] [])) _
                        refine st30 _ ?_
                        show Steps p.tables e below (T30.setTop (mkF m 92 #[.val (.int p0)] [(.ref wLEAVE_GROUP)])) _
                        exact own_retA X30 hx Bd.returns rfl rfl (hb hby d1_92) hr
                      · show Q1 Z p0 wPRODUCE wFETCH wAPI_VERSIONS wHEARTBEAT wINIT_PRODUCER_ID wADD_PARTITIONS_TO_TXN wMETADATA wSYNC_GROUP wTXN_OFFSET_COMMIT wJOIN_GROUP wLIST_OFFSETS wOFFSET_COMMIT wOFFSET_FETCH wADD_OFFSETS_TO_TXN wFIND_COORDINATOR wLEAVE_GROUP wEND_TXN h0 n0 _ T30.heap _
                        rw [e30]
                        exact ⟨by rw [f1, if_neg hc2, if_neg hc5, if_neg hc8, if_neg hc11, if_neg hc14, if_neg hc17, if_neg hc20, if_neg hc23, if_neg hc26, if_pos hc29], N0, rfl⟩
                    · have k31 : ∀ t, Steps p.tables e below (s₁.setTop (mkF m 96 #[.val (.int p0)] [(.int (10 : Int32)), (.int p0)])) t → Steps p.tables e below (s₁.setTop (entryFrame m #[(.int p0)] 1)) t := fun t kt => k28 t (by
                        show Steps p.tables e below (s₁.setTop (mkF m 86 #[.val (.int p0)] [(.int (9 : Int32)), (.int p0)])) _
                        refine XS.icmpYes X0.here hx rfl (pc0 := 86) (pc' := 93) rfl (hb hby d1_86) rfl (feq (hc29 : ¬ (p0 = (9 : Int32)))).2 (by decide) (by decide) ?_
                        show Steps p.tables e below (s₁.setTop (mkF m 93 #[.val (.int p0)] [])) _
                        refine XS.iloadN X0.here hx rfl (hb hby d1_93) rfl ?_
                        show Steps p.tables e below (s₁.setTop (mkF m 94 #[.val (.int p0)] [(.int p0)])) _
                        refine XS.bipush X0.here hx rfl (hb hby d1_94) ?_
                        exact kt)
                      by_cases hc32 : p0 = (10 : Int32)
                      · obtain ⟨T33, X33, e33, st33⟩ := getS2 X0 hx hZ hown (host := "") (Or.inl (hw _ (List.mem_of_getElem? (i := 30) rfl))) Via.refl e0 SSYNC_GROUP (g := (mkF m 99 #[.val (.int p0)] [])) rfl (hb hby d1_99)
                        obtain ⟨fs, hr, hrun, hended, hW, hsame⟩ := X33.leave (v := some (.ref wSYNC_GROUP)) (fun h => by rw [Bd.returns] at h; cases h)
                        refine ⟨_, _, k31 _ ?_, hrun, hended, _, _, rfl, ?_, ⟨_, rfl⟩, hW, hsame.mono (by decide) (by decide)⟩
                        · show Steps p.tables e below (s₁.setTop (mkF m 96 #[.val (.int p0)] [(.int (10 : Int32)), (.int p0)])) _
                          refine XS.icmpNo X0.here hx rfl (hb hby d1_96) rfl (teq (hc32 : p0 = (10 : Int32))).2 ?_
                          show Steps p.tables e below (s₁.setTop (mkF m 99 #[.val (.int p0)] [])) _
                          refine st33 _ ?_
                          show Steps p.tables e below (T33.setTop (mkF m 102 #[.val (.int p0)] [(.ref wSYNC_GROUP)])) _
                          exact own_retA X33 hx Bd.returns rfl rfl (hb hby d1_102) hr
                        · show Q1 Z p0 wPRODUCE wFETCH wAPI_VERSIONS wHEARTBEAT wINIT_PRODUCER_ID wADD_PARTITIONS_TO_TXN wMETADATA wSYNC_GROUP wTXN_OFFSET_COMMIT wJOIN_GROUP wLIST_OFFSETS wOFFSET_COMMIT wOFFSET_FETCH wADD_OFFSETS_TO_TXN wFIND_COORDINATOR wLEAVE_GROUP wEND_TXN h0 n0 _ T33.heap _
                          rw [e33]
                          exact ⟨by rw [f1, if_neg hc2, if_neg hc5, if_neg hc8, if_neg hc11, if_neg hc14, if_neg hc17, if_neg hc20, if_neg hc23, if_neg hc26, if_neg hc29, if_pos hc32], N0, rfl⟩
                      · have k34 : ∀ t, Steps p.tables e below (s₁.setTop (mkF m 106 #[.val (.int p0)] [(.int (11 : Int32)), (.int p0)])) t → Steps p.tables e below (s₁.setTop (entryFrame m #[(.int p0)] 1)) t := fun t kt => k31 t (by
                          show Steps p.tables e below (s₁.setTop (mkF m 96 #[.val (.int p0)] [(.int (10 : Int32)), (.int p0)])) _
                          refine XS.icmpYes X0.here hx rfl (pc0 := 96) (pc' := 103) rfl (hb hby d1_96) rfl (feq (hc32 : ¬ (p0 = (10 : Int32)))).2 (by decide) (by decide) ?_
                          show Steps p.tables e below (s₁.setTop (mkF m 103 #[.val (.int p0)] [])) _
                          refine XS.iloadN X0.here hx rfl (hb hby d1_103) rfl ?_
                          show Steps p.tables e below (s₁.setTop (mkF m 104 #[.val (.int p0)] [(.int p0)])) _
                          refine XS.bipush X0.here hx rfl (hb hby d1_104) ?_
                          exact kt)
                        by_cases hc35 : p0 = (11 : Int32)
                        · obtain ⟨T36, X36, e36, st36⟩ := getS2 X0 hx hZ hown (host := "") (Or.inl (hw _ (List.mem_of_getElem? (i := 20) rfl))) Via.refl e0 SAPI_VERSIONS (g := (mkF m 109 #[.val (.int p0)] [])) rfl (hb hby d1_109)
                          obtain ⟨fs, hr, hrun, hended, hW, hsame⟩ := X36.leave (v := some (.ref wAPI_VERSIONS)) (fun h => by rw [Bd.returns] at h; cases h)
                          refine ⟨_, _, k34 _ ?_, hrun, hended, _, _, rfl, ?_, ⟨_, rfl⟩, hW, hsame.mono (by decide) (by decide)⟩
                          · show Steps p.tables e below (s₁.setTop (mkF m 106 #[.val (.int p0)] [(.int (11 : Int32)), (.int p0)])) _
                            refine XS.icmpNo X0.here hx rfl (hb hby d1_106) rfl (teq (hc35 : p0 = (11 : Int32))).2 ?_
                            show Steps p.tables e below (s₁.setTop (mkF m 109 #[.val (.int p0)] [])) _
                            refine st36 _ ?_
                            show Steps p.tables e below (T36.setTop (mkF m 112 #[.val (.int p0)] [(.ref wAPI_VERSIONS)])) _
                            exact own_retA X36 hx Bd.returns rfl rfl (hb hby d1_112) hr
                          · show Q1 Z p0 wPRODUCE wFETCH wAPI_VERSIONS wHEARTBEAT wINIT_PRODUCER_ID wADD_PARTITIONS_TO_TXN wMETADATA wSYNC_GROUP wTXN_OFFSET_COMMIT wJOIN_GROUP wLIST_OFFSETS wOFFSET_COMMIT wOFFSET_FETCH wADD_OFFSETS_TO_TXN wFIND_COORDINATOR wLEAVE_GROUP wEND_TXN h0 n0 _ T36.heap _
                            rw [e36]
                            exact ⟨by rw [f1, if_neg hc2, if_neg hc5, if_neg hc8, if_neg hc11, if_neg hc14, if_neg hc17, if_neg hc20, if_neg hc23, if_neg hc26, if_neg hc29, if_neg hc32, if_pos hc35], N0, rfl⟩
                        · have k37 : ∀ t, Steps p.tables e below (s₁.setTop (mkF m 116 #[.val (.int p0)] [(.int (12 : Int32)), (.int p0)])) t → Steps p.tables e below (s₁.setTop (entryFrame m #[(.int p0)] 1)) t := fun t kt => k34 t (by
                            show Steps p.tables e below (s₁.setTop (mkF m 106 #[.val (.int p0)] [(.int (11 : Int32)), (.int p0)])) _
                            refine XS.icmpYes X0.here hx rfl (pc0 := 106) (pc' := 113) rfl (hb hby d1_106) rfl (feq (hc35 : ¬ (p0 = (11 : Int32)))).2 (by decide) (by decide) ?_
                            show Steps p.tables e below (s₁.setTop (mkF m 113 #[.val (.int p0)] [])) _
                            refine XS.iloadN X0.here hx rfl (hb hby d1_113) rfl ?_
                            show Steps p.tables e below (s₁.setTop (mkF m 114 #[.val (.int p0)] [(.int p0)])) _
                            refine XS.bipush X0.here hx rfl (hb hby d1_114) ?_
                            exact kt)
                          by_cases hc38 : p0 = (12 : Int32)
                          · obtain ⟨T39, X39, e39, st39⟩ := getS2 X0 hx hZ hown (host := "") (Or.inl (hw _ (List.mem_of_getElem? (i := 24) rfl))) Via.refl e0 SINIT_PRODUCER_ID (g := (mkF m 119 #[.val (.int p0)] [])) rfl (hb hby d1_119)
                            obtain ⟨fs, hr, hrun, hended, hW, hsame⟩ := X39.leave (v := some (.ref wINIT_PRODUCER_ID)) (fun h => by rw [Bd.returns] at h; cases h)
                            refine ⟨_, _, k37 _ ?_, hrun, hended, _, _, rfl, ?_, ⟨_, rfl⟩, hW, hsame.mono (by decide) (by decide)⟩
                            · show Steps p.tables e below (s₁.setTop (mkF m 116 #[.val (.int p0)] [(.int (12 : Int32)), (.int p0)])) _
                              refine XS.icmpNo X0.here hx rfl (hb hby d1_116) rfl (teq (hc38 : p0 = (12 : Int32))).2 ?_
                              show Steps p.tables e below (s₁.setTop (mkF m 119 #[.val (.int p0)] [])) _
                              refine st39 _ ?_
                              show Steps p.tables e below (T39.setTop (mkF m 122 #[.val (.int p0)] [(.ref wINIT_PRODUCER_ID)])) _
                              exact own_retA X39 hx Bd.returns rfl rfl (hb hby d1_122) hr
                            · show Q1 Z p0 wPRODUCE wFETCH wAPI_VERSIONS wHEARTBEAT wINIT_PRODUCER_ID wADD_PARTITIONS_TO_TXN wMETADATA wSYNC_GROUP wTXN_OFFSET_COMMIT wJOIN_GROUP wLIST_OFFSETS wOFFSET_COMMIT wOFFSET_FETCH wADD_OFFSETS_TO_TXN wFIND_COORDINATOR wLEAVE_GROUP wEND_TXN h0 n0 _ T39.heap _
                              rw [e39]
                              exact ⟨by rw [f1, if_neg hc2, if_neg hc5, if_neg hc8, if_neg hc11, if_neg hc14, if_neg hc17, if_neg hc20, if_neg hc23, if_neg hc26, if_neg hc29, if_neg hc32, if_neg hc35, if_pos hc38], N0, rfl⟩
                          · have k40 : ∀ t, Steps p.tables e below (s₁.setTop (mkF m 126 #[.val (.int p0)] [(.int (13 : Int32)), (.int p0)])) t → Steps p.tables e below (s₁.setTop (entryFrame m #[(.int p0)] 1)) t := fun t kt => k37 t (by
                              show Steps p.tables e below (s₁.setTop (mkF m 116 #[.val (.int p0)] [(.int (12 : Int32)), (.int p0)])) _
                              refine XS.icmpYes X0.here hx rfl (pc0 := 116) (pc' := 123) rfl (hb hby d1_116) rfl (feq (hc38 : ¬ (p0 = (12 : Int32)))).2 (by decide) (by decide) ?_
                              show Steps p.tables e below (s₁.setTop (mkF m 123 #[.val (.int p0)] [])) _
                              refine XS.iloadN X0.here hx rfl (hb hby d1_123) rfl ?_
                              show Steps p.tables e below (s₁.setTop (mkF m 124 #[.val (.int p0)] [(.int p0)])) _
                              refine XS.bipush X0.here hx rfl (hb hby d1_124) ?_
                              exact kt)
                            by_cases hc41 : p0 = (13 : Int32)
                            · obtain ⟨T42, X42, e42, st42⟩ := getS2 X0 hx hZ hown (host := "") (Or.inl (hw _ (List.mem_of_getElem? (i := 26) rfl))) Via.refl e0 SADD_PARTITIONS_TO_TXN (g := (mkF m 129 #[.val (.int p0)] [])) rfl (hb hby d1_129)
                              obtain ⟨fs, hr, hrun, hended, hW, hsame⟩ := X42.leave (v := some (.ref wADD_PARTITIONS_TO_TXN)) (fun h => by rw [Bd.returns] at h; cases h)
                              refine ⟨_, _, k40 _ ?_, hrun, hended, _, _, rfl, ?_, ⟨_, rfl⟩, hW, hsame.mono (by decide) (by decide)⟩
                              · show Steps p.tables e below (s₁.setTop (mkF m 126 #[.val (.int p0)] [(.int (13 : Int32)), (.int p0)])) _
                                refine XS.icmpNo X0.here hx rfl (hb hby d1_126) rfl (teq (hc41 : p0 = (13 : Int32))).2 ?_
                                show Steps p.tables e below (s₁.setTop (mkF m 129 #[.val (.int p0)] [])) _
                                refine st42 _ ?_
                                show Steps p.tables e below (T42.setTop (mkF m 132 #[.val (.int p0)] [(.ref wADD_PARTITIONS_TO_TXN)])) _
                                exact own_retA X42 hx Bd.returns rfl rfl (hb hby d1_132) hr
                              · show Q1 Z p0 wPRODUCE wFETCH wAPI_VERSIONS wHEARTBEAT wINIT_PRODUCER_ID wADD_PARTITIONS_TO_TXN wMETADATA wSYNC_GROUP wTXN_OFFSET_COMMIT wJOIN_GROUP wLIST_OFFSETS wOFFSET_COMMIT wOFFSET_FETCH wADD_OFFSETS_TO_TXN wFIND_COORDINATOR wLEAVE_GROUP wEND_TXN h0 n0 _ T42.heap _
                                rw [e42]
                                exact ⟨by rw [f1, if_neg hc2, if_neg hc5, if_neg hc8, if_neg hc11, if_neg hc14, if_neg hc17, if_neg hc20, if_neg hc23, if_neg hc26, if_neg hc29, if_neg hc32, if_neg hc35, if_neg hc38, if_pos hc41], N0, rfl⟩
                            · have k43 : ∀ t, Steps p.tables e below (s₁.setTop (mkF m 136 #[.val (.int p0)] [(.int (14 : Int32)), (.int p0)])) t → Steps p.tables e below (s₁.setTop (entryFrame m #[(.int p0)] 1)) t := fun t kt => k40 t (by
                                show Steps p.tables e below (s₁.setTop (mkF m 126 #[.val (.int p0)] [(.int (13 : Int32)), (.int p0)])) _
                                refine XS.icmpYes X0.here hx rfl (pc0 := 126) (pc' := 133) rfl (hb hby d1_126) rfl (feq (hc41 : ¬ (p0 = (13 : Int32)))).2 (by decide) (by decide) ?_
                                show Steps p.tables e below (s₁.setTop (mkF m 133 #[.val (.int p0)] [])) _
                                refine XS.iloadN X0.here hx rfl (hb hby d1_133) rfl ?_
                                show Steps p.tables e below (s₁.setTop (mkF m 134 #[.val (.int p0)] [(.int p0)])) _
                                refine XS.bipush X0.here hx rfl (hb hby d1_134) ?_
                                exact kt)
                              by_cases hc44 : p0 = (14 : Int32)
                              · obtain ⟨T45, X45, e45, st45⟩ := getS2 X0 hx hZ hown (host := "") (Or.inl (hw _ (List.mem_of_getElem? (i := 42) rfl))) Via.refl e0 SADD_OFFSETS_TO_TXN (g := (mkF m 139 #[.val (.int p0)] [])) rfl (hb hby d1_139)
                                obtain ⟨fs, hr, hrun, hended, hW, hsame⟩ := X45.leave (v := some (.ref wADD_OFFSETS_TO_TXN)) (fun h => by rw [Bd.returns] at h; cases h)
                                refine ⟨_, _, k43 _ ?_, hrun, hended, _, _, rfl, ?_, ⟨_, rfl⟩, hW, hsame.mono (by decide) (by decide)⟩
                                · show Steps p.tables e below (s₁.setTop (mkF m 136 #[.val (.int p0)] [(.int (14 : Int32)), (.int p0)])) _
                                  refine XS.icmpNo X0.here hx rfl (hb hby d1_136) rfl (teq (hc44 : p0 = (14 : Int32))).2 ?_
                                  show Steps p.tables e below (s₁.setTop (mkF m 139 #[.val (.int p0)] [])) _
                                  refine st45 _ ?_
                                  show Steps p.tables e below (T45.setTop (mkF m 142 #[.val (.int p0)] [(.ref wADD_OFFSETS_TO_TXN)])) _
                                  exact own_retA X45 hx Bd.returns rfl rfl (hb hby d1_142) hr
                                · show Q1 Z p0 wPRODUCE wFETCH wAPI_VERSIONS wHEARTBEAT wINIT_PRODUCER_ID wADD_PARTITIONS_TO_TXN wMETADATA wSYNC_GROUP wTXN_OFFSET_COMMIT wJOIN_GROUP wLIST_OFFSETS wOFFSET_COMMIT wOFFSET_FETCH wADD_OFFSETS_TO_TXN wFIND_COORDINATOR wLEAVE_GROUP wEND_TXN h0 n0 _ T45.heap _
                                  rw [e45]
                                  exact ⟨by rw [f1, if_neg hc2, if_neg hc5, if_neg hc8, if_neg hc11, if_neg hc14, if_neg hc17, if_neg hc20, if_neg hc23, if_neg hc26, if_neg hc29, if_neg hc32, if_neg hc35, if_neg hc38, if_neg hc41, if_pos hc44], N0, rfl⟩
                              · have k46 : ∀ t, Steps p.tables e below (s₁.setTop (mkF m 146 #[.val (.int p0)] [(.int (15 : Int32)), (.int p0)])) t → Steps p.tables e below (s₁.setTop (entryFrame m #[(.int p0)] 1)) t := fun t kt => k43 t (by
                                  show Steps p.tables e below (s₁.setTop (mkF m 136 #[.val (.int p0)] [(.int (14 : Int32)), (.int p0)])) _
                                  refine XS.icmpYes X0.here hx rfl (pc0 := 136) (pc' := 143) rfl (hb hby d1_136) rfl (feq (hc44 : ¬ (p0 = (14 : Int32)))).2 (by decide) (by decide) ?_
                                  show Steps p.tables e below (s₁.setTop (mkF m 143 #[.val (.int p0)] [])) _
                                  refine XS.iloadN X0.here hx rfl (hb hby d1_143) rfl ?_
                                  show Steps p.tables e below (s₁.setTop (mkF m 144 #[.val (.int p0)] [(.int p0)])) _
                                  refine XS.bipush X0.here hx rfl (hb hby d1_144) ?_
                                  exact kt)
                                by_cases hc47 : p0 = (15 : Int32)
                                · obtain ⟨T48, X48, e48, st48⟩ := getS2 X0 hx hZ hown (host := "") (Or.inl (hw _ (List.mem_of_getElem? (i := 48) rfl))) Via.refl e0 SEND_TXN (g := (mkF m 149 #[.val (.int p0)] [])) rfl (hb hby d1_149)
                                  obtain ⟨fs, hr, hrun, hended, hW, hsame⟩ := X48.leave (v := some (.ref wEND_TXN)) (fun h => by rw [Bd.returns] at h; cases h)
                                  refine ⟨_, _, k46 _ ?_, hrun, hended, _, _, rfl, ?_, ⟨_, rfl⟩, hW, hsame.mono (by decide) (by decide)⟩
                                  · show Steps p.tables e below (s₁.setTop (mkF m 146 #[.val (.int p0)] [(.int (15 : Int32)), (.int p0)])) _
                                    refine XS.icmpNo X0.here hx rfl (hb hby d1_146) rfl (teq (hc47 : p0 = (15 : Int32))).2 ?_
                                    show Steps p.tables e below (s₁.setTop (mkF m 149 #[.val (.int p0)] [])) _
                                    refine st48 _ ?_
                                    show Steps p.tables e below (T48.setTop (mkF m 152 #[.val (.int p0)] [(.ref wEND_TXN)])) _
                                    exact own_retA X48 hx Bd.returns rfl rfl (hb hby d1_152) hr
                                  · show Q1 Z p0 wPRODUCE wFETCH wAPI_VERSIONS wHEARTBEAT wINIT_PRODUCER_ID wADD_PARTITIONS_TO_TXN wMETADATA wSYNC_GROUP wTXN_OFFSET_COMMIT wJOIN_GROUP wLIST_OFFSETS wOFFSET_COMMIT wOFFSET_FETCH wADD_OFFSETS_TO_TXN wFIND_COORDINATOR wLEAVE_GROUP wEND_TXN h0 n0 _ T48.heap _
                                    rw [e48]
                                    exact ⟨by rw [f1, if_neg hc2, if_neg hc5, if_neg hc8, if_neg hc11, if_neg hc14, if_neg hc17, if_neg hc20, if_neg hc23, if_neg hc26, if_neg hc29, if_neg hc32, if_neg hc35, if_neg hc38, if_neg hc41, if_neg hc44, if_pos hc47], N0, rfl⟩
                                · obtain ⟨T49, X49, e49, st49⟩ := getS2 X0 hx hZ hown (host := "") (Or.inl (hw _ (List.mem_of_getElem? (i := 32) rfl))) Via.refl e0 STXN_OFFSET_COMMIT (g := (mkF m 153 #[.val (.int p0)] [])) rfl (hb hby d1_153)
                                  obtain ⟨fs, hr, hrun, hended, hW, hsame⟩ := X49.leave (v := some (.ref wTXN_OFFSET_COMMIT)) (fun h => by rw [Bd.returns] at h; cases h)
                                  refine ⟨_, _, k46 _ ?_, hrun, hended, _, _, rfl, ?_, ⟨_, rfl⟩, hW, hsame.mono (by decide) (by decide)⟩
                                  · show Steps p.tables e below (s₁.setTop (mkF m 146 #[.val (.int p0)] [(.int (15 : Int32)), (.int p0)])) _
                                    refine XS.icmpYes X0.here hx rfl (pc0 := 146) (pc' := 153) rfl (hb hby d1_146) rfl (feq (hc47 : ¬ (p0 = (15 : Int32)))).2 (by decide) (by decide) ?_
                                    show Steps p.tables e below (s₁.setTop (mkF m 153 #[.val (.int p0)] [])) _
                                    refine st49 _ ?_
                                    show Steps p.tables e below (T49.setTop (mkF m 156 #[.val (.int p0)] [(.ref wTXN_OFFSET_COMMIT)])) _
                                    exact own_retA X49 hx Bd.returns rfl rfl (hb hby d1_156) hr
                                  · show Q1 Z p0 wPRODUCE wFETCH wAPI_VERSIONS wHEARTBEAT wINIT_PRODUCER_ID wADD_PARTITIONS_TO_TXN wMETADATA wSYNC_GROUP wTXN_OFFSET_COMMIT wJOIN_GROUP wLIST_OFFSETS wOFFSET_COMMIT wOFFSET_FETCH wADD_OFFSETS_TO_TXN wFIND_COORDINATOR wLEAVE_GROUP wEND_TXN h0 n0 _ T49.heap _
                                    rw [e49]
                                    exact ⟨by rw [f1, if_neg hc2, if_neg hc5, if_neg hc8, if_neg hc11, if_neg hc14, if_neg hc17, if_neg hc20, if_neg hc23, if_neg hc26, if_neg hc29, if_neg hc32, if_neg hc35, if_neg hc38, if_neg hc41, if_neg hc44, if_neg hc47], N0, rfl⟩
theorem d2_0 : decode method_4_code 0 = .ok (.iload_n 0, 1) := by decide +kernel
theorem d2_1 : decode method_4_code 1 = .ok (.ifCond .ne 6, 3) := by decide +kernel
theorem d2_4 : decode method_4_code 4 = .ok (.bipush 9, 2) := by decide +kernel
theorem d2_6 : decode method_4_code 6 = .ok (.ireturn, 1) := by decide +kernel
theorem d2_7 : decode method_4_code 7 = .ok (.iload_n 0, 1) := by decide +kernel
theorem d2_8 : decode method_4_code 8 = .ok (.iconst 1, 1) := by decide +kernel
theorem d2_9 : decode method_4_code 9 = .ok (.if_icmp .ne 6, 3) := by decide +kernel
theorem d2_12 : decode method_4_code 12 = .ok (.bipush 12, 2) := by decide +kernel
theorem d2_14 : decode method_4_code 14 = .ok (.ireturn, 1) := by decide +kernel
theorem d2_15 : decode method_4_code 15 = .ok (.iload_n 0, 1) := by decide +kernel
theorem d2_16 : decode method_4_code 16 = .ok (.iconst 2, 1) := by decide +kernel
theorem d2_17 : decode method_4_code 17 = .ok (.if_icmp .ne 6, 3) := by decide +kernel
theorem d2_20 : decode method_4_code 20 = .ok (.bipush 6, 2) := by decide +kernel
theorem d2_22 : decode method_4_code 22 = .ok (.ireturn, 1) := by decide +kernel
theorem d2_23 : decode method_4_code 23 = .ok (.iload_n 0, 1) := by decide +kernel
theorem d2_24 : decode method_4_code 24 = .ok (.iconst 3, 1) := by decide +kernel
theorem d2_25 : decode method_4_code 25 = .ok (.if_icmp .ne 6, 3) := by decide +kernel
theorem d2_28 : decode method_4_code 28 = .ok (.bipush 9, 2) := by decide +kernel
theorem d2_30 : decode method_4_code 30 = .ok (.ireturn, 1) := by decide +kernel
theorem d2_31 : decode method_4_code 31 = .ok (.iload_n 0, 1) := by decide +kernel
theorem d2_32 : decode method_4_code 32 = .ok (.iconst 4, 1) := by decide +kernel
theorem d2_33 : decode method_4_code 33 = .ok (.if_icmp .ne 6, 3) := by decide +kernel
theorem d2_36 : decode method_4_code 36 = .ok (.bipush 8, 2) := by decide +kernel
theorem d2_38 : decode method_4_code 38 = .ok (.ireturn, 1) := by decide +kernel
theorem d2_39 : decode method_4_code 39 = .ok (.iload_n 0, 1) := by decide +kernel
theorem d2_40 : decode method_4_code 40 = .ok (.iconst 5, 1) := by decide +kernel
theorem d2_41 : decode method_4_code 41 = .ok (.if_icmp .ne 6, 3) := by decide +kernel
theorem d2_44 : decode method_4_code 44 = .ok (.bipush 6, 2) := by decide +kernel
theorem d2_46 : decode method_4_code 46 = .ok (.ireturn, 1) := by decide +kernel
theorem d2_47 : decode method_4_code 47 = .ok (.iload_n 0, 1) := by decide +kernel
theorem d2_48 : decode method_4_code 48 = .ok (.bipush 6, 2) := by decide +kernel
theorem d2_50 : decode method_4_code 50 = .ok (.if_icmp .ne 5, 3) := by decide +kernel
theorem d2_53 : decode method_4_code 53 = .ok (.iconst 3, 1) := by decide +kernel
theorem d2_54 : decode method_4_code 54 = .ok (.ireturn, 1) := by decide +kernel
theorem d2_55 : decode method_4_code 55 = .ok (.iload_n 0, 1) := by decide +kernel
theorem d2_56 : decode method_4_code 56 = .ok (.bipush 7, 2) := by decide +kernel
theorem d2_58 : decode method_4_code 58 = .ok (.if_icmp .ne 6, 3) := by decide +kernel
theorem d2_61 : decode method_4_code 61 = .ok (.bipush 6, 2) := by decide +kernel
theorem d2_63 : decode method_4_code 63 = .ok (.ireturn, 1) := by decide +kernel
theorem d2_64 : decode method_4_code 64 = .ok (.iload_n 0, 1) := by decide +kernel
theorem d2_65 : decode method_4_code 65 = .ok (.bipush 8, 2) := by decide +kernel
theorem d2_67 : decode method_4_code 67 = .ok (.if_icmp .ne 5, 3) := by decide +kernel
theorem d2_70 : decode method_4_code 70 = .ok (.iconst 4, 1) := by decide +kernel
theorem d2_71 : decode method_4_code 71 = .ok (.ireturn, 1) := by decide +kernel
theorem d2_72 : decode method_4_code 72 = .ok (.iload_n 0, 1) := by decide +kernel
theorem d2_73 : decode method_4_code 73 = .ok (.bipush 9, 2) := by decide +kernel
theorem d2_75 : decode method_4_code 75 = .ok (.if_icmp .ne 5, 3) := by decide +kernel
theorem d2_78 : decode method_4_code 78 = .ok (.iconst 4, 1) := by decide +kernel
theorem d2_79 : decode method_4_code 79 = .ok (.ireturn, 1) := by decide +kernel
theorem d2_80 : decode method_4_code 80 = .ok (.iload_n 0, 1) := by decide +kernel
theorem d2_81 : decode method_4_code 81 = .ok (.bipush 10, 2) := by decide +kernel
theorem d2_83 : decode method_4_code 83 = .ok (.if_icmp .ne 5, 3) := by decide +kernel
theorem d2_86 : decode method_4_code 86 = .ok (.iconst 4, 1) := by decide +kernel
theorem d2_87 : decode method_4_code 87 = .ok (.ireturn, 1) := by decide +kernel
theorem d2_88 : decode method_4_code 88 = .ok (.iload_n 0, 1) := by decide +kernel
theorem d2_89 : decode method_4_code 89 = .ok (.bipush 11, 2) := by decide +kernel
theorem d2_91 : decode method_4_code 91 = .ok (.if_icmp .ne 5, 3) := by decide +kernel
theorem d2_94 : decode method_4_code 94 = .ok (.iconst 3, 1) := by decide +kernel
theorem d2_95 : decode method_4_code 95 = .ok (.ireturn, 1) := by decide +kernel
theorem d2_96 : decode method_4_code 96 = .ok (.iload_n 0, 1) := by decide +kernel
theorem d2_97 : decode method_4_code 97 = .ok (.bipush 12, 2) := by decide +kernel
theorem d2_99 : decode method_4_code 99 = .ok (.if_icmp .ne 5, 3) := by decide +kernel
theorem d2_102 : decode method_4_code 102 = .ok (.iconst 2, 1) := by decide +kernel
theorem d2_103 : decode method_4_code 103 = .ok (.ireturn, 1) := by decide +kernel
theorem d2_104 : decode method_4_code 104 = .ok (.iload_n 0, 1) := by decide +kernel
theorem d2_105 : decode method_4_code 105 = .ok (.bipush 13, 2) := by decide +kernel
theorem d2_107 : decode method_4_code 107 = .ok (.if_icmp .ne 5, 3) := by decide +kernel
theorem d2_110 : decode method_4_code 110 = .ok (.iconst 3, 1) := by decide +kernel
theorem d2_111 : decode method_4_code 111 = .ok (.ireturn, 1) := by decide +kernel
theorem d2_112 : decode method_4_code 112 = .ok (.iload_n 0, 1) := by decide +kernel
theorem d2_113 : decode method_4_code 113 = .ok (.bipush 14, 2) := by decide +kernel
theorem d2_115 : decode method_4_code 115 = .ok (.if_icmp .ne 5, 3) := by decide +kernel
theorem d2_118 : decode method_4_code 118 = .ok (.iconst 3, 1) := by decide +kernel
theorem d2_119 : decode method_4_code 119 = .ok (.ireturn, 1) := by decide +kernel
theorem d2_120 : decode method_4_code 120 = .ok (.iload_n 0, 1) := by decide +kernel
theorem d2_121 : decode method_4_code 121 = .ok (.bipush 15, 2) := by decide +kernel
theorem d2_123 : decode method_4_code 123 = .ok (.if_icmp .ne 5, 3) := by decide +kernel
theorem d2_126 : decode method_4_code 126 = .ok (.iconst 3, 1) := by decide +kernel
theorem d2_127 : decode method_4_code 127 = .ok (.ireturn, 1) := by decide +kernel
theorem d2_128 : decode method_4_code 128 = .ok (.iconst 3, 1) := by decide +kernel
theorem d2_129 : decode method_4_code 129 = .ok (.ireturn, 1) := by decide +kernel
def f2 (p0 : Int32) : Int32 := if p0 = (0 : Int32) then (9 : Int32) else if p0 = (1 : Int32) then (12 : Int32) else if p0 = (2 : Int32) then (6 : Int32) else if p0 = (3 : Int32) then (9 : Int32) else if p0 = (4 : Int32) then (8 : Int32) else if p0 = (5 : Int32) then (6 : Int32) else if p0 = (6 : Int32) then (3 : Int32) else if p0 = (7 : Int32) then (6 : Int32) else if p0 = (8 : Int32) then (4 : Int32) else if p0 = (9 : Int32) then (4 : Int32) else if p0 = (10 : Int32) then (4 : Int32) else if p0 = (11 : Int32) then (3 : Int32) else if p0 = (12 : Int32) then (2 : Int32) else if p0 = (13 : Int32) then (3 : Int32) else if p0 = (14 : Int32) then (3 : Int32) else if p0 = (15 : Int32) then (3 : Int32) else (3 : Int32)
theorem ef_2 (m : MethodId) (p0 : Int32) : entryFrame m #[(.int p0)] 1 = mkF m 0 #[.val (.int p0)] [] := by first | (simp [entryFrame, mkF, argsToLocals, Value.category]; done) | rfl
def Q2 (Z : State) (p0 : Int32) (h0 : Heap) (n0 : Nat) (v : Option Value) (h : Heap) (L : List Loc) : Prop := v = some (.int (f2 p0)) ∧ Fr n0 L ∧ h = h0
set_option maxRecDepth 65536 in
set_option maxHeartbeats 40000000 in
theorem rm2 (l : Launch) (Z : State) (a0 : Array Value) (hw : ∀ d ∈ tables_1, d.before a0 Z = true) (ws : List Jvm.Cond) (p0 : Int32) (h0 : Heap) (n0 : Nat) (Z0 : n0 ≤ h0.size) :
    MetFree l (⟨"com/example/idem_log/idemlog/protocol/ApiIsFlexiblePinLaw", "first", "(I)I"⟩ : MethodName) (head1 (Jvm.Cond.code (⟨"com/example/idem_log/idemlog/protocol/ApiIsFlexiblePinLaw", "first", "(I)I"⟩ : MethodName) method_4_code 1 (some .int) :: ws) ({ frames := 0, cells := 0, slots := 0, locals := 0 } : Room)) (fun a U => a = #[(.int p0)] ∧ Z.Warmed39 U.vm ∧ U.heap = h0) (fun _ _ _ _ _ => True) (fun _ U o U' => ∃ v L, o = .returned v ∧ Q2 Z p0 h0 n0 v U'.heap L ∧ FrameEnd U o U' L ({ frames := 0, cells := 0, slots := 0, locals := 0 } : Room).cells ({ frames := 0, cells := 0, slots := 0, locals := 0 } : Room).slots) := by
  refine MetFree.of_bodySF (plainFor_of_name pn_0) hisR ?_
  intro p e s m args below meth c s₁ Bd hml0 hP hK
  obtain ⟨rfl, hZ, hh⟩ := hP
  have hx := Bd.exec
  have hby := Bd.bytes
  have hml : c.maxLocals = 1 := hml0
  have hown : s.vm.findClass "com/example/idem_log/idemlog/protocol/ApiIsFlexiblePinLaw" = some m.cls := findClass_of_methodNamed Bd.named
  have X0 : Stand p l e ({ frames := 0, cells := 0, slots := 0, locals := 0 } : Room) s m #[(.int p0)] below meth c s₁ [] 0 0 := Stand.of_body Bd
  have e0 : s₁.heap = h0 := by rw [← hh, Bd.state]; rfl
  have N0 := Fr.nil n0
  have pre0 : ∀ t, Steps p.tables e below (s₁.setTop (mkF m 0 #[.val (.int p0)] [])) t → Steps p.tables e below (s₁.setTop (entryFrame m #[(.int p0)] 1)) t := fun t k => castTop (ef_2 m p0) k
  have k50 : ∀ t, Steps p.tables e below (s₁.setTop (mkF m 1 #[.val (.int p0)] [(.int p0)])) t → Steps p.tables e below (s₁.setTop (entryFrame m #[(.int p0)] 1)) t := fun t kt => pre0 t (by
    show Steps p.tables e below (s₁.setTop (mkF m 0 #[.val (.int p0)] [])) _
    refine XS.iloadN X0.here hx rfl (hb hby d2_0) rfl ?_
    exact kt)
  by_cases hc51 : p0 = (0 : Int32)
  · obtain ⟨fs, hr, hrun, hended, hW, hsame⟩ := X0.leave (v := some (.int (9 : Int32))) (fun h => by rw [Bd.returns] at h; cases h)
    refine ⟨_, _, k50 _ ?_, hrun, hended, _, _, rfl, ?_, ⟨_, rfl⟩, hW, hsame.mono (by decide) (by decide)⟩
    · show Steps p.tables e below (s₁.setTop (mkF m 1 #[.val (.int p0)] [(.int p0)])) _
      refine XS.ifNo X0.here hx rfl (hb hby d2_1) rfl ((if0 _ _).trans (teq (hc51 : p0 = (0 : Int32))).2) ?_
      show Steps p.tables e below (s₁.setTop (mkF m 4 #[.val (.int p0)] [])) _
      refine XS.bipush X0.here hx rfl (hb hby d2_4) ?_
      show Steps p.tables e below (s₁.setTop (mkF m 6 #[.val (.int p0)] [(.int (9 : Int32))])) _
      exact own_retI X0 hx Bd.returns (hb hby d2_6) hr
    · show Q2 Z p0 h0 n0 _ s₁.heap _
      rw [e0]
      exact ⟨by rw [f2, if_pos hc51], N0, rfl⟩
  · have k52 : ∀ t, Steps p.tables e below (s₁.setTop (mkF m 9 #[.val (.int p0)] [(.int (1 : Int32)), (.int p0)])) t → Steps p.tables e below (s₁.setTop (entryFrame m #[(.int p0)] 1)) t := fun t kt => k50 t (by
      show Steps p.tables e below (s₁.setTop (mkF m 1 #[.val (.int p0)] [(.int p0)])) _
      refine XS.ifYes X0.here hx rfl (pc0 := 1) (pc' := 7) rfl (hb hby d2_1) rfl ((if0 _ _).trans (feq (hc51 : ¬ (p0 = (0 : Int32)))).2) (by decide) (by decide) ?_
      show Steps p.tables e below (s₁.setTop (mkF m 7 #[.val (.int p0)] [])) _
      refine XS.iloadN X0.here hx rfl (hb hby d2_7) rfl ?_
      show Steps p.tables e below (s₁.setTop (mkF m 8 #[.val (.int p0)] [(.int p0)])) _
      refine XS.iconst X0.here hx rfl (hb hby d2_8) ?_
      exact kt)
    by_cases hc53 : p0 = (1 : Int32)
    · obtain ⟨fs, hr, hrun, hended, hW, hsame⟩ := X0.leave (v := some (.int (12 : Int32))) (fun h => by rw [Bd.returns] at h; cases h)
      refine ⟨_, _, k52 _ ?_, hrun, hended, _, _, rfl, ?_, ⟨_, rfl⟩, hW, hsame.mono (by decide) (by decide)⟩
      · show Steps p.tables e below (s₁.setTop (mkF m 9 #[.val (.int p0)] [(.int (1 : Int32)), (.int p0)])) _
        refine XS.icmpNo X0.here hx rfl (hb hby d2_9) rfl (teq (hc53 : p0 = (1 : Int32))).2 ?_
        show Steps p.tables e below (s₁.setTop (mkF m 12 #[.val (.int p0)] [])) _
        refine XS.bipush X0.here hx rfl (hb hby d2_12) ?_
        show Steps p.tables e below (s₁.setTop (mkF m 14 #[.val (.int p0)] [(.int (12 : Int32))])) _
        exact own_retI X0 hx Bd.returns (hb hby d2_14) hr
      · show Q2 Z p0 h0 n0 _ s₁.heap _
        rw [e0]
        exact ⟨by rw [f2, if_neg hc51, if_pos hc53], N0, rfl⟩
    · have k54 : ∀ t, Steps p.tables e below (s₁.setTop (mkF m 17 #[.val (.int p0)] [(.int (2 : Int32)), (.int p0)])) t → Steps p.tables e below (s₁.setTop (entryFrame m #[(.int p0)] 1)) t := fun t kt => k52 t (by
        show Steps p.tables e below (s₁.setTop (mkF m 9 #[.val (.int p0)] [(.int (1 : Int32)), (.int p0)])) _
        refine XS.icmpYes X0.here hx rfl (pc0 := 9) (pc' := 15) rfl (hb hby d2_9) rfl (feq (hc53 : ¬ (p0 = (1 : Int32)))).2 (by decide) (by decide) ?_
        show Steps p.tables e below (s₁.setTop (mkF m 15 #[.val (.int p0)] [])) _
        refine XS.iloadN X0.here hx rfl (hb hby d2_15) rfl ?_
        show Steps p.tables e below (s₁.setTop (mkF m 16 #[.val (.int p0)] [(.int p0)])) _
        refine XS.iconst X0.here hx rfl (hb hby d2_16) ?_
        exact kt)
      by_cases hc55 : p0 = (2 : Int32)
      · obtain ⟨fs, hr, hrun, hended, hW, hsame⟩ := X0.leave (v := some (.int (6 : Int32))) (fun h => by rw [Bd.returns] at h; cases h)
        refine ⟨_, _, k54 _ ?_, hrun, hended, _, _, rfl, ?_, ⟨_, rfl⟩, hW, hsame.mono (by decide) (by decide)⟩
        · show Steps p.tables e below (s₁.setTop (mkF m 17 #[.val (.int p0)] [(.int (2 : Int32)), (.int p0)])) _
          refine XS.icmpNo X0.here hx rfl (hb hby d2_17) rfl (teq (hc55 : p0 = (2 : Int32))).2 ?_
          show Steps p.tables e below (s₁.setTop (mkF m 20 #[.val (.int p0)] [])) _
          refine XS.bipush X0.here hx rfl (hb hby d2_20) ?_
          show Steps p.tables e below (s₁.setTop (mkF m 22 #[.val (.int p0)] [(.int (6 : Int32))])) _
          exact own_retI X0 hx Bd.returns (hb hby d2_22) hr
        · show Q2 Z p0 h0 n0 _ s₁.heap _
          rw [e0]
          exact ⟨by rw [f2, if_neg hc51, if_neg hc53, if_pos hc55], N0, rfl⟩
      · have k56 : ∀ t, Steps p.tables e below (s₁.setTop (mkF m 25 #[.val (.int p0)] [(.int (3 : Int32)), (.int p0)])) t → Steps p.tables e below (s₁.setTop (entryFrame m #[(.int p0)] 1)) t := fun t kt => k54 t (by
          show Steps p.tables e below (s₁.setTop (mkF m 17 #[.val (.int p0)] [(.int (2 : Int32)), (.int p0)])) _
          refine XS.icmpYes X0.here hx rfl (pc0 := 17) (pc' := 23) rfl (hb hby d2_17) rfl (feq (hc55 : ¬ (p0 = (2 : Int32)))).2 (by decide) (by decide) ?_
          show Steps p.tables e below (s₁.setTop (mkF m 23 #[.val (.int p0)] [])) _
          refine XS.iloadN X0.here hx rfl (hb hby d2_23) rfl ?_
          show Steps p.tables e below (s₁.setTop (mkF m 24 #[.val (.int p0)] [(.int p0)])) _
          refine XS.iconst X0.here hx rfl (hb hby d2_24) ?_
          exact kt)
        by_cases hc57 : p0 = (3 : Int32)
        · obtain ⟨fs, hr, hrun, hended, hW, hsame⟩ := X0.leave (v := some (.int (9 : Int32))) (fun h => by rw [Bd.returns] at h; cases h)
          refine ⟨_, _, k56 _ ?_, hrun, hended, _, _, rfl, ?_, ⟨_, rfl⟩, hW, hsame.mono (by decide) (by decide)⟩
          · show Steps p.tables e below (s₁.setTop (mkF m 25 #[.val (.int p0)] [(.int (3 : Int32)), (.int p0)])) _
            refine XS.icmpNo X0.here hx rfl (hb hby d2_25) rfl (teq (hc57 : p0 = (3 : Int32))).2 ?_
            show Steps p.tables e below (s₁.setTop (mkF m 28 #[.val (.int p0)] [])) _
            refine XS.bipush X0.here hx rfl (hb hby d2_28) ?_
            show Steps p.tables e below (s₁.setTop (mkF m 30 #[.val (.int p0)] [(.int (9 : Int32))])) _
            exact own_retI X0 hx Bd.returns (hb hby d2_30) hr
          · show Q2 Z p0 h0 n0 _ s₁.heap _
            rw [e0]
            exact ⟨by rw [f2, if_neg hc51, if_neg hc53, if_neg hc55, if_pos hc57], N0, rfl⟩
        · have k58 : ∀ t, Steps p.tables e below (s₁.setTop (mkF m 33 #[.val (.int p0)] [(.int (4 : Int32)), (.int p0)])) t → Steps p.tables e below (s₁.setTop (entryFrame m #[(.int p0)] 1)) t := fun t kt => k56 t (by
            show Steps p.tables e below (s₁.setTop (mkF m 25 #[.val (.int p0)] [(.int (3 : Int32)), (.int p0)])) _
            refine XS.icmpYes X0.here hx rfl (pc0 := 25) (pc' := 31) rfl (hb hby d2_25) rfl (feq (hc57 : ¬ (p0 = (3 : Int32)))).2 (by decide) (by decide) ?_
            show Steps p.tables e below (s₁.setTop (mkF m 31 #[.val (.int p0)] [])) _
            refine XS.iloadN X0.here hx rfl (hb hby d2_31) rfl ?_
            show Steps p.tables e below (s₁.setTop (mkF m 32 #[.val (.int p0)] [(.int p0)])) _
            refine XS.iconst X0.here hx rfl (hb hby d2_32) ?_
            exact kt)
          by_cases hc59 : p0 = (4 : Int32)
          · obtain ⟨fs, hr, hrun, hended, hW, hsame⟩ := X0.leave (v := some (.int (8 : Int32))) (fun h => by rw [Bd.returns] at h; cases h)
            refine ⟨_, _, k58 _ ?_, hrun, hended, _, _, rfl, ?_, ⟨_, rfl⟩, hW, hsame.mono (by decide) (by decide)⟩
            · show Steps p.tables e below (s₁.setTop (mkF m 33 #[.val (.int p0)] [(.int (4 : Int32)), (.int p0)])) _
              refine XS.icmpNo X0.here hx rfl (hb hby d2_33) rfl (teq (hc59 : p0 = (4 : Int32))).2 ?_
              show Steps p.tables e below (s₁.setTop (mkF m 36 #[.val (.int p0)] [])) _
              refine XS.bipush X0.here hx rfl (hb hby d2_36) ?_
              show Steps p.tables e below (s₁.setTop (mkF m 38 #[.val (.int p0)] [(.int (8 : Int32))])) _
              exact own_retI X0 hx Bd.returns (hb hby d2_38) hr
            · show Q2 Z p0 h0 n0 _ s₁.heap _
              rw [e0]
              exact ⟨by rw [f2, if_neg hc51, if_neg hc53, if_neg hc55, if_neg hc57, if_pos hc59], N0, rfl⟩
          · have k60 : ∀ t, Steps p.tables e below (s₁.setTop (mkF m 41 #[.val (.int p0)] [(.int (5 : Int32)), (.int p0)])) t → Steps p.tables e below (s₁.setTop (entryFrame m #[(.int p0)] 1)) t := fun t kt => k58 t (by
              show Steps p.tables e below (s₁.setTop (mkF m 33 #[.val (.int p0)] [(.int (4 : Int32)), (.int p0)])) _
              refine XS.icmpYes X0.here hx rfl (pc0 := 33) (pc' := 39) rfl (hb hby d2_33) rfl (feq (hc59 : ¬ (p0 = (4 : Int32)))).2 (by decide) (by decide) ?_
              show Steps p.tables e below (s₁.setTop (mkF m 39 #[.val (.int p0)] [])) _
              refine XS.iloadN X0.here hx rfl (hb hby d2_39) rfl ?_
              show Steps p.tables e below (s₁.setTop (mkF m 40 #[.val (.int p0)] [(.int p0)])) _
              refine XS.iconst X0.here hx rfl (hb hby d2_40) ?_
              exact kt)
            by_cases hc61 : p0 = (5 : Int32)
            · obtain ⟨fs, hr, hrun, hended, hW, hsame⟩ := X0.leave (v := some (.int (6 : Int32))) (fun h => by rw [Bd.returns] at h; cases h)
              refine ⟨_, _, k60 _ ?_, hrun, hended, _, _, rfl, ?_, ⟨_, rfl⟩, hW, hsame.mono (by decide) (by decide)⟩
              · show Steps p.tables e below (s₁.setTop (mkF m 41 #[.val (.int p0)] [(.int (5 : Int32)), (.int p0)])) _
                refine XS.icmpNo X0.here hx rfl (hb hby d2_41) rfl (teq (hc61 : p0 = (5 : Int32))).2 ?_
                show Steps p.tables e below (s₁.setTop (mkF m 44 #[.val (.int p0)] [])) _
                refine XS.bipush X0.here hx rfl (hb hby d2_44) ?_
                show Steps p.tables e below (s₁.setTop (mkF m 46 #[.val (.int p0)] [(.int (6 : Int32))])) _
                exact own_retI X0 hx Bd.returns (hb hby d2_46) hr
              · show Q2 Z p0 h0 n0 _ s₁.heap _
                rw [e0]
                exact ⟨by rw [f2, if_neg hc51, if_neg hc53, if_neg hc55, if_neg hc57, if_neg hc59, if_pos hc61], N0, rfl⟩
            · have k62 : ∀ t, Steps p.tables e below (s₁.setTop (mkF m 50 #[.val (.int p0)] [(.int (6 : Int32)), (.int p0)])) t → Steps p.tables e below (s₁.setTop (entryFrame m #[(.int p0)] 1)) t := fun t kt => k60 t (by
                show Steps p.tables e below (s₁.setTop (mkF m 41 #[.val (.int p0)] [(.int (5 : Int32)), (.int p0)])) _
                refine XS.icmpYes X0.here hx rfl (pc0 := 41) (pc' := 47) rfl (hb hby d2_41) rfl (feq (hc61 : ¬ (p0 = (5 : Int32)))).2 (by decide) (by decide) ?_
                show Steps p.tables e below (s₁.setTop (mkF m 47 #[.val (.int p0)] [])) _
                refine XS.iloadN X0.here hx rfl (hb hby d2_47) rfl ?_
                show Steps p.tables e below (s₁.setTop (mkF m 48 #[.val (.int p0)] [(.int p0)])) _
                refine XS.bipush X0.here hx rfl (hb hby d2_48) ?_
                exact kt)
              by_cases hc63 : p0 = (6 : Int32)
              · obtain ⟨fs, hr, hrun, hended, hW, hsame⟩ := X0.leave (v := some (.int (3 : Int32))) (fun h => by rw [Bd.returns] at h; cases h)
                refine ⟨_, _, k62 _ ?_, hrun, hended, _, _, rfl, ?_, ⟨_, rfl⟩, hW, hsame.mono (by decide) (by decide)⟩
                · show Steps p.tables e below (s₁.setTop (mkF m 50 #[.val (.int p0)] [(.int (6 : Int32)), (.int p0)])) _
                  refine XS.icmpNo X0.here hx rfl (hb hby d2_50) rfl (teq (hc63 : p0 = (6 : Int32))).2 ?_
                  show Steps p.tables e below (s₁.setTop (mkF m 53 #[.val (.int p0)] [])) _
                  refine XS.iconst X0.here hx rfl (hb hby d2_53) ?_
                  show Steps p.tables e below (s₁.setTop (mkF m 54 #[.val (.int p0)] [(.int (3 : Int32))])) _
                  exact own_retI X0 hx Bd.returns (hb hby d2_54) hr
                · show Q2 Z p0 h0 n0 _ s₁.heap _
                  rw [e0]
                  exact ⟨by rw [f2, if_neg hc51, if_neg hc53, if_neg hc55, if_neg hc57, if_neg hc59, if_neg hc61, if_pos hc63], N0, rfl⟩
              · have k64 : ∀ t, Steps p.tables e below (s₁.setTop (mkF m 58 #[.val (.int p0)] [(.int (7 : Int32)), (.int p0)])) t → Steps p.tables e below (s₁.setTop (entryFrame m #[(.int p0)] 1)) t := fun t kt => k62 t (by
                  show Steps p.tables e below (s₁.setTop (mkF m 50 #[.val (.int p0)] [(.int (6 : Int32)), (.int p0)])) _
                  refine XS.icmpYes X0.here hx rfl (pc0 := 50) (pc' := 55) rfl (hb hby d2_50) rfl (feq (hc63 : ¬ (p0 = (6 : Int32)))).2 (by decide) (by decide) ?_
                  show Steps p.tables e below (s₁.setTop (mkF m 55 #[.val (.int p0)] [])) _
                  refine XS.iloadN X0.here hx rfl (hb hby d2_55) rfl ?_
                  show Steps p.tables e below (s₁.setTop (mkF m 56 #[.val (.int p0)] [(.int p0)])) _
                  refine XS.bipush X0.here hx rfl (hb hby d2_56) ?_
                  exact kt)
                by_cases hc65 : p0 = (7 : Int32)
                · obtain ⟨fs, hr, hrun, hended, hW, hsame⟩ := X0.leave (v := some (.int (6 : Int32))) (fun h => by rw [Bd.returns] at h; cases h)
                  refine ⟨_, _, k64 _ ?_, hrun, hended, _, _, rfl, ?_, ⟨_, rfl⟩, hW, hsame.mono (by decide) (by decide)⟩
                  · show Steps p.tables e below (s₁.setTop (mkF m 58 #[.val (.int p0)] [(.int (7 : Int32)), (.int p0)])) _
                    refine XS.icmpNo X0.here hx rfl (hb hby d2_58) rfl (teq (hc65 : p0 = (7 : Int32))).2 ?_
                    show Steps p.tables e below (s₁.setTop (mkF m 61 #[.val (.int p0)] [])) _
                    refine XS.bipush X0.here hx rfl (hb hby d2_61) ?_
                    show Steps p.tables e below (s₁.setTop (mkF m 63 #[.val (.int p0)] [(.int (6 : Int32))])) _
                    exact own_retI X0 hx Bd.returns (hb hby d2_63) hr
                  · show Q2 Z p0 h0 n0 _ s₁.heap _
                    rw [e0]
                    exact ⟨by rw [f2, if_neg hc51, if_neg hc53, if_neg hc55, if_neg hc57, if_neg hc59, if_neg hc61, if_neg hc63, if_pos hc65], N0, rfl⟩
                · have k66 : ∀ t, Steps p.tables e below (s₁.setTop (mkF m 67 #[.val (.int p0)] [(.int (8 : Int32)), (.int p0)])) t → Steps p.tables e below (s₁.setTop (entryFrame m #[(.int p0)] 1)) t := fun t kt => k64 t (by
                    show Steps p.tables e below (s₁.setTop (mkF m 58 #[.val (.int p0)] [(.int (7 : Int32)), (.int p0)])) _
                    refine XS.icmpYes X0.here hx rfl (pc0 := 58) (pc' := 64) rfl (hb hby d2_58) rfl (feq (hc65 : ¬ (p0 = (7 : Int32)))).2 (by decide) (by decide) ?_
                    show Steps p.tables e below (s₁.setTop (mkF m 64 #[.val (.int p0)] [])) _
                    refine XS.iloadN X0.here hx rfl (hb hby d2_64) rfl ?_
                    show Steps p.tables e below (s₁.setTop (mkF m 65 #[.val (.int p0)] [(.int p0)])) _
                    refine XS.bipush X0.here hx rfl (hb hby d2_65) ?_
                    exact kt)
                  by_cases hc67 : p0 = (8 : Int32)
                  · obtain ⟨fs, hr, hrun, hended, hW, hsame⟩ := X0.leave (v := some (.int (4 : Int32))) (fun h => by rw [Bd.returns] at h; cases h)
                    refine ⟨_, _, k66 _ ?_, hrun, hended, _, _, rfl, ?_, ⟨_, rfl⟩, hW, hsame.mono (by decide) (by decide)⟩
                    · show Steps p.tables e below (s₁.setTop (mkF m 67 #[.val (.int p0)] [(.int (8 : Int32)), (.int p0)])) _
                      refine XS.icmpNo X0.here hx rfl (hb hby d2_67) rfl (teq (hc67 : p0 = (8 : Int32))).2 ?_
                      show Steps p.tables e below (s₁.setTop (mkF m 70 #[.val (.int p0)] [])) _
                      refine XS.iconst X0.here hx rfl (hb hby d2_70) ?_
                      show Steps p.tables e below (s₁.setTop (mkF m 71 #[.val (.int p0)] [(.int (4 : Int32))])) _
                      exact own_retI X0 hx Bd.returns (hb hby d2_71) hr
                    · show Q2 Z p0 h0 n0 _ s₁.heap _
                      rw [e0]
                      exact ⟨by rw [f2, if_neg hc51, if_neg hc53, if_neg hc55, if_neg hc57, if_neg hc59, if_neg hc61, if_neg hc63, if_neg hc65, if_pos hc67], N0, rfl⟩
                  · have k68 : ∀ t, Steps p.tables e below (s₁.setTop (mkF m 75 #[.val (.int p0)] [(.int (9 : Int32)), (.int p0)])) t → Steps p.tables e below (s₁.setTop (entryFrame m #[(.int p0)] 1)) t := fun t kt => k66 t (by
                      show Steps p.tables e below (s₁.setTop (mkF m 67 #[.val (.int p0)] [(.int (8 : Int32)), (.int p0)])) _
                      refine XS.icmpYes X0.here hx rfl (pc0 := 67) (pc' := 72) rfl (hb hby d2_67) rfl (feq (hc67 : ¬ (p0 = (8 : Int32)))).2 (by decide) (by decide) ?_
                      show Steps p.tables e below (s₁.setTop (mkF m 72 #[.val (.int p0)] [])) _
                      refine XS.iloadN X0.here hx rfl (hb hby d2_72) rfl ?_
                      show Steps p.tables e below (s₁.setTop (mkF m 73 #[.val (.int p0)] [(.int p0)])) _
                      refine XS.bipush X0.here hx rfl (hb hby d2_73) ?_
                      exact kt)
                    by_cases hc69 : p0 = (9 : Int32)
                    · obtain ⟨fs, hr, hrun, hended, hW, hsame⟩ := X0.leave (v := some (.int (4 : Int32))) (fun h => by rw [Bd.returns] at h; cases h)
                      refine ⟨_, _, k68 _ ?_, hrun, hended, _, _, rfl, ?_, ⟨_, rfl⟩, hW, hsame.mono (by decide) (by decide)⟩
                      · show Steps p.tables e below (s₁.setTop (mkF m 75 #[.val (.int p0)] [(.int (9 : Int32)), (.int p0)])) _
                        refine XS.icmpNo X0.here hx rfl (hb hby d2_75) rfl (teq (hc69 : p0 = (9 : Int32))).2 ?_
                        show Steps p.tables e below (s₁.setTop (mkF m 78 #[.val (.int p0)] [])) _
                        refine XS.iconst X0.here hx rfl (hb hby d2_78) ?_
                        show Steps p.tables e below (s₁.setTop (mkF m 79 #[.val (.int p0)] [(.int (4 : Int32))])) _
                        exact own_retI X0 hx Bd.returns (hb hby d2_79) hr
                      · show Q2 Z p0 h0 n0 _ s₁.heap _
                        rw [e0]
                        exact ⟨by rw [f2, if_neg hc51, if_neg hc53, if_neg hc55, if_neg hc57, if_neg hc59, if_neg hc61, if_neg hc63, if_neg hc65, if_neg hc67, if_pos hc69], N0, rfl⟩
                    · have k70 : ∀ t, Steps p.tables e below (s₁.setTop (mkF m 83 #[.val (.int p0)] [(.int (10 : Int32)), (.int p0)])) t → Steps p.tables e below (s₁.setTop (entryFrame m #[(.int p0)] 1)) t := fun t kt => k68 t (by
                        show Steps p.tables e below (s₁.setTop (mkF m 75 #[.val (.int p0)] [(.int (9 : Int32)), (.int p0)])) _
                        refine XS.icmpYes X0.here hx rfl (pc0 := 75) (pc' := 80) rfl (hb hby d2_75) rfl (feq (hc69 : ¬ (p0 = (9 : Int32)))).2 (by decide) (by decide) ?_
                        show Steps p.tables e below (s₁.setTop (mkF m 80 #[.val (.int p0)] [])) _
                        refine XS.iloadN X0.here hx rfl (hb hby d2_80) rfl ?_
                        show Steps p.tables e below (s₁.setTop (mkF m 81 #[.val (.int p0)] [(.int p0)])) _
                        refine XS.bipush X0.here hx rfl (hb hby d2_81) ?_
                        exact kt)
                      by_cases hc71 : p0 = (10 : Int32)
                      · obtain ⟨fs, hr, hrun, hended, hW, hsame⟩ := X0.leave (v := some (.int (4 : Int32))) (fun h => by rw [Bd.returns] at h; cases h)
                        refine ⟨_, _, k70 _ ?_, hrun, hended, _, _, rfl, ?_, ⟨_, rfl⟩, hW, hsame.mono (by decide) (by decide)⟩
                        · show Steps p.tables e below (s₁.setTop (mkF m 83 #[.val (.int p0)] [(.int (10 : Int32)), (.int p0)])) _
                          refine XS.icmpNo X0.here hx rfl (hb hby d2_83) rfl (teq (hc71 : p0 = (10 : Int32))).2 ?_
                          show Steps p.tables e below (s₁.setTop (mkF m 86 #[.val (.int p0)] [])) _
                          refine XS.iconst X0.here hx rfl (hb hby d2_86) ?_
                          show Steps p.tables e below (s₁.setTop (mkF m 87 #[.val (.int p0)] [(.int (4 : Int32))])) _
                          exact own_retI X0 hx Bd.returns (hb hby d2_87) hr
                        · show Q2 Z p0 h0 n0 _ s₁.heap _
                          rw [e0]
                          exact ⟨by rw [f2, if_neg hc51, if_neg hc53, if_neg hc55, if_neg hc57, if_neg hc59, if_neg hc61, if_neg hc63, if_neg hc65, if_neg hc67, if_neg hc69, if_pos hc71], N0, rfl⟩
                      · have k72 : ∀ t, Steps p.tables e below (s₁.setTop (mkF m 91 #[.val (.int p0)] [(.int (11 : Int32)), (.int p0)])) t → Steps p.tables e below (s₁.setTop (entryFrame m #[(.int p0)] 1)) t := fun t kt => k70 t (by
                          show Steps p.tables e below (s₁.setTop (mkF m 83 #[.val (.int p0)] [(.int (10 : Int32)), (.int p0)])) _
                          refine XS.icmpYes X0.here hx rfl (pc0 := 83) (pc' := 88) rfl (hb hby d2_83) rfl (feq (hc71 : ¬ (p0 = (10 : Int32)))).2 (by decide) (by decide) ?_
                          show Steps p.tables e below (s₁.setTop (mkF m 88 #[.val (.int p0)] [])) _
                          refine XS.iloadN X0.here hx rfl (hb hby d2_88) rfl ?_
                          show Steps p.tables e below (s₁.setTop (mkF m 89 #[.val (.int p0)] [(.int p0)])) _
                          refine XS.bipush X0.here hx rfl (hb hby d2_89) ?_
                          exact kt)
                        by_cases hc73 : p0 = (11 : Int32)
                        · obtain ⟨fs, hr, hrun, hended, hW, hsame⟩ := X0.leave (v := some (.int (3 : Int32))) (fun h => by rw [Bd.returns] at h; cases h)
                          refine ⟨_, _, k72 _ ?_, hrun, hended, _, _, rfl, ?_, ⟨_, rfl⟩, hW, hsame.mono (by decide) (by decide)⟩
                          · show Steps p.tables e below (s₁.setTop (mkF m 91 #[.val (.int p0)] [(.int (11 : Int32)), (.int p0)])) _
                            refine XS.icmpNo X0.here hx rfl (hb hby d2_91) rfl (teq (hc73 : p0 = (11 : Int32))).2 ?_
                            show Steps p.tables e below (s₁.setTop (mkF m 94 #[.val (.int p0)] [])) _
                            refine XS.iconst X0.here hx rfl (hb hby d2_94) ?_
                            show Steps p.tables e below (s₁.setTop (mkF m 95 #[.val (.int p0)] [(.int (3 : Int32))])) _
                            exact own_retI X0 hx Bd.returns (hb hby d2_95) hr
                          · show Q2 Z p0 h0 n0 _ s₁.heap _
                            rw [e0]
                            exact ⟨by rw [f2, if_neg hc51, if_neg hc53, if_neg hc55, if_neg hc57, if_neg hc59, if_neg hc61, if_neg hc63, if_neg hc65, if_neg hc67, if_neg hc69, if_neg hc71, if_pos hc73], N0, rfl⟩
                        · have k74 : ∀ t, Steps p.tables e below (s₁.setTop (mkF m 99 #[.val (.int p0)] [(.int (12 : Int32)), (.int p0)])) t → Steps p.tables e below (s₁.setTop (entryFrame m #[(.int p0)] 1)) t := fun t kt => k72 t (by
                            show Steps p.tables e below (s₁.setTop (mkF m 91 #[.val (.int p0)] [(.int (11 : Int32)), (.int p0)])) _
                            refine XS.icmpYes X0.here hx rfl (pc0 := 91) (pc' := 96) rfl (hb hby d2_91) rfl (feq (hc73 : ¬ (p0 = (11 : Int32)))).2 (by decide) (by decide) ?_
                            show Steps p.tables e below (s₁.setTop (mkF m 96 #[.val (.int p0)] [])) _
                            refine XS.iloadN X0.here hx rfl (hb hby d2_96) rfl ?_
                            show Steps p.tables e below (s₁.setTop (mkF m 97 #[.val (.int p0)] [(.int p0)])) _
                            refine XS.bipush X0.here hx rfl (hb hby d2_97) ?_
                            exact kt)
                          by_cases hc75 : p0 = (12 : Int32)
                          · obtain ⟨fs, hr, hrun, hended, hW, hsame⟩ := X0.leave (v := some (.int (2 : Int32))) (fun h => by rw [Bd.returns] at h; cases h)
                            refine ⟨_, _, k74 _ ?_, hrun, hended, _, _, rfl, ?_, ⟨_, rfl⟩, hW, hsame.mono (by decide) (by decide)⟩
                            · show Steps p.tables e below (s₁.setTop (mkF m 99 #[.val (.int p0)] [(.int (12 : Int32)), (.int p0)])) _
                              refine XS.icmpNo X0.here hx rfl (hb hby d2_99) rfl (teq (hc75 : p0 = (12 : Int32))).2 ?_
                              show Steps p.tables e below (s₁.setTop (mkF m 102 #[.val (.int p0)] [])) _
                              refine XS.iconst X0.here hx rfl (hb hby d2_102) ?_
                              show Steps p.tables e below (s₁.setTop (mkF m 103 #[.val (.int p0)] [(.int (2 : Int32))])) _
                              exact own_retI X0 hx Bd.returns (hb hby d2_103) hr
                            · show Q2 Z p0 h0 n0 _ s₁.heap _
                              rw [e0]
                              exact ⟨by rw [f2, if_neg hc51, if_neg hc53, if_neg hc55, if_neg hc57, if_neg hc59, if_neg hc61, if_neg hc63, if_neg hc65, if_neg hc67, if_neg hc69, if_neg hc71, if_neg hc73, if_pos hc75], N0, rfl⟩
                          · have k76 : ∀ t, Steps p.tables e below (s₁.setTop (mkF m 107 #[.val (.int p0)] [(.int (13 : Int32)), (.int p0)])) t → Steps p.tables e below (s₁.setTop (entryFrame m #[(.int p0)] 1)) t := fun t kt => k74 t (by
                              show Steps p.tables e below (s₁.setTop (mkF m 99 #[.val (.int p0)] [(.int (12 : Int32)), (.int p0)])) _
                              refine XS.icmpYes X0.here hx rfl (pc0 := 99) (pc' := 104) rfl (hb hby d2_99) rfl (feq (hc75 : ¬ (p0 = (12 : Int32)))).2 (by decide) (by decide) ?_
                              show Steps p.tables e below (s₁.setTop (mkF m 104 #[.val (.int p0)] [])) _
                              refine XS.iloadN X0.here hx rfl (hb hby d2_104) rfl ?_
                              show Steps p.tables e below (s₁.setTop (mkF m 105 #[.val (.int p0)] [(.int p0)])) _
                              refine XS.bipush X0.here hx rfl (hb hby d2_105) ?_
                              exact kt)
                            by_cases hc77 : p0 = (13 : Int32)
                            · obtain ⟨fs, hr, hrun, hended, hW, hsame⟩ := X0.leave (v := some (.int (3 : Int32))) (fun h => by rw [Bd.returns] at h; cases h)
                              refine ⟨_, _, k76 _ ?_, hrun, hended, _, _, rfl, ?_, ⟨_, rfl⟩, hW, hsame.mono (by decide) (by decide)⟩
                              · show Steps p.tables e below (s₁.setTop (mkF m 107 #[.val (.int p0)] [(.int (13 : Int32)), (.int p0)])) _
                                refine XS.icmpNo X0.here hx rfl (hb hby d2_107) rfl (teq (hc77 : p0 = (13 : Int32))).2 ?_
                                show Steps p.tables e below (s₁.setTop (mkF m 110 #[.val (.int p0)] [])) _
                                refine XS.iconst X0.here hx rfl (hb hby d2_110) ?_
                                show Steps p.tables e below (s₁.setTop (mkF m 111 #[.val (.int p0)] [(.int (3 : Int32))])) _
                                exact own_retI X0 hx Bd.returns (hb hby d2_111) hr
                              · show Q2 Z p0 h0 n0 _ s₁.heap _
                                rw [e0]
                                exact ⟨by rw [f2, if_neg hc51, if_neg hc53, if_neg hc55, if_neg hc57, if_neg hc59, if_neg hc61, if_neg hc63, if_neg hc65, if_neg hc67, if_neg hc69, if_neg hc71, if_neg hc73, if_neg hc75, if_pos hc77], N0, rfl⟩
                            · have k78 : ∀ t, Steps p.tables e below (s₁.setTop (mkF m 115 #[.val (.int p0)] [(.int (14 : Int32)), (.int p0)])) t → Steps p.tables e below (s₁.setTop (entryFrame m #[(.int p0)] 1)) t := fun t kt => k76 t (by
                                show Steps p.tables e below (s₁.setTop (mkF m 107 #[.val (.int p0)] [(.int (13 : Int32)), (.int p0)])) _
                                refine XS.icmpYes X0.here hx rfl (pc0 := 107) (pc' := 112) rfl (hb hby d2_107) rfl (feq (hc77 : ¬ (p0 = (13 : Int32)))).2 (by decide) (by decide) ?_
                                show Steps p.tables e below (s₁.setTop (mkF m 112 #[.val (.int p0)] [])) _
                                refine XS.iloadN X0.here hx rfl (hb hby d2_112) rfl ?_
                                show Steps p.tables e below (s₁.setTop (mkF m 113 #[.val (.int p0)] [(.int p0)])) _
                                refine XS.bipush X0.here hx rfl (hb hby d2_113) ?_
                                exact kt)
                              by_cases hc79 : p0 = (14 : Int32)
                              · obtain ⟨fs, hr, hrun, hended, hW, hsame⟩ := X0.leave (v := some (.int (3 : Int32))) (fun h => by rw [Bd.returns] at h; cases h)
                                refine ⟨_, _, k78 _ ?_, hrun, hended, _, _, rfl, ?_, ⟨_, rfl⟩, hW, hsame.mono (by decide) (by decide)⟩
                                · show Steps p.tables e below (s₁.setTop (mkF m 115 #[.val (.int p0)] [(.int (14 : Int32)), (.int p0)])) _
                                  refine XS.icmpNo X0.here hx rfl (hb hby d2_115) rfl (teq (hc79 : p0 = (14 : Int32))).2 ?_
                                  show Steps p.tables e below (s₁.setTop (mkF m 118 #[.val (.int p0)] [])) _
                                  refine XS.iconst X0.here hx rfl (hb hby d2_118) ?_
                                  show Steps p.tables e below (s₁.setTop (mkF m 119 #[.val (.int p0)] [(.int (3 : Int32))])) _
                                  exact own_retI X0 hx Bd.returns (hb hby d2_119) hr
                                · show Q2 Z p0 h0 n0 _ s₁.heap _
                                  rw [e0]
                                  exact ⟨by rw [f2, if_neg hc51, if_neg hc53, if_neg hc55, if_neg hc57, if_neg hc59, if_neg hc61, if_neg hc63, if_neg hc65, if_neg hc67, if_neg hc69, if_neg hc71, if_neg hc73, if_neg hc75, if_neg hc77, if_pos hc79], N0, rfl⟩
                              · have k80 : ∀ t, Steps p.tables e below (s₁.setTop (mkF m 123 #[.val (.int p0)] [(.int (15 : Int32)), (.int p0)])) t → Steps p.tables e below (s₁.setTop (entryFrame m #[(.int p0)] 1)) t := fun t kt => k78 t (by
                                  show Steps p.tables e below (s₁.setTop (mkF m 115 #[.val (.int p0)] [(.int (14 : Int32)), (.int p0)])) _
                                  refine XS.icmpYes X0.here hx rfl (pc0 := 115) (pc' := 120) rfl (hb hby d2_115) rfl (feq (hc79 : ¬ (p0 = (14 : Int32)))).2 (by decide) (by decide) ?_
                                  show Steps p.tables e below (s₁.setTop (mkF m 120 #[.val (.int p0)] [])) _
                                  refine XS.iloadN X0.here hx rfl (hb hby d2_120) rfl ?_
                                  show Steps p.tables e below (s₁.setTop (mkF m 121 #[.val (.int p0)] [(.int p0)])) _
                                  refine XS.bipush X0.here hx rfl (hb hby d2_121) ?_
                                  exact kt)
                                by_cases hc81 : p0 = (15 : Int32)
                                · obtain ⟨fs, hr, hrun, hended, hW, hsame⟩ := X0.leave (v := some (.int (3 : Int32))) (fun h => by rw [Bd.returns] at h; cases h)
                                  refine ⟨_, _, k80 _ ?_, hrun, hended, _, _, rfl, ?_, ⟨_, rfl⟩, hW, hsame.mono (by decide) (by decide)⟩
                                  · show Steps p.tables e below (s₁.setTop (mkF m 123 #[.val (.int p0)] [(.int (15 : Int32)), (.int p0)])) _
                                    refine XS.icmpNo X0.here hx rfl (hb hby d2_123) rfl (teq (hc81 : p0 = (15 : Int32))).2 ?_
                                    show Steps p.tables e below (s₁.setTop (mkF m 126 #[.val (.int p0)] [])) _
                                    refine XS.iconst X0.here hx rfl (hb hby d2_126) ?_
                                    show Steps p.tables e below (s₁.setTop (mkF m 127 #[.val (.int p0)] [(.int (3 : Int32))])) _
                                    exact own_retI X0 hx Bd.returns (hb hby d2_127) hr
                                  · show Q2 Z p0 h0 n0 _ s₁.heap _
                                    rw [e0]
                                    exact ⟨by rw [f2, if_neg hc51, if_neg hc53, if_neg hc55, if_neg hc57, if_neg hc59, if_neg hc61, if_neg hc63, if_neg hc65, if_neg hc67, if_neg hc69, if_neg hc71, if_neg hc73, if_neg hc75, if_neg hc77, if_neg hc79, if_pos hc81], N0, rfl⟩
                                · obtain ⟨fs, hr, hrun, hended, hW, hsame⟩ := X0.leave (v := some (.int (3 : Int32))) (fun h => by rw [Bd.returns] at h; cases h)
                                  refine ⟨_, _, k80 _ ?_, hrun, hended, _, _, rfl, ?_, ⟨_, rfl⟩, hW, hsame.mono (by decide) (by decide)⟩
                                  · show Steps p.tables e below (s₁.setTop (mkF m 123 #[.val (.int p0)] [(.int (15 : Int32)), (.int p0)])) _
                                    refine XS.icmpYes X0.here hx rfl (pc0 := 123) (pc' := 128) rfl (hb hby d2_123) rfl (feq (hc81 : ¬ (p0 = (15 : Int32)))).2 (by decide) (by decide) ?_
                                    show Steps p.tables e below (s₁.setTop (mkF m 128 #[.val (.int p0)] [])) _
                                    refine XS.iconst X0.here hx rfl (hb hby d2_128) ?_
                                    show Steps p.tables e below (s₁.setTop (mkF m 129 #[.val (.int p0)] [(.int (3 : Int32))])) _
                                    exact own_retI X0 hx Bd.returns (hb hby d2_129) hr
                                  · show Q2 Z p0 h0 n0 _ s₁.heap _
                                    rw [e0]
                                    exact ⟨by rw [f2, if_neg hc51, if_neg hc53, if_neg hc55, if_neg hc57, if_neg hc59, if_neg hc61, if_neg hc63, if_neg hc65, if_neg hc67, if_neg hc69, if_neg hc71, if_neg hc73, if_neg hc75, if_neg hc77, if_neg hc79, if_neg hc81], N0, rfl⟩
theorem d3_0 : decode prog_15_method_6_code 0 = .ok (.iload_n 1, 1) := by decide +kernel
theorem d3_1 : decode prog_15_method_6_code 1 = .ok (.aload_n 0, 1) := by decide +kernel
theorem d3_2 : decode prog_15_method_6_code 2 = .ok (.getfield 84, 3) := by decide +kernel
theorem d3_5 : decode prog_15_method_6_code 5 = .ok (.if_icmp .lt 7, 3) := by decide +kernel
theorem d3_12 : decode prog_15_method_6_code 12 = .ok (.iconst 0, 1) := by decide +kernel
theorem d3_13 : decode prog_15_method_6_code 13 = .ok (.ireturn, 1) := by decide +kernel
theorem d3_8 : decode prog_15_method_6_code 8 = .ok (.iconst 1, 1) := by decide +kernel
theorem d3_9 : decode prog_15_method_6_code 9 = .ok (.goto 4, 3) := by decide +kernel
theorem pn_1 : plainName "com/example/idem_log/idemlog/protocol/Api" = true := by first | (simp [plainName, overriddenIn]; done) | decide +kernel
def f3 (p0 : Addr) (p1 : Int32) (u_p0_firstFlexibleVersion : Int32) : Int32 := if p1 < u_p0_firstFlexibleVersion then (0 : Int32) else (1 : Int32)
theorem ef_3 (m : MethodId) (p0 : Addr) (p1 : Int32) : entryFrame m #[(.ref p0), (.int p1)] 2 = mkF m 0 #[.val (.ref p0), .val (.int p1)] [] := by first | (simp [entryFrame, mkF, argsToLocals, Value.category]; done) | rfl
def Q3 (Z : State) (p0 : Addr) (p1 : Int32) (u_p0_firstFlexibleVersion : Int32) (h0 : Heap) (n0 : Nat) (v : Option Value) (h : Heap) (L : List Loc) : Prop := v = some (.int (f3 p0 p1 u_p0_firstFlexibleVersion)) ∧ Fr n0 L ∧ h = h0
set_option maxRecDepth 65536 in
set_option maxHeartbeats 40000000 in
theorem rm3 (l : Launch) (Z : State) (a0 : Array Value) (hw : ∀ d ∈ tables_1, d.before a0 Z = true) (ws : List Jvm.Cond) (p0 : Addr) (p1 : Int32) (u_p0_firstFlexibleVersion : Int32) (h0 : Heap) (n0 : Nat) (Z0 : n0 ≤ h0.size) (G_p0_firstFlexibleVersion : Fld Z h0 p0 "com/example/idem_log/idemlog/protocol/Api" "firstFlexibleVersion" "S" (.int u_p0_firstFlexibleVersion)) :
    MetFree l (⟨"com/example/idem_log/idemlog/protocol/Api", "isFlexible", "(S)Z"⟩ : MethodName) (head1 (Jvm.Cond.code (⟨"com/example/idem_log/idemlog/protocol/Api", "isFlexible", "(S)Z"⟩ : MethodName) prog_15_method_6_code 2 (some .boolean) :: ws) ({ frames := 0, cells := 0, slots := 0, locals := 0 } : Room)) (fun a U => a = #[(.ref p0), (.int p1)] ∧ Z.Warmed39 U.vm ∧ U.heap = h0) (fun _ _ _ _ _ => True) (fun _ U o U' => ∃ v L, o = .returned v ∧ Q3 Z p0 p1 u_p0_firstFlexibleVersion h0 n0 v U'.heap L ∧ FrameEnd U o U' L ({ frames := 0, cells := 0, slots := 0, locals := 0 } : Room).cells ({ frames := 0, cells := 0, slots := 0, locals := 0 } : Room).slots) := by
  refine MetFree.of_bodySF (plainFor_of_name pn_1) hisR ?_
  intro p e s m args below meth c s₁ Bd hml0 hP hK
  obtain ⟨rfl, hZ, hh⟩ := hP
  have hx := Bd.exec
  have hby := Bd.bytes
  have hml : c.maxLocals = 2 := hml0
  have hown : s.vm.findClass "com/example/idem_log/idemlog/protocol/Api" = some m.cls := findClass_of_methodNamed Bd.named
  have X0 : Stand p l e ({ frames := 0, cells := 0, slots := 0, locals := 0 } : Room) s m #[(.ref p0), (.int p1)] below meth c s₁ [] 0 0 := Stand.of_body Bd
  have e0 : s₁.heap = h0 := by rw [← hh, Bd.state]; rfl
  have N0 := Fr.nil n0
  have pre0 : ∀ t, Steps p.tables e below (s₁.setTop (mkF m 0 #[.val (.ref p0), .val (.int p1)] [])) t → Steps p.tables e below (s₁.setTop (entryFrame m #[(.ref p0), (.int p1)] 2)) t := fun t k => castTop (ef_3 m p0 p1) k
  obtain ⟨T82, X82, e82, st82⟩ := getF X0 hx hZ hown (host := "") (Or.inl (hw _ (List.mem_of_getElem? (i := 16) rfl))) Via.refl e0 G_p0_firstFlexibleVersion (g := (mkF m 2 #[.val (.ref p0), .val (.int p1)] [(.ref p0), (.int p1)])) rfl rfl (hb hby d3_2)
  have k83 : ∀ t, Steps p.tables e below (T82.setTop (mkF m 5 #[.val (.ref p0), .val (.int p1)] [(.int u_p0_firstFlexibleVersion), (.int p1)])) t → Steps p.tables e below (s₁.setTop (entryFrame m #[(.ref p0), (.int p1)] 2)) t := fun t kt => pre0 t (by
    show Steps p.tables e below (s₁.setTop (mkF m 0 #[.val (.ref p0), .val (.int p1)] [])) _
    refine XS.iloadN X0.here hx rfl (hb hby d3_0) rfl ?_
    show Steps p.tables e below (s₁.setTop (mkF m 1 #[.val (.ref p0), .val (.int p1)] [(.int p1)])) _
    refine XS.aloadN X0.here hx rfl (hb hby d3_1) rfl rfl ?_
    show Steps p.tables e below (s₁.setTop (mkF m 2 #[.val (.ref p0), .val (.int p1)] [(.ref p0), (.int p1)])) _
    refine st82 _ ?_
    exact kt)
  by_cases hc84 : p1 < u_p0_firstFlexibleVersion
  · obtain ⟨fs, hr, hrun, hended, hW, hsame⟩ := X82.leave (v := some (.int (0 : Int32))) (fun h => by rw [Bd.returns] at h; cases h)
    refine ⟨_, _, k83 _ ?_, hrun, hended, _, _, rfl, ?_, ⟨_, rfl⟩, hW, hsame.mono (by decide) (by decide)⟩
    · show Steps p.tables e below (T82.setTop (mkF m 5 #[.val (.ref p0), .val (.int p1)] [(.int u_p0_firstFlexibleVersion), (.int p1)])) _
      refine XS.icmpYes X82.here hx rfl (pc0 := 5) (pc' := 12) rfl (hb hby d3_5) rfl (tlt (hc84 : p1 < u_p0_firstFlexibleVersion)).1 (by decide) (by decide) ?_
      show Steps p.tables e below (T82.setTop (mkF m 12 #[.val (.ref p0), .val (.int p1)] [])) _
      refine XS.iconst X82.here hx rfl (hb hby d3_12) ?_
      show Steps p.tables e below (T82.setTop (mkF m 13 #[.val (.ref p0), .val (.int p1)] [(.int (0 : Int32))])) _
      exact retN X82 hx (t := .boolean) Bd.returns (by simp) (hb hby d3_13) hr
    · show Q3 Z p0 p1 u_p0_firstFlexibleVersion h0 n0 _ T82.heap _
      rw [e82]
      exact ⟨by rw [f3, if_pos hc84], N0, rfl⟩
  · obtain ⟨fs, hr, hrun, hended, hW, hsame⟩ := X82.leave (v := some (.int (1 : Int32))) (fun h => by rw [Bd.returns] at h; cases h)
    refine ⟨_, _, k83 _ ?_, hrun, hended, _, _, rfl, ?_, ⟨_, rfl⟩, hW, hsame.mono (by decide) (by decide)⟩
    · show Steps p.tables e below (T82.setTop (mkF m 5 #[.val (.ref p0), .val (.int p1)] [(.int u_p0_firstFlexibleVersion), (.int p1)])) _
      refine XS.icmpNo X82.here hx rfl (hb hby d3_5) rfl (flt (hc84 : ¬ (p1 < u_p0_firstFlexibleVersion))).1 ?_
      show Steps p.tables e below (T82.setTop (mkF m 8 #[.val (.ref p0), .val (.int p1)] [])) _
      refine XS.iconst X82.here hx rfl (hb hby d3_8) ?_
      show Steps p.tables e below (T82.setTop (mkF m 9 #[.val (.ref p0), .val (.int p1)] [(.int (1 : Int32))])) _
      refine XS.goto X82.here hx rfl (pc0 := 9) (pc' := 13) rfl (hb hby d3_9) (by decide) (by decide) ?_
      show Steps p.tables e below (T82.setTop (mkF m 13 #[.val (.ref p0), .val (.int p1)] [(.int (1 : Int32))])) _
      exact retN X82 hx (t := .boolean) Bd.returns (by simp) (hb hby d3_13) hr
    · show Q3 Z p0 p1 u_p0_firstFlexibleVersion h0 n0 _ T82.heap _
      rw [e82]
      exact ⟨by rw [f3, if_neg hc84], N0, rfl⟩
theorem own_pick {Z : State} {h : Heap} {wPRODUCE : Addr} {wFETCH : Addr} {wAPI_VERSIONS : Addr} {wHEARTBEAT : Addr} {wINIT_PRODUCER_ID : Addr} {wADD_PARTITIONS_TO_TXN : Addr} {wMETADATA : Addr} {wSYNC_GROUP : Addr} {wTXN_OFFSET_COMMIT : Addr} {wJOIN_GROUP : Addr} {wLIST_OFFSETS : Addr} {wOFFSET_COMMIT : Addr} {wOFFSET_FETCH : Addr} {wADD_OFFSETS_TO_TXN : Addr} {wFIND_COORDINATOR : Addr} {wLEAVE_GROUP : Addr} {wEND_TXN : Addr} (W : World Z h wPRODUCE wFETCH wAPI_VERSIONS wHEARTBEAT wINIT_PRODUCER_ID wADD_PARTITIONS_TO_TXN wMETADATA wSYNC_GROUP wTXN_OFFSET_COMMIT wJOIN_GROUP wLIST_OFFSETS wOFFSET_COMMIT wOFFSET_FETCH wADD_OFFSETS_TO_TXN wFIND_COORDINATOR wLEAVE_GROUP wEND_TXN) (k : Int32) : Exa Z h (f1 k wPRODUCE wFETCH wAPI_VERSIONS wHEARTBEAT wINIT_PRODUCER_ID wADD_PARTITIONS_TO_TXN wMETADATA wSYNC_GROUP wTXN_OFFSET_COMMIT wJOIN_GROUP wLIST_OFFSETS wOFFSET_COMMIT wOFFSET_FETCH wADD_OFFSETS_TO_TXN wFIND_COORDINATOR wLEAVE_GROUP wEND_TXN) "com/example/idem_log/idemlog/protocol/Api" ∧ Fld Z h (f1 k wPRODUCE wFETCH wAPI_VERSIONS wHEARTBEAT wINIT_PRODUCER_ID wADD_PARTITIONS_TO_TXN wMETADATA wSYNC_GROUP wTXN_OFFSET_COMMIT wJOIN_GROUP wLIST_OFFSETS wOFFSET_COMMIT wOFFSET_FETCH wADD_OFFSETS_TO_TXN wFIND_COORDINATOR wLEAVE_GROUP wEND_TXN) "com/example/idem_log/idemlog/protocol/Api" "firstFlexibleVersion" "S" (.int (f2 k)) := by
  obtain ⟨SPRODUCE, EPRODUCE, FPRODUCE_firstFlexibleVersion, SFETCH, EFETCH, FFETCH_firstFlexibleVersion, SAPI_VERSIONS, EAPI_VERSIONS, FAPI_VERSIONS_firstFlexibleVersion, SHEARTBEAT, EHEARTBEAT, FHEARTBEAT_firstFlexibleVersion, SINIT_PRODUCER_ID, EINIT_PRODUCER_ID, FINIT_PRODUCER_ID_firstFlexibleVersion, SADD_PARTITIONS_TO_TXN, EADD_PARTITIONS_TO_TXN, FADD_PARTITIONS_TO_TXN_firstFlexibleVersion, SMETADATA, EMETADATA, FMETADATA_firstFlexibleVersion, SSYNC_GROUP, ESYNC_GROUP, FSYNC_GROUP_firstFlexibleVersion, STXN_OFFSET_COMMIT, ETXN_OFFSET_COMMIT, FTXN_OFFSET_COMMIT_firstFlexibleVersion, SJOIN_GROUP, EJOIN_GROUP, FJOIN_GROUP_firstFlexibleVersion, SLIST_OFFSETS, ELIST_OFFSETS, FLIST_OFFSETS_firstFlexibleVersion, SOFFSET_COMMIT, EOFFSET_COMMIT, FOFFSET_COMMIT_firstFlexibleVersion, SOFFSET_FETCH, EOFFSET_FETCH, FOFFSET_FETCH_firstFlexibleVersion, SADD_OFFSETS_TO_TXN, EADD_OFFSETS_TO_TXN, FADD_OFFSETS_TO_TXN_firstFlexibleVersion, SFIND_COORDINATOR, EFIND_COORDINATOR, FFIND_COORDINATOR_firstFlexibleVersion, SLEAVE_GROUP, ELEAVE_GROUP, FLEAVE_GROUP_firstFlexibleVersion, SEND_TXN, EEND_TXN, FEND_TXN_firstFlexibleVersion, -⟩ := W
  by_cases q0 : k = (0 : Int32)
  · rw [f1, if_pos q0, f2, if_pos q0]; exact ⟨EPRODUCE, FPRODUCE_firstFlexibleVersion⟩
  by_cases q1 : k = (1 : Int32)
  · rw [f1, if_neg q0, if_pos q1, f2, if_neg q0, if_pos q1]; exact ⟨EFETCH, FFETCH_firstFlexibleVersion⟩
  by_cases q2 : k = (2 : Int32)
  · rw [f1, if_neg q0, if_neg q1, if_pos q2, f2, if_neg q0, if_neg q1, if_pos q2]; exact ⟨ELIST_OFFSETS, FLIST_OFFSETS_firstFlexibleVersion⟩
  by_cases q3 : k = (3 : Int32)
  · rw [f1, if_neg q0, if_neg q1, if_neg q2, if_pos q3, f2, if_neg q0, if_neg q1, if_neg q2, if_pos q3]; exact ⟨EMETADATA, FMETADATA_firstFlexibleVersion⟩
  by_cases q4 : k = (4 : Int32)
  · rw [f1, if_neg q0, if_neg q1, if_neg q2, if_neg q3, if_pos q4, f2, if_neg q0, if_neg q1, if_neg q2, if_neg q3, if_pos q4]; exact ⟨EOFFSET_COMMIT, FOFFSET_COMMIT_firstFlexibleVersion⟩
  by_cases q5 : k = (5 : Int32)
  · rw [f1, if_neg q0, if_neg q1, if_neg q2, if_neg q3, if_neg q4, if_pos q5, f2, if_neg q0, if_neg q1, if_neg q2, if_neg q3, if_neg q4, if_pos q5]; exact ⟨EOFFSET_FETCH, FOFFSET_FETCH_firstFlexibleVersion⟩
  by_cases q6 : k = (6 : Int32)
  · rw [f1, if_neg q0, if_neg q1, if_neg q2, if_neg q3, if_neg q4, if_neg q5, if_pos q6, f2, if_neg q0, if_neg q1, if_neg q2, if_neg q3, if_neg q4, if_neg q5, if_pos q6]; exact ⟨EFIND_COORDINATOR, FFIND_COORDINATOR_firstFlexibleVersion⟩
  by_cases q7 : k = (7 : Int32)
  · rw [f1, if_neg q0, if_neg q1, if_neg q2, if_neg q3, if_neg q4, if_neg q5, if_neg q6, if_pos q7, f2, if_neg q0, if_neg q1, if_neg q2, if_neg q3, if_neg q4, if_neg q5, if_neg q6, if_pos q7]; exact ⟨EJOIN_GROUP, FJOIN_GROUP_firstFlexibleVersion⟩
  by_cases q8 : k = (8 : Int32)
  · rw [f1, if_neg q0, if_neg q1, if_neg q2, if_neg q3, if_neg q4, if_neg q5, if_neg q6, if_neg q7, if_pos q8, f2, if_neg q0, if_neg q1, if_neg q2, if_neg q3, if_neg q4, if_neg q5, if_neg q6, if_neg q7, if_pos q8]; exact ⟨EHEARTBEAT, FHEARTBEAT_firstFlexibleVersion⟩
  by_cases q9 : k = (9 : Int32)
  · rw [f1, if_neg q0, if_neg q1, if_neg q2, if_neg q3, if_neg q4, if_neg q5, if_neg q6, if_neg q7, if_neg q8, if_pos q9, f2, if_neg q0, if_neg q1, if_neg q2, if_neg q3, if_neg q4, if_neg q5, if_neg q6, if_neg q7, if_neg q8, if_pos q9]; exact ⟨ELEAVE_GROUP, FLEAVE_GROUP_firstFlexibleVersion⟩
  by_cases q10 : k = (10 : Int32)
  · rw [f1, if_neg q0, if_neg q1, if_neg q2, if_neg q3, if_neg q4, if_neg q5, if_neg q6, if_neg q7, if_neg q8, if_neg q9, if_pos q10, f2, if_neg q0, if_neg q1, if_neg q2, if_neg q3, if_neg q4, if_neg q5, if_neg q6, if_neg q7, if_neg q8, if_neg q9, if_pos q10]; exact ⟨ESYNC_GROUP, FSYNC_GROUP_firstFlexibleVersion⟩
  by_cases q11 : k = (11 : Int32)
  · rw [f1, if_neg q0, if_neg q1, if_neg q2, if_neg q3, if_neg q4, if_neg q5, if_neg q6, if_neg q7, if_neg q8, if_neg q9, if_neg q10, if_pos q11, f2, if_neg q0, if_neg q1, if_neg q2, if_neg q3, if_neg q4, if_neg q5, if_neg q6, if_neg q7, if_neg q8, if_neg q9, if_neg q10, if_pos q11]; exact ⟨EAPI_VERSIONS, FAPI_VERSIONS_firstFlexibleVersion⟩
  by_cases q12 : k = (12 : Int32)
  · rw [f1, if_neg q0, if_neg q1, if_neg q2, if_neg q3, if_neg q4, if_neg q5, if_neg q6, if_neg q7, if_neg q8, if_neg q9, if_neg q10, if_neg q11, if_pos q12, f2, if_neg q0, if_neg q1, if_neg q2, if_neg q3, if_neg q4, if_neg q5, if_neg q6, if_neg q7, if_neg q8, if_neg q9, if_neg q10, if_neg q11, if_pos q12]; exact ⟨EINIT_PRODUCER_ID, FINIT_PRODUCER_ID_firstFlexibleVersion⟩
  by_cases q13 : k = (13 : Int32)
  · rw [f1, if_neg q0, if_neg q1, if_neg q2, if_neg q3, if_neg q4, if_neg q5, if_neg q6, if_neg q7, if_neg q8, if_neg q9, if_neg q10, if_neg q11, if_neg q12, if_pos q13, f2, if_neg q0, if_neg q1, if_neg q2, if_neg q3, if_neg q4, if_neg q5, if_neg q6, if_neg q7, if_neg q8, if_neg q9, if_neg q10, if_neg q11, if_neg q12, if_pos q13]; exact ⟨EADD_PARTITIONS_TO_TXN, FADD_PARTITIONS_TO_TXN_firstFlexibleVersion⟩
  by_cases q14 : k = (14 : Int32)
  · rw [f1, if_neg q0, if_neg q1, if_neg q2, if_neg q3, if_neg q4, if_neg q5, if_neg q6, if_neg q7, if_neg q8, if_neg q9, if_neg q10, if_neg q11, if_neg q12, if_neg q13, if_pos q14, f2, if_neg q0, if_neg q1, if_neg q2, if_neg q3, if_neg q4, if_neg q5, if_neg q6, if_neg q7, if_neg q8, if_neg q9, if_neg q10, if_neg q11, if_neg q12, if_neg q13, if_pos q14]; exact ⟨EADD_OFFSETS_TO_TXN, FADD_OFFSETS_TO_TXN_firstFlexibleVersion⟩
  by_cases q15 : k = (15 : Int32)
  · rw [f1, if_neg q0, if_neg q1, if_neg q2, if_neg q3, if_neg q4, if_neg q5, if_neg q6, if_neg q7, if_neg q8, if_neg q9, if_neg q10, if_neg q11, if_neg q12, if_neg q13, if_neg q14, if_pos q15, f2, if_neg q0, if_neg q1, if_neg q2, if_neg q3, if_neg q4, if_neg q5, if_neg q6, if_neg q7, if_neg q8, if_neg q9, if_neg q10, if_neg q11, if_neg q12, if_neg q13, if_neg q14, if_pos q15]; exact ⟨EEND_TXN, FEND_TXN_firstFlexibleVersion⟩
  rw [f1, if_neg q0, if_neg q1, if_neg q2, if_neg q3, if_neg q4, if_neg q5, if_neg q6, if_neg q7, if_neg q8, if_neg q9, if_neg q10, if_neg q11, if_neg q12, if_neg q13, if_neg q14, if_neg q15, f2, if_neg q0, if_neg q1, if_neg q2, if_neg q3, if_neg q4, if_neg q5, if_neg q6, if_neg q7, if_neg q8, if_neg q9, if_neg q10, if_neg q11, if_neg q12, if_neg q13, if_neg q14, if_neg q15]; exact ⟨ETXN_OFFSET_COMMIT, FTXN_OFFSET_COMMIT_firstFlexibleVersion⟩
theorem pd_0 : parseMethodDescriptor "(I)Lcom/example/idem_log/idemlog/protocol/Api;" = some ⟨[.int], some (.object "com/example/idem_log/idemlog/protocol/Api")⟩ := by decide +kernel
theorem pd_1 : parseMethodDescriptor "(I)I" = some ⟨[.int], some .int⟩ := by decide +kernel
theorem pd_2 : parseMethodDescriptor "(S)Z" = some ⟨[.short], some .boolean⟩ := by decide +kernel
theorem ef_0 (m : MethodId) (p0 : Int32) (p1 : Int32) (p2 : Int32) : entryFrame m #[(.int p0), (.int p1), (.int p2)] maxLocals = mkF m 0 #[.val (.int p0), .val (.int p1), .val (.int p2), .unset, .unset, .unset, .unset, .unset] [] := by first | (simp [entryFrame, mkF, argsToLocals, Value.category, maxLocals]; done) | rfl
def Q0 (Z : State) (p0 : Int32) (p1 : Int32) (p2 : Int32) (wPRODUCE : Addr) (wFETCH : Addr) (wAPI_VERSIONS : Addr) (wHEARTBEAT : Addr) (wINIT_PRODUCER_ID : Addr) (wADD_PARTITIONS_TO_TXN : Addr) (wMETADATA : Addr) (wSYNC_GROUP : Addr) (wTXN_OFFSET_COMMIT : Addr) (wJOIN_GROUP : Addr) (wLIST_OFFSETS : Addr) (wOFFSET_COMMIT : Addr) (wOFFSET_FETCH : Addr) (wADD_OFFSETS_TO_TXN : Addr) (wFIND_COORDINATOR : Addr) (wLEAVE_GROUP : Addr) (wEND_TXN : Addr) (h0 : Heap) (n0 : Nat) (v : Option Value) (h : Heap) (L : List Loc) : Prop := v = some (.int 1) ∧ Fr n0 L
set_option maxRecDepth 65536 in
set_option maxHeartbeats 40000000 in
theorem rm0 (l : Launch) (Z : State) (a0 : Array Value) (hw : ∀ d ∈ tables_1, d.before a0 Z = true) (ws : List Jvm.Cond) (p0 : Int32) (p1 : Int32) (p2 : Int32) (wPRODUCE : Addr) (wFETCH : Addr) (wAPI_VERSIONS : Addr) (wHEARTBEAT : Addr) (wINIT_PRODUCER_ID : Addr) (wADD_PARTITIONS_TO_TXN : Addr) (wMETADATA : Addr) (wSYNC_GROUP : Addr) (wTXN_OFFSET_COMMIT : Addr) (wJOIN_GROUP : Addr) (wLIST_OFFSETS : Addr) (wOFFSET_COMMIT : Addr) (wOFFSET_FETCH : Addr) (wADD_OFFSETS_TO_TXN : Addr) (wFIND_COORDINATOR : Addr) (wLEAVE_GROUP : Addr) (wEND_TXN : Addr) (h0 : Heap) (n0 : Nat) (Z0 : n0 ≤ h0.size) (W0 : World Z h0 wPRODUCE wFETCH wAPI_VERSIONS wHEARTBEAT wINIT_PRODUCER_ID wADD_PARTITIONS_TO_TXN wMETADATA wSYNC_GROUP wTXN_OFFSET_COMMIT wJOIN_GROUP wLIST_OFFSETS wOFFSET_COMMIT wOFFSET_FETCH wADD_OFFSETS_TO_TXN wFIND_COORDINATOR wLEAVE_GROUP wEND_TXN) :
    MetFree l x (head1 (Jvm.Cond.code x code maxLocals ret :: ws) room_1) (fun a U => a = #[(.int p0), (.int p1), (.int p2)] ∧ Z.Warmed39 U.vm ∧ U.heap = h0) (fun _ _ _ _ _ => True) (fun _ U o U' => ∃ v L, o = .returned v ∧ Q0 Z p0 p1 p2 wPRODUCE wFETCH wAPI_VERSIONS wHEARTBEAT wINIT_PRODUCER_ID wADD_PARTITIONS_TO_TXN wMETADATA wSYNC_GROUP wTXN_OFFSET_COMMIT wJOIN_GROUP wLIST_OFFSETS wOFFSET_COMMIT wOFFSET_FETCH wADD_OFFSETS_TO_TXN wFIND_COORDINATOR wLEAVE_GROUP wEND_TXN h0 n0 v U'.heap L ∧ FrameEnd U o U' L room_1.cells room_1.slots) := by
  refine MetFree.of_bodySF (plainFor_of_name pn_0) hisR ?_
  intro p e s m args below meth c s₁ Bd hml0 hP hK
  obtain ⟨rfl, hZ, hh⟩ := hP
  have hx := Bd.exec
  have hby := Bd.bytes
  have hml : c.maxLocals = 8 := hml0
  have hown : s.vm.findClass "com/example/idem_log/idemlog/protocol/ApiIsFlexiblePinLaw" = some m.cls := findClass_of_methodNamed Bd.named
  have X0 : Stand p l e room_1 s m #[(.int p0), (.int p1), (.int p2)] below meth c s₁ [] 0 0 := Stand.of_body Bd
  have e0 : s₁.heap = h0 := by rw [← hh, Bd.state]; rfl
  have N0 := Fr.nil n0
  have W1 := W0
  obtain ⟨SPRODUCE, EPRODUCE, FPRODUCE_firstFlexibleVersion, SFETCH, EFETCH, FFETCH_firstFlexibleVersion, SAPI_VERSIONS, EAPI_VERSIONS, FAPI_VERSIONS_firstFlexibleVersion, SHEARTBEAT, EHEARTBEAT, FHEARTBEAT_firstFlexibleVersion, SINIT_PRODUCER_ID, EINIT_PRODUCER_ID, FINIT_PRODUCER_ID_firstFlexibleVersion, SADD_PARTITIONS_TO_TXN, EADD_PARTITIONS_TO_TXN, FADD_PARTITIONS_TO_TXN_firstFlexibleVersion, SMETADATA, EMETADATA, FMETADATA_firstFlexibleVersion, SSYNC_GROUP, ESYNC_GROUP, FSYNC_GROUP_firstFlexibleVersion, STXN_OFFSET_COMMIT, ETXN_OFFSET_COMMIT, FTXN_OFFSET_COMMIT_firstFlexibleVersion, SJOIN_GROUP, EJOIN_GROUP, FJOIN_GROUP_firstFlexibleVersion, SLIST_OFFSETS, ELIST_OFFSETS, FLIST_OFFSETS_firstFlexibleVersion, SOFFSET_COMMIT, EOFFSET_COMMIT, FOFFSET_COMMIT_firstFlexibleVersion, SOFFSET_FETCH, EOFFSET_FETCH, FOFFSET_FETCH_firstFlexibleVersion, SADD_OFFSETS_TO_TXN, EADD_OFFSETS_TO_TXN, FADD_OFFSETS_TO_TXN_firstFlexibleVersion, SFIND_COORDINATOR, EFIND_COORDINATOR, FFIND_COORDINATOR_firstFlexibleVersion, SLEAVE_GROUP, ELEAVE_GROUP, FLEAVE_GROUP_firstFlexibleVersion, SEND_TXN, EEND_TXN, FEND_TXN_firstFlexibleVersion, -⟩ := W1
  have pre0 : ∀ t, Steps p.tables e below (s₁.setTop (mkF m 0 #[.val (.int p0), .val (.int p1), .val (.int p2), .unset, .unset, .unset, .unset, .unset] [])) t → Steps p.tables e below (s₁.setTop (entryFrame m #[(.int p0), (.int p1), (.int p2)] maxLocals)) t := fun t k => castTop (ef_0 m p0 p1 p2) k
  obtain ⟨i85, hi85⟩ : ∃ z, z = ((p0 &&& (2147483647 : Int32)) % (17 : Int32)) := ⟨_, rfl⟩
  obtain ⟨_, _, ⟨T86, L86, k86, n86⟩, -, X86, ⟨Lc86, hQ86, l86, y86, z86⟩, st86⟩ := Jvm.LawKit.callS X0 hx (y := (⟨"com/example/idem_log/idemlog/protocol/ApiIsFlexiblePinLaw", "pick", "(I)Lcom/example/idem_log/idemlog/protocol/Api;"⟩ : MethodName)) hown (mvT hZ (hw _ (List.mem_of_getElem? (i := 1) rfl))) (mvT hZ (hw _ (List.mem_of_getElem? (i := 2) rfl))) (mvT hZ (hw _ (List.mem_of_getElem? (i := 3) rfl))) (mvT hZ (hw _ (List.mem_of_getElem? (i := 4) rfl))) (by decide) (backOf (W := 0) (rm1 l Z a0 hw [] i85 wPRODUCE wFETCH wAPI_VERSIONS wHEARTBEAT wINIT_PRODUCER_ID wADD_PARTITIONS_TO_TXN wMETADATA wSYNC_GROUP wTXN_OFFSET_COMMIT wJOIN_GROUP wLIST_OFFSETS wOFFSET_COMMIT wOFFSET_FETCH wADD_OFFSETS_TO_TXN wFIND_COORDINATOR wLEAVE_GROUP wEND_TXN h0 n0 Z0 W0 ) hZ (hw _ (List.mem_of_getElem? (i := 4) rfl)) (hw _ (List.mem_of_getElem? (i := 3) rfl)) (by decide) (by decide)) (g := (mkF m 9 #[.val (.int p0), .val (.int p1), .val (.int p2), .val (.int i85), .unset, .unset, .unset, .unset] [(.int i85)])) rfl (by rw [hml]; rfl) (argsL := [(.int i85)]) (rest := []) (lenOf pd_0 rfl) rfl (by show 2 * 0 + _ ≤ _; exact Nat.le_of_eq rfl) (hb hby at_9) (fun _ _ => ⟨rfl, e0, (by decide : 0 + 0 ≤ _), (by decide : 0 + 0 ≤ _)⟩)
  dsimp only [Pt.U, Pt.locs, Pt.cells, Pt.slots] at X86 l86 y86 z86 st86 hQ86
  subst l86 y86 z86
  unfold Q1 at hQ86
  have k87 : ∀ t, Steps p.tables e below (s₁.setTop (mkF m 9 #[.val (.int p0), .val (.int p1), .val (.int p2), .val (.int i85), .unset, .unset, .unset, .unset] [(.int i85)])) t → Steps p.tables e below (s₁.setTop (entryFrame m #[(.int p0), (.int p1), (.int p2)] maxLocals)) t := fun t kt => pre0 t (by
    show Steps p.tables e below (s₁.setTop (mkF m 0 #[.val (.int p0), .val (.int p1), .val (.int p2), .unset, .unset, .unset, .unset, .unset] [])) _
    refine XS.iloadN X0.here hx rfl (hb hby at_0) rfl ?_
    show Steps p.tables e below (s₁.setTop (mkF m 1 #[.val (.int p0), .val (.int p1), .val (.int p2), .unset, .unset, .unset, .unset, .unset] [(.int p0)])) _
    refine X0.ldcInt hx hown (mvT hZ (hw _ (List.mem_of_getElem? (i := 0) rfl))) (g := (mkF m 1 #[.val (.int p0), .val (.int p1), .val (.int p2), .unset, .unset, .unset, .unset, .unset] [(.int p0)])) rfl (hb hby at_1) _ ?_
    show Steps p.tables e below (s₁.setTop (mkF m 3 #[.val (.int p0), .val (.int p1), .val (.int p2), .unset, .unset, .unset, .unset, .unset] [(.int (2147483647 : Int32)), (.int p0)])) _
    refine XS.iand X0.here hx rfl (hb hby at_3) rfl ?_
    show Steps p.tables e below (s₁.setTop (mkF m 4 #[.val (.int p0), .val (.int p1), .val (.int p2), .unset, .unset, .unset, .unset, .unset] [(.int (p0 &&& (2147483647 : Int32)))])) _
    refine XS.bipush X0.here hx rfl (hb hby at_4) ?_
    show Steps p.tables e below (s₁.setTop (mkF m 6 #[.val (.int p0), .val (.int p1), .val (.int p2), .unset, .unset, .unset, .unset, .unset] [(.int (17 : Int32)), (.int (p0 &&& (2147483647 : Int32)))])) _
    refine iremM X0 hx rfl (hb hby at_6) rfl (by decide) ?_
    rw [← hi85]
    show Steps p.tables e below (s₁.setTop (mkF m 7 #[.val (.int p0), .val (.int p1), .val (.int p2), .unset, .unset, .unset, .unset, .unset] [(.int i85)])) _
    refine XS.istoreN X0.here hx rfl (hb hby at_7) rfl (l' := #[.val (.int p0), .val (.int p1), .val (.int p2), .val (.int i85), .unset, .unset, .unset, .unset]) rfl ?_
    show Steps p.tables e below (s₁.setTop (mkF m 8 #[.val (.int p0), .val (.int p1), .val (.int p2), .val (.int i85), .unset, .unset, .unset, .unset] [])) _
    refine XS.iloadN X0.here hx rfl (hb hby at_8) rfl ?_
    exact kt)
  obtain ⟨r88, hr88⟩ : ∃ z, z = (f1 i85 wPRODUCE wFETCH wAPI_VERSIONS wHEARTBEAT wINIT_PRODUCER_ID wADD_PARTITIONS_TO_TXN wMETADATA wSYNC_GROUP wTXN_OFFSET_COMMIT wJOIN_GROUP wLIST_OFFSETS wOFFSET_COMMIT wOFFSET_FETCH wADD_OFFSETS_TO_TXN wFIND_COORDINATOR wLEAVE_GROUP wEND_TXN) := ⟨_, rfl⟩
  rw [← hr88] at hQ86
  obtain ⟨rfl, N86q, e86⟩ := hQ86
  have N86 := Fr.app N0 N86q
  obtain ⟨_, _, ⟨T89, L89, k89, n89⟩, -, X89, ⟨Lc89, hQ89, l89, y89, z89⟩, st89⟩ := Jvm.LawKit.callS X86 hx (y := (⟨"com/example/idem_log/idemlog/protocol/ApiIsFlexiblePinLaw", "first", "(I)I"⟩ : MethodName)) hown (mvT hZ (hw _ (List.mem_of_getElem? (i := 8) rfl))) (mvT hZ (hw _ (List.mem_of_getElem? (i := 9) rfl))) (mvT hZ (hw _ (List.mem_of_getElem? (i := 3) rfl))) (mvT hZ (hw _ (List.mem_of_getElem? (i := 10) rfl))) (by decide) (backOf (W := 0) (rm2 l Z a0 hw [] i85 h0 n0 Z0 ) hZ (hw _ (List.mem_of_getElem? (i := 10) rfl)) (hw _ (List.mem_of_getElem? (i := 3) rfl)) (by decide) (by decide)) (g := (mkF m 15 #[.val (.int p0), .val (.int p1), .val (.int p2), .val (.int i85), .val (.ref r88), .unset, .unset, .unset] [(.int i85)])) rfl (by rw [hml]; rfl) (argsL := [(.int i85)]) (rest := []) (lenOf pd_1 rfl) rfl (by show 2 * 0 + _ ≤ _; exact Nat.le_of_eq rfl) (hb hby at_15) (fun _ _ => ⟨rfl, e86, (by decide : 0 + 0 ≤ _), (by decide : 0 + 0 ≤ _)⟩)
  dsimp only [Pt.U, Pt.locs, Pt.cells, Pt.slots] at X89 l89 y89 z89 st89 hQ89
  subst l89 y89 z89
  unfold Q2 at hQ89
  have k90 : ∀ t, Steps p.tables e below (T86.setTop (mkF m 15 #[.val (.int p0), .val (.int p1), .val (.int p2), .val (.int i85), .val (.ref r88), .unset, .unset, .unset] [(.int i85)])) t → Steps p.tables e below (s₁.setTop (entryFrame m #[(.int p0), (.int p1), (.int p2)] maxLocals)) t := fun t kt => k87 t (by
    show Steps p.tables e below (s₁.setTop (mkF m 9 #[.val (.int p0), .val (.int p1), .val (.int p2), .val (.int i85), .unset, .unset, .unset, .unset] [(.int i85)])) _
    refine st86 _ ?_
    show Steps p.tables e below (T86.setTop (mkF m 12 #[.val (.int p0), .val (.int p1), .val (.int p2), .val (.int i85), .unset, .unset, .unset, .unset] [(.ref r88)])) _
    refine XS.astore X86.here hx rfl (hb hby at_12) rfl rfl (l' := #[.val (.int p0), .val (.int p1), .val (.int p2), .val (.int i85), .val (.ref r88), .unset, .unset, .unset]) rfl ?_
    show Steps p.tables e below (T86.setTop (mkF m 14 #[.val (.int p0), .val (.int p1), .val (.int p2), .val (.int i85), .val (.ref r88), .unset, .unset, .unset] [])) _
    refine XS.iloadN X86.here hx rfl (hb hby at_14) rfl ?_
    exact kt)
  obtain ⟨r91, hr91⟩ : ∃ z, z = (f2 i85) := ⟨_, rfl⟩
  rw [← hr91] at hQ89
  obtain ⟨rfl, N89q, e89⟩ := hQ89
  have N89 := Fr.app N86 N89q
  have PF := own_pick W0 i85
  rw [← hr88, ← hr91] at PF
  obtain ⟨E_r88, F_r88⟩ := PF
  have k92 : ∀ t, Steps p.tables e below (T89.setTop (mkF m 23 #[.val (.int p0), .val (.int p1), .val (.int p2), .val (.int i85), .val (.ref r88), .val (.int r91), .unset, .unset] [(.int (p2 &&& (1 : Int32)))])) t → Steps p.tables e below (s₁.setTop (entryFrame m #[(.int p0), (.int p1), (.int p2)] maxLocals)) t := fun t kt => k90 t (by
    show Steps p.tables e below (T86.setTop (mkF m 15 #[.val (.int p0), .val (.int p1), .val (.int p2), .val (.int i85), .val (.ref r88), .unset, .unset, .unset] [(.int i85)])) _
    refine st89 _ ?_
    show Steps p.tables e below (T89.setTop (mkF m 18 #[.val (.int p0), .val (.int p1), .val (.int p2), .val (.int i85), .val (.ref r88), .unset, .unset, .unset] [(.int r91)])) _
    refine XS.istore X89.here hx rfl (hb hby at_18) rfl (l' := #[.val (.int p0), .val (.int p1), .val (.int p2), .val (.int i85), .val (.ref r88), .val (.int r91), .unset, .unset]) rfl ?_
    show Steps p.tables e below (T89.setTop (mkF m 20 #[.val (.int p0), .val (.int p1), .val (.int p2), .val (.int i85), .val (.ref r88), .val (.int r91), .unset, .unset] [])) _
    refine XS.iloadN X89.here hx rfl (hb hby at_20) rfl ?_
    show Steps p.tables e below (T89.setTop (mkF m 21 #[.val (.int p0), .val (.int p1), .val (.int p2), .val (.int i85), .val (.ref r88), .val (.int r91), .unset, .unset] [(.int p2)])) _
    refine XS.iconst X89.here hx rfl (hb hby at_21) ?_
    show Steps p.tables e below (T89.setTop (mkF m 22 #[.val (.int p0), .val (.int p1), .val (.int p2), .val (.int i85), .val (.ref r88), .val (.int r91), .unset, .unset] [(.int (1 : Int32)), (.int p2)])) _
    refine XS.iand X89.here hx rfl (hb hby at_22) rfl ?_
    exact kt)
  by_cases hc93 : (p2 &&& (1 : Int32)) = (0 : Int32)
  · obtain ⟨i94, hi94⟩ : ∃ z, z = (p1.toInt16.toInt32) := ⟨_, rfl⟩
    have k95 : ∀ t, Steps p.tables e below (T89.setTop (mkF m 48 #[.val (.int p0), .val (.int p1), .val (.int p2), .val (.int i85), .val (.ref r88), .val (.int r91), .val (.int i94), .unset] [(.int r91), (.int i94)])) t → Steps p.tables e below (s₁.setTop (entryFrame m #[(.int p0), (.int p1), (.int p2)] maxLocals)) t := fun t kt => k92 t (by
      show Steps p.tables e below (T89.setTop (mkF m 23 #[.val (.int p0), .val (.int p1), .val (.int p2), .val (.int i85), .val (.ref r88), .val (.int r91), .unset, .unset] [(.int (p2 &&& (1 : Int32)))])) _
      refine XS.ifYes X89.here hx rfl (pc0 := 23) (pc' := 40) rfl (hb hby at_23) rfl ((if0 _ _).trans (teq (hc93 : (p2 &&& (1 : Int32)) = (0 : Int32))).1) (by decide) (by decide) ?_
      show Steps p.tables e below (T89.setTop (mkF m 40 #[.val (.int p0), .val (.int p1), .val (.int p2), .val (.int i85), .val (.ref r88), .val (.int r91), .unset, .unset] [])) _
      refine XS.iloadN X89.here hx rfl (hb hby at_40) rfl ?_
      show Steps p.tables e below (T89.setTop (mkF m 41 #[.val (.int p0), .val (.int p1), .val (.int p2), .val (.int i85), .val (.ref r88), .val (.int r91), .unset, .unset] [(.int p1)])) _
      refine XS.i2s X89.here hx rfl (hb hby at_41) rfl ?_
      rw [← hi94]
      show Steps p.tables e below (T89.setTop (mkF m 42 #[.val (.int p0), .val (.int p1), .val (.int p2), .val (.int i85), .val (.ref r88), .val (.int r91), .unset, .unset] [(.int i94)])) _
      refine XS.istore X89.here hx rfl (hb hby at_42) rfl (l' := #[.val (.int p0), .val (.int p1), .val (.int p2), .val (.int i85), .val (.ref r88), .val (.int r91), .val (.int i94), .unset]) rfl ?_
      show Steps p.tables e below (T89.setTop (mkF m 44 #[.val (.int p0), .val (.int p1), .val (.int p2), .val (.int i85), .val (.ref r88), .val (.int r91), .val (.int i94), .unset] [])) _
      refine XS.iload X89.here hx rfl (hb hby at_44) rfl ?_
      show Steps p.tables e below (T89.setTop (mkF m 46 #[.val (.int p0), .val (.int p1), .val (.int p2), .val (.int i85), .val (.ref r88), .val (.int r91), .val (.int i94), .unset] [(.int i94)])) _
      refine XS.iload X89.here hx rfl (hb hby at_46) rfl ?_
      exact kt)
    by_cases hc96 : i94 < r91
    · obtain ⟨cq97, kq97, q97a, q97b, q97c⟩ := isOf hZ e89 E_r88
      obtain ⟨_, _, ⟨T97, L97, k97, n97⟩, -, X97, ⟨Lc97, hQ97, l97, y97, z97⟩, st97⟩ := X89.virtualBack hx (y := (⟨"com/example/idem_log/idemlog/protocol/Api", "isFlexible", "(S)Z"⟩ : MethodName)) (z := (⟨"com/example/idem_log/idemlog/protocol/Api", "isFlexible", "(S)Z"⟩ : MethodName)) hown (mvT hZ (hw _ (List.mem_of_getElem? (i := 11) rfl))) (mvT hZ (hw _ (List.mem_of_getElem? (i := 12) rfl))) (notFace_of_selects (args := #[]) (mvT hZ (hw _ (List.mem_of_getElem? (i := 14) rfl)))) (mvT hZ (hw _ (List.mem_of_getElem? (i := 14) rfl))) (mvT hZ (hw _ (List.mem_of_getElem? (i := 13) rfl))) (by decide) (backOf (W := 0) (rm3 l Z a0 hw [] r88 i94 r91 h0 n0 Z0 F_r88) hZ (hw _ (List.mem_of_getElem? (i := 15) rfl)) (hw _ (List.mem_of_getElem? (i := 6) rfl)) (by decide) (by decide)) q97a q97c (g := (mkF m 62 #[.val (.int p0), .val (.int p1), .val (.int p2), .val (.int i85), .val (.ref r88), .val (.int r91), .val (.int i94), .val (.int (0 : Int32))] [(.int i94), (.ref r88)])) rfl (by rw [hml]; rfl) (Steps.refl _) (argsL := [(.int i94)]) (rest := []) (lenOf pd_2 rfl) rfl (by show 2 * 0 + _ ≤ _; exact Nat.le_of_eq rfl) (hb hby at_62) (fun _ _ => ⟨rfl, e89, (by decide : 0 + 0 ≤ _), (by decide : 0 + 0 ≤ _)⟩)
      dsimp only [Pt.U, Pt.locs, Pt.cells, Pt.slots] at X97 l97 y97 z97 st97 hQ97
      subst l97 y97 z97
      unfold Q3 at hQ97
      have k98 : ∀ t, Steps p.tables e below (T89.setTop (mkF m 62 #[.val (.int p0), .val (.int p1), .val (.int p2), .val (.int i85), .val (.ref r88), .val (.int r91), .val (.int i94), .val (.int (0 : Int32))] [(.int i94), (.ref r88)])) t → Steps p.tables e below (s₁.setTop (entryFrame m #[(.int p0), (.int p1), (.int p2)] maxLocals)) t := fun t kt => k95 t (by
        show Steps p.tables e below (T89.setTop (mkF m 48 #[.val (.int p0), .val (.int p1), .val (.int p2), .val (.int i85), .val (.ref r88), .val (.int r91), .val (.int i94), .unset] [(.int r91), (.int i94)])) _
        refine XS.icmpYes X89.here hx rfl (pc0 := 48) (pc' := 55) rfl (hb hby at_48) rfl (tlt (hc96 : i94 < r91)).1 (by decide) (by decide) ?_
        show Steps p.tables e below (T89.setTop (mkF m 55 #[.val (.int p0), .val (.int p1), .val (.int p2), .val (.int i85), .val (.ref r88), .val (.int r91), .val (.int i94), .unset] [])) _
        refine XS.iconst X89.here hx rfl (hb hby at_55) ?_
        show Steps p.tables e below (T89.setTop (mkF m 56 #[.val (.int p0), .val (.int p1), .val (.int p2), .val (.int i85), .val (.ref r88), .val (.int r91), .val (.int i94), .unset] [(.int (0 : Int32))])) _
        refine XS.istore X89.here hx rfl (hb hby at_56) rfl (l' := #[.val (.int p0), .val (.int p1), .val (.int p2), .val (.int i85), .val (.ref r88), .val (.int r91), .val (.int i94), .val (.int (0 : Int32))]) rfl ?_
        show Steps p.tables e below (T89.setTop (mkF m 58 #[.val (.int p0), .val (.int p1), .val (.int p2), .val (.int i85), .val (.ref r88), .val (.int r91), .val (.int i94), .val (.int (0 : Int32))] [])) _
        refine XS.aload X89.here hx rfl (hb hby at_58) rfl rfl ?_
        show Steps p.tables e below (T89.setTop (mkF m 60 #[.val (.int p0), .val (.int p1), .val (.int p2), .val (.int i85), .val (.ref r88), .val (.int r91), .val (.int i94), .val (.int (0 : Int32))] [(.ref r88)])) _
        refine XS.iload X89.here hx rfl (hb hby at_60) rfl ?_
        exact kt)
      rw [((by rw [f3, if_pos (hc96 : i94 < r91)]) : (f3 r88 i94 r91) = (0 : Int32))] at hQ97
      obtain ⟨rfl, N97q, e97⟩ := hQ97
      have N97 := Fr.app N89 N97q
      obtain ⟨fs, hr, hrun, hended, hW, hsame⟩ := X97.leave (v := some (.int (1 : Int32))) (fun h => by rw [Bd.returns] at h; cases h)
      refine ⟨_, _, k98 _ ?_, hrun, hended, _, _, rfl, ?_, ⟨_, rfl⟩, hW, hsame.mono (by decide) (by decide)⟩
      · show Steps p.tables e below (T89.setTop (mkF m 62 #[.val (.int p0), .val (.int p1), .val (.int p2), .val (.int i85), .val (.ref r88), .val (.int r91), .val (.int i94), .val (.int (0 : Int32))] [(.int i94), (.ref r88)])) _
        refine st97.trans ?_
        show Steps p.tables e below (T97.setTop (mkF m 65 #[.val (.int p0), .val (.int p1), .val (.int p2), .val (.int i85), .val (.ref r88), .val (.int r91), .val (.int i94), .val (.int (0 : Int32))] [(.int (0 : Int32))])) _
        refine XS.iload X97.here hx rfl (hb hby at_65) rfl ?_
        show Steps p.tables e below (T97.setTop (mkF m 67 #[.val (.int p0), .val (.int p1), .val (.int p2), .val (.int i85), .val (.ref r88), .val (.int r91), .val (.int i94), .val (.int (0 : Int32))] [(.int (0 : Int32)), (.int (0 : Int32))])) _
        refine XS.icmpNo X97.here hx rfl (hb hby at_67) rfl (teq (rfl : (0 : Int32) = (0 : Int32))).2 ?_
        show Steps p.tables e below (T97.setTop (mkF m 70 #[.val (.int p0), .val (.int p1), .val (.int p2), .val (.int i85), .val (.ref r88), .val (.int r91), .val (.int i94), .val (.int (0 : Int32))] [])) _
        refine XS.iconst X97.here hx rfl (hb hby at_70) ?_
        show Steps p.tables e below (T97.setTop (mkF m 71 #[.val (.int p0), .val (.int p1), .val (.int p2), .val (.int i85), .val (.ref r88), .val (.int r91), .val (.int i94), .val (.int (0 : Int32))] [(.int (1 : Int32))])) _
        refine XS.goto X97.here hx rfl (pc0 := 71) (pc' := 75) rfl (hb hby at_71) (by decide) (by decide) ?_
        show Steps p.tables e below (T97.setTop (mkF m 75 #[.val (.int p0), .val (.int p1), .val (.int p2), .val (.int i85), .val (.ref r88), .val (.int r91), .val (.int i94), .val (.int (0 : Int32))] [(.int (1 : Int32))])) _
        exact retN X97 hx (t := .boolean) Bd.returns (by simp) (hb hby at_75) hr
      · show Q0 Z p0 p1 p2 wPRODUCE wFETCH wAPI_VERSIONS wHEARTBEAT wINIT_PRODUCER_ID wADD_PARTITIONS_TO_TXN wMETADATA wSYNC_GROUP wTXN_OFFSET_COMMIT wJOIN_GROUP wLIST_OFFSETS wOFFSET_COMMIT wOFFSET_FETCH wADD_OFFSETS_TO_TXN wFIND_COORDINATOR wLEAVE_GROUP wEND_TXN h0 n0 _ T97.heap _
        rw [e97]
        exact ⟨rfl, N97⟩
    · obtain ⟨cq99, kq99, q99a, q99b, q99c⟩ := isOf hZ e89 E_r88
      obtain ⟨_, _, ⟨T99, L99, k99, n99⟩, -, X99, ⟨Lc99, hQ99, l99, y99, z99⟩, st99⟩ := X89.virtualBack hx (y := (⟨"com/example/idem_log/idemlog/protocol/Api", "isFlexible", "(S)Z"⟩ : MethodName)) (z := (⟨"com/example/idem_log/idemlog/protocol/Api", "isFlexible", "(S)Z"⟩ : MethodName)) hown (mvT hZ (hw _ (List.mem_of_getElem? (i := 11) rfl))) (mvT hZ (hw _ (List.mem_of_getElem? (i := 12) rfl))) (notFace_of_selects (args := #[]) (mvT hZ (hw _ (List.mem_of_getElem? (i := 14) rfl)))) (mvT hZ (hw _ (List.mem_of_getElem? (i := 14) rfl))) (mvT hZ (hw _ (List.mem_of_getElem? (i := 13) rfl))) (by decide) (backOf (W := 0) (rm3 l Z a0 hw [] r88 i94 r91 h0 n0 Z0 F_r88) hZ (hw _ (List.mem_of_getElem? (i := 15) rfl)) (hw _ (List.mem_of_getElem? (i := 6) rfl)) (by decide) (by decide)) q99a q99c (g := (mkF m 62 #[.val (.int p0), .val (.int p1), .val (.int p2), .val (.int i85), .val (.ref r88), .val (.int r91), .val (.int i94), .val (.int (1 : Int32))] [(.int i94), (.ref r88)])) rfl (by rw [hml]; rfl) (Steps.refl _) (argsL := [(.int i94)]) (rest := []) (lenOf pd_2 rfl) rfl (by show 2 * 0 + _ ≤ _; exact Nat.le_of_eq rfl) (hb hby at_62) (fun _ _ => ⟨rfl, e89, (by decide : 0 + 0 ≤ _), (by decide : 0 + 0 ≤ _)⟩)
      dsimp only [Pt.U, Pt.locs, Pt.cells, Pt.slots] at X99 l99 y99 z99 st99 hQ99
      subst l99 y99 z99
      unfold Q3 at hQ99
      have k100 : ∀ t, Steps p.tables e below (T89.setTop (mkF m 62 #[.val (.int p0), .val (.int p1), .val (.int p2), .val (.int i85), .val (.ref r88), .val (.int r91), .val (.int i94), .val (.int (1 : Int32))] [(.int i94), (.ref r88)])) t → Steps p.tables e below (s₁.setTop (entryFrame m #[(.int p0), (.int p1), (.int p2)] maxLocals)) t := fun t kt => k95 t (by
        show Steps p.tables e below (T89.setTop (mkF m 48 #[.val (.int p0), .val (.int p1), .val (.int p2), .val (.int i85), .val (.ref r88), .val (.int r91), .val (.int i94), .unset] [(.int r91), (.int i94)])) _
        refine XS.icmpNo X89.here hx rfl (hb hby at_48) rfl (flt (hc96 : ¬ (i94 < r91))).1 ?_
        show Steps p.tables e below (T89.setTop (mkF m 51 #[.val (.int p0), .val (.int p1), .val (.int p2), .val (.int i85), .val (.ref r88), .val (.int r91), .val (.int i94), .unset] [])) _
        refine XS.iconst X89.here hx rfl (hb hby at_51) ?_
        show Steps p.tables e below (T89.setTop (mkF m 52 #[.val (.int p0), .val (.int p1), .val (.int p2), .val (.int i85), .val (.ref r88), .val (.int r91), .val (.int i94), .unset] [(.int (1 : Int32))])) _
        refine XS.goto X89.here hx rfl (pc0 := 52) (pc' := 56) rfl (hb hby at_52) (by decide) (by decide) ?_
        show Steps p.tables e below (T89.setTop (mkF m 56 #[.val (.int p0), .val (.int p1), .val (.int p2), .val (.int i85), .val (.ref r88), .val (.int r91), .val (.int i94), .unset] [(.int (1 : Int32))])) _
        refine XS.istore X89.here hx rfl (hb hby at_56) rfl (l' := #[.val (.int p0), .val (.int p1), .val (.int p2), .val (.int i85), .val (.ref r88), .val (.int r91), .val (.int i94), .val (.int (1 : Int32))]) rfl ?_
        show Steps p.tables e below (T89.setTop (mkF m 58 #[.val (.int p0), .val (.int p1), .val (.int p2), .val (.int i85), .val (.ref r88), .val (.int r91), .val (.int i94), .val (.int (1 : Int32))] [])) _
        refine XS.aload X89.here hx rfl (hb hby at_58) rfl rfl ?_
        show Steps p.tables e below (T89.setTop (mkF m 60 #[.val (.int p0), .val (.int p1), .val (.int p2), .val (.int i85), .val (.ref r88), .val (.int r91), .val (.int i94), .val (.int (1 : Int32))] [(.ref r88)])) _
        refine XS.iload X89.here hx rfl (hb hby at_60) rfl ?_
        exact kt)
      rw [((by rw [f3, if_neg (hc96 : ¬ (i94 < r91))]) : (f3 r88 i94 r91) = (1 : Int32))] at hQ99
      obtain ⟨rfl, N99q, e99⟩ := hQ99
      have N99 := Fr.app N89 N99q
      obtain ⟨fs, hr, hrun, hended, hW, hsame⟩ := X99.leave (v := some (.int (1 : Int32))) (fun h => by rw [Bd.returns] at h; cases h)
      refine ⟨_, _, k100 _ ?_, hrun, hended, _, _, rfl, ?_, ⟨_, rfl⟩, hW, hsame.mono (by decide) (by decide)⟩
      · show Steps p.tables e below (T89.setTop (mkF m 62 #[.val (.int p0), .val (.int p1), .val (.int p2), .val (.int i85), .val (.ref r88), .val (.int r91), .val (.int i94), .val (.int (1 : Int32))] [(.int i94), (.ref r88)])) _
        refine st99.trans ?_
        show Steps p.tables e below (T99.setTop (mkF m 65 #[.val (.int p0), .val (.int p1), .val (.int p2), .val (.int i85), .val (.ref r88), .val (.int r91), .val (.int i94), .val (.int (1 : Int32))] [(.int (1 : Int32))])) _
        refine XS.iload X99.here hx rfl (hb hby at_65) rfl ?_
        show Steps p.tables e below (T99.setTop (mkF m 67 #[.val (.int p0), .val (.int p1), .val (.int p2), .val (.int i85), .val (.ref r88), .val (.int r91), .val (.int i94), .val (.int (1 : Int32))] [(.int (1 : Int32)), (.int (1 : Int32))])) _
        refine XS.icmpNo X99.here hx rfl (hb hby at_67) rfl (teq (rfl : (1 : Int32) = (1 : Int32))).2 ?_
        show Steps p.tables e below (T99.setTop (mkF m 70 #[.val (.int p0), .val (.int p1), .val (.int p2), .val (.int i85), .val (.ref r88), .val (.int r91), .val (.int i94), .val (.int (1 : Int32))] [])) _
        refine XS.iconst X99.here hx rfl (hb hby at_70) ?_
        show Steps p.tables e below (T99.setTop (mkF m 71 #[.val (.int p0), .val (.int p1), .val (.int p2), .val (.int i85), .val (.ref r88), .val (.int r91), .val (.int i94), .val (.int (1 : Int32))] [(.int (1 : Int32))])) _
        refine XS.goto X99.here hx rfl (pc0 := 71) (pc' := 75) rfl (hb hby at_71) (by decide) (by decide) ?_
        show Steps p.tables e below (T99.setTop (mkF m 75 #[.val (.int p0), .val (.int p1), .val (.int p2), .val (.int i85), .val (.ref r88), .val (.int r91), .val (.int i94), .val (.int (1 : Int32))] [(.int (1 : Int32))])) _
        exact retN X99 hx (t := .boolean) Bd.returns (by simp) (hb hby at_75) hr
      · show Q0 Z p0 p1 p2 wPRODUCE wFETCH wAPI_VERSIONS wHEARTBEAT wINIT_PRODUCER_ID wADD_PARTITIONS_TO_TXN wMETADATA wSYNC_GROUP wTXN_OFFSET_COMMIT wJOIN_GROUP wLIST_OFFSETS wOFFSET_COMMIT wOFFSET_FETCH wADD_OFFSETS_TO_TXN wFIND_COORDINATOR wLEAVE_GROUP wEND_TXN h0 n0 _ T99.heap _
        rw [e99]
        exact ⟨rfl, N99⟩
  · obtain ⟨i101, hi101⟩ : ∃ z, z = ((r91 + ((p1 &&& (3 : Int32)) - (2 : Int32))).toInt16.toInt32) := ⟨_, rfl⟩
    have k102 : ∀ t, Steps p.tables e below (T89.setTop (mkF m 48 #[.val (.int p0), .val (.int p1), .val (.int p2), .val (.int i85), .val (.ref r88), .val (.int r91), .val (.int i101), .unset] [(.int r91), (.int i101)])) t → Steps p.tables e below (s₁.setTop (entryFrame m #[(.int p0), (.int p1), (.int p2)] maxLocals)) t := fun t kt => k92 t (by
      show Steps p.tables e below (T89.setTop (mkF m 23 #[.val (.int p0), .val (.int p1), .val (.int p2), .val (.int i85), .val (.ref r88), .val (.int r91), .unset, .unset] [(.int (p2 &&& (1 : Int32)))])) _
      refine XS.ifNo X89.here hx rfl (hb hby at_23) rfl ((if0 _ _).trans (feq (hc93 : ¬ ((p2 &&& (1 : Int32)) = (0 : Int32)))).1) ?_
      show Steps p.tables e below (T89.setTop (mkF m 26 #[.val (.int p0), .val (.int p1), .val (.int p2), .val (.int i85), .val (.ref r88), .val (.int r91), .unset, .unset] [])) _
      refine XS.iload X89.here hx rfl (hb hby at_26) rfl ?_
      show Steps p.tables e below (T89.setTop (mkF m 28 #[.val (.int p0), .val (.int p1), .val (.int p2), .val (.int i85), .val (.ref r88), .val (.int r91), .unset, .unset] [(.int r91)])) _
      refine XS.iloadN X89.here hx rfl (hb hby at_28) rfl ?_
      show Steps p.tables e below (T89.setTop (mkF m 29 #[.val (.int p0), .val (.int p1), .val (.int p2), .val (.int i85), .val (.ref r88), .val (.int r91), .unset, .unset] [(.int p1), (.int r91)])) _
      refine XS.iconst X89.here hx rfl (hb hby at_29) ?_
      show Steps p.tables e below (T89.setTop (mkF m 30 #[.val (.int p0), .val (.int p1), .val (.int p2), .val (.int i85), .val (.ref r88), .val (.int r91), .unset, .unset] [(.int (3 : Int32)), (.int p1), (.int r91)])) _
      refine XS.iand X89.here hx rfl (hb hby at_30) rfl ?_
      show Steps p.tables e below (T89.setTop (mkF m 31 #[.val (.int p0), .val (.int p1), .val (.int p2), .val (.int i85), .val (.ref r88), .val (.int r91), .unset, .unset] [(.int (p1 &&& (3 : Int32))), (.int r91)])) _
      refine XS.iconst X89.here hx rfl (hb hby at_31) ?_
      show Steps p.tables e below (T89.setTop (mkF m 32 #[.val (.int p0), .val (.int p1), .val (.int p2), .val (.int i85), .val (.ref r88), .val (.int r91), .unset, .unset] [(.int (2 : Int32)), (.int (p1 &&& (3 : Int32))), (.int r91)])) _
      refine XS.isub X89.here hx rfl (hb hby at_32) rfl ?_
      show Steps p.tables e below (T89.setTop (mkF m 33 #[.val (.int p0), .val (.int p1), .val (.int p2), .val (.int i85), .val (.ref r88), .val (.int r91), .unset, .unset] [(.int ((p1 &&& (3 : Int32)) - (2 : Int32))), (.int r91)])) _
      refine XS.iadd X89.here hx rfl (hb hby at_33) rfl ?_
      show Steps p.tables e below (T89.setTop (mkF m 34 #[.val (.int p0), .val (.int p1), .val (.int p2), .val (.int i85), .val (.ref r88), .val (.int r91), .unset, .unset] [(.int (r91 + ((p1 &&& (3 : Int32)) - (2 : Int32))))])) _
      refine XS.i2s X89.here hx rfl (hb hby at_34) rfl ?_
      rw [← hi101]
      show Steps p.tables e below (T89.setTop (mkF m 35 #[.val (.int p0), .val (.int p1), .val (.int p2), .val (.int i85), .val (.ref r88), .val (.int r91), .unset, .unset] [(.int i101)])) _
      refine XS.istore X89.here hx rfl (hb hby at_35) rfl (l' := #[.val (.int p0), .val (.int p1), .val (.int p2), .val (.int i85), .val (.ref r88), .val (.int r91), .val (.int i101), .unset]) rfl ?_
      show Steps p.tables e below (T89.setTop (mkF m 37 #[.val (.int p0), .val (.int p1), .val (.int p2), .val (.int i85), .val (.ref r88), .val (.int r91), .val (.int i101), .unset] [])) _
      refine XS.goto X89.here hx rfl (pc0 := 37) (pc' := 44) rfl (hb hby at_37) (by decide) (by decide) ?_
      show Steps p.tables e below (T89.setTop (mkF m 44 #[.val (.int p0), .val (.int p1), .val (.int p2), .val (.int i85), .val (.ref r88), .val (.int r91), .val (.int i101), .unset] [])) _
      refine XS.iload X89.here hx rfl (hb hby at_44) rfl ?_
      show Steps p.tables e below (T89.setTop (mkF m 46 #[.val (.int p0), .val (.int p1), .val (.int p2), .val (.int i85), .val (.ref r88), .val (.int r91), .val (.int i101), .unset] [(.int i101)])) _
      refine XS.iload X89.here hx rfl (hb hby at_46) rfl ?_
      exact kt)
    by_cases hc103 : i101 < r91
    · obtain ⟨cq104, kq104, q104a, q104b, q104c⟩ := isOf hZ e89 E_r88
      obtain ⟨_, _, ⟨T104, L104, k104, n104⟩, -, X104, ⟨Lc104, hQ104, l104, y104, z104⟩, st104⟩ := X89.virtualBack hx (y := (⟨"com/example/idem_log/idemlog/protocol/Api", "isFlexible", "(S)Z"⟩ : MethodName)) (z := (⟨"com/example/idem_log/idemlog/protocol/Api", "isFlexible", "(S)Z"⟩ : MethodName)) hown (mvT hZ (hw _ (List.mem_of_getElem? (i := 11) rfl))) (mvT hZ (hw _ (List.mem_of_getElem? (i := 12) rfl))) (notFace_of_selects (args := #[]) (mvT hZ (hw _ (List.mem_of_getElem? (i := 14) rfl)))) (mvT hZ (hw _ (List.mem_of_getElem? (i := 14) rfl))) (mvT hZ (hw _ (List.mem_of_getElem? (i := 13) rfl))) (by decide) (backOf (W := 0) (rm3 l Z a0 hw [] r88 i101 r91 h0 n0 Z0 F_r88) hZ (hw _ (List.mem_of_getElem? (i := 15) rfl)) (hw _ (List.mem_of_getElem? (i := 6) rfl)) (by decide) (by decide)) q104a q104c (g := (mkF m 62 #[.val (.int p0), .val (.int p1), .val (.int p2), .val (.int i85), .val (.ref r88), .val (.int r91), .val (.int i101), .val (.int (0 : Int32))] [(.int i101), (.ref r88)])) rfl (by rw [hml]; rfl) (Steps.refl _) (argsL := [(.int i101)]) (rest := []) (lenOf pd_2 rfl) rfl (by show 2 * 0 + _ ≤ _; exact Nat.le_of_eq rfl) (hb hby at_62) (fun _ _ => ⟨rfl, e89, (by decide : 0 + 0 ≤ _), (by decide : 0 + 0 ≤ _)⟩)
      dsimp only [Pt.U, Pt.locs, Pt.cells, Pt.slots] at X104 l104 y104 z104 st104 hQ104
      subst l104 y104 z104
      unfold Q3 at hQ104
      have k105 : ∀ t, Steps p.tables e below (T89.setTop (mkF m 62 #[.val (.int p0), .val (.int p1), .val (.int p2), .val (.int i85), .val (.ref r88), .val (.int r91), .val (.int i101), .val (.int (0 : Int32))] [(.int i101), (.ref r88)])) t → Steps p.tables e below (s₁.setTop (entryFrame m #[(.int p0), (.int p1), (.int p2)] maxLocals)) t := fun t kt => k102 t (by
        show Steps p.tables e below (T89.setTop (mkF m 48 #[.val (.int p0), .val (.int p1), .val (.int p2), .val (.int i85), .val (.ref r88), .val (.int r91), .val (.int i101), .unset] [(.int r91), (.int i101)])) _
        refine XS.icmpYes X89.here hx rfl (pc0 := 48) (pc' := 55) rfl (hb hby at_48) rfl (tlt (hc103 : i101 < r91)).1 (by decide) (by decide) ?_
        show Steps p.tables e below (T89.setTop (mkF m 55 #[.val (.int p0), .val (.int p1), .val (.int p2), .val (.int i85), .val (.ref r88), .val (.int r91), .val (.int i101), .unset] [])) _
        refine XS.iconst X89.here hx rfl (hb hby at_55) ?_
        show Steps p.tables e below (T89.setTop (mkF m 56 #[.val (.int p0), .val (.int p1), .val (.int p2), .val (.int i85), .val (.ref r88), .val (.int r91), .val (.int i101), .unset] [(.int (0 : Int32))])) _
        refine XS.istore X89.here hx rfl (hb hby at_56) rfl (l' := #[.val (.int p0), .val (.int p1), .val (.int p2), .val (.int i85), .val (.ref r88), .val (.int r91), .val (.int i101), .val (.int (0 : Int32))]) rfl ?_
        show Steps p.tables e below (T89.setTop (mkF m 58 #[.val (.int p0), .val (.int p1), .val (.int p2), .val (.int i85), .val (.ref r88), .val (.int r91), .val (.int i101), .val (.int (0 : Int32))] [])) _
        refine XS.aload X89.here hx rfl (hb hby at_58) rfl rfl ?_
        show Steps p.tables e below (T89.setTop (mkF m 60 #[.val (.int p0), .val (.int p1), .val (.int p2), .val (.int i85), .val (.ref r88), .val (.int r91), .val (.int i101), .val (.int (0 : Int32))] [(.ref r88)])) _
        refine XS.iload X89.here hx rfl (hb hby at_60) rfl ?_
        exact kt)
      rw [((by rw [f3, if_pos (hc103 : i101 < r91)]) : (f3 r88 i101 r91) = (0 : Int32))] at hQ104
      obtain ⟨rfl, N104q, e104⟩ := hQ104
      have N104 := Fr.app N89 N104q
      obtain ⟨fs, hr, hrun, hended, hW, hsame⟩ := X104.leave (v := some (.int (1 : Int32))) (fun h => by rw [Bd.returns] at h; cases h)
      refine ⟨_, _, k105 _ ?_, hrun, hended, _, _, rfl, ?_, ⟨_, rfl⟩, hW, hsame.mono (by decide) (by decide)⟩
      · show Steps p.tables e below (T89.setTop (mkF m 62 #[.val (.int p0), .val (.int p1), .val (.int p2), .val (.int i85), .val (.ref r88), .val (.int r91), .val (.int i101), .val (.int (0 : Int32))] [(.int i101), (.ref r88)])) _
        refine st104.trans ?_
        show Steps p.tables e below (T104.setTop (mkF m 65 #[.val (.int p0), .val (.int p1), .val (.int p2), .val (.int i85), .val (.ref r88), .val (.int r91), .val (.int i101), .val (.int (0 : Int32))] [(.int (0 : Int32))])) _
        refine XS.iload X104.here hx rfl (hb hby at_65) rfl ?_
        show Steps p.tables e below (T104.setTop (mkF m 67 #[.val (.int p0), .val (.int p1), .val (.int p2), .val (.int i85), .val (.ref r88), .val (.int r91), .val (.int i101), .val (.int (0 : Int32))] [(.int (0 : Int32)), (.int (0 : Int32))])) _
        refine XS.icmpNo X104.here hx rfl (hb hby at_67) rfl (teq (rfl : (0 : Int32) = (0 : Int32))).2 ?_
        show Steps p.tables e below (T104.setTop (mkF m 70 #[.val (.int p0), .val (.int p1), .val (.int p2), .val (.int i85), .val (.ref r88), .val (.int r91), .val (.int i101), .val (.int (0 : Int32))] [])) _
        refine XS.iconst X104.here hx rfl (hb hby at_70) ?_
        show Steps p.tables e below (T104.setTop (mkF m 71 #[.val (.int p0), .val (.int p1), .val (.int p2), .val (.int i85), .val (.ref r88), .val (.int r91), .val (.int i101), .val (.int (0 : Int32))] [(.int (1 : Int32))])) _
        refine XS.goto X104.here hx rfl (pc0 := 71) (pc' := 75) rfl (hb hby at_71) (by decide) (by decide) ?_
        show Steps p.tables e below (T104.setTop (mkF m 75 #[.val (.int p0), .val (.int p1), .val (.int p2), .val (.int i85), .val (.ref r88), .val (.int r91), .val (.int i101), .val (.int (0 : Int32))] [(.int (1 : Int32))])) _
        exact retN X104 hx (t := .boolean) Bd.returns (by simp) (hb hby at_75) hr
      · show Q0 Z p0 p1 p2 wPRODUCE wFETCH wAPI_VERSIONS wHEARTBEAT wINIT_PRODUCER_ID wADD_PARTITIONS_TO_TXN wMETADATA wSYNC_GROUP wTXN_OFFSET_COMMIT wJOIN_GROUP wLIST_OFFSETS wOFFSET_COMMIT wOFFSET_FETCH wADD_OFFSETS_TO_TXN wFIND_COORDINATOR wLEAVE_GROUP wEND_TXN h0 n0 _ T104.heap _
        rw [e104]
        exact ⟨rfl, N104⟩
    · obtain ⟨cq106, kq106, q106a, q106b, q106c⟩ := isOf hZ e89 E_r88
      obtain ⟨_, _, ⟨T106, L106, k106, n106⟩, -, X106, ⟨Lc106, hQ106, l106, y106, z106⟩, st106⟩ := X89.virtualBack hx (y := (⟨"com/example/idem_log/idemlog/protocol/Api", "isFlexible", "(S)Z"⟩ : MethodName)) (z := (⟨"com/example/idem_log/idemlog/protocol/Api", "isFlexible", "(S)Z"⟩ : MethodName)) hown (mvT hZ (hw _ (List.mem_of_getElem? (i := 11) rfl))) (mvT hZ (hw _ (List.mem_of_getElem? (i := 12) rfl))) (notFace_of_selects (args := #[]) (mvT hZ (hw _ (List.mem_of_getElem? (i := 14) rfl)))) (mvT hZ (hw _ (List.mem_of_getElem? (i := 14) rfl))) (mvT hZ (hw _ (List.mem_of_getElem? (i := 13) rfl))) (by decide) (backOf (W := 0) (rm3 l Z a0 hw [] r88 i101 r91 h0 n0 Z0 F_r88) hZ (hw _ (List.mem_of_getElem? (i := 15) rfl)) (hw _ (List.mem_of_getElem? (i := 6) rfl)) (by decide) (by decide)) q106a q106c (g := (mkF m 62 #[.val (.int p0), .val (.int p1), .val (.int p2), .val (.int i85), .val (.ref r88), .val (.int r91), .val (.int i101), .val (.int (1 : Int32))] [(.int i101), (.ref r88)])) rfl (by rw [hml]; rfl) (Steps.refl _) (argsL := [(.int i101)]) (rest := []) (lenOf pd_2 rfl) rfl (by show 2 * 0 + _ ≤ _; exact Nat.le_of_eq rfl) (hb hby at_62) (fun _ _ => ⟨rfl, e89, (by decide : 0 + 0 ≤ _), (by decide : 0 + 0 ≤ _)⟩)
      dsimp only [Pt.U, Pt.locs, Pt.cells, Pt.slots] at X106 l106 y106 z106 st106 hQ106
      subst l106 y106 z106
      unfold Q3 at hQ106
      have k107 : ∀ t, Steps p.tables e below (T89.setTop (mkF m 62 #[.val (.int p0), .val (.int p1), .val (.int p2), .val (.int i85), .val (.ref r88), .val (.int r91), .val (.int i101), .val (.int (1 : Int32))] [(.int i101), (.ref r88)])) t → Steps p.tables e below (s₁.setTop (entryFrame m #[(.int p0), (.int p1), (.int p2)] maxLocals)) t := fun t kt => k102 t (by
        show Steps p.tables e below (T89.setTop (mkF m 48 #[.val (.int p0), .val (.int p1), .val (.int p2), .val (.int i85), .val (.ref r88), .val (.int r91), .val (.int i101), .unset] [(.int r91), (.int i101)])) _
        refine XS.icmpNo X89.here hx rfl (hb hby at_48) rfl (flt (hc103 : ¬ (i101 < r91))).1 ?_
        show Steps p.tables e below (T89.setTop (mkF m 51 #[.val (.int p0), .val (.int p1), .val (.int p2), .val (.int i85), .val (.ref r88), .val (.int r91), .val (.int i101), .unset] [])) _
        refine XS.iconst X89.here hx rfl (hb hby at_51) ?_
        show Steps p.tables e below (T89.setTop (mkF m 52 #[.val (.int p0), .val (.int p1), .val (.int p2), .val (.int i85), .val (.ref r88), .val (.int r91), .val (.int i101), .unset] [(.int (1 : Int32))])) _
        refine XS.goto X89.here hx rfl (pc0 := 52) (pc' := 56) rfl (hb hby at_52) (by decide) (by decide) ?_
        show Steps p.tables e below (T89.setTop (mkF m 56 #[.val (.int p0), .val (.int p1), .val (.int p2), .val (.int i85), .val (.ref r88), .val (.int r91), .val (.int i101), .unset] [(.int (1 : Int32))])) _
        refine XS.istore X89.here hx rfl (hb hby at_56) rfl (l' := #[.val (.int p0), .val (.int p1), .val (.int p2), .val (.int i85), .val (.ref r88), .val (.int r91), .val (.int i101), .val (.int (1 : Int32))]) rfl ?_
        show Steps p.tables e below (T89.setTop (mkF m 58 #[.val (.int p0), .val (.int p1), .val (.int p2), .val (.int i85), .val (.ref r88), .val (.int r91), .val (.int i101), .val (.int (1 : Int32))] [])) _
        refine XS.aload X89.here hx rfl (hb hby at_58) rfl rfl ?_
        show Steps p.tables e below (T89.setTop (mkF m 60 #[.val (.int p0), .val (.int p1), .val (.int p2), .val (.int i85), .val (.ref r88), .val (.int r91), .val (.int i101), .val (.int (1 : Int32))] [(.ref r88)])) _
        refine XS.iload X89.here hx rfl (hb hby at_60) rfl ?_
        exact kt)
      rw [((by rw [f3, if_neg (hc103 : ¬ (i101 < r91))]) : (f3 r88 i101 r91) = (1 : Int32))] at hQ106
      obtain ⟨rfl, N106q, e106⟩ := hQ106
      have N106 := Fr.app N89 N106q
      obtain ⟨fs, hr, hrun, hended, hW, hsame⟩ := X106.leave (v := some (.int (1 : Int32))) (fun h => by rw [Bd.returns] at h; cases h)
      refine ⟨_, _, k107 _ ?_, hrun, hended, _, _, rfl, ?_, ⟨_, rfl⟩, hW, hsame.mono (by decide) (by decide)⟩
      · show Steps p.tables e below (T89.setTop (mkF m 62 #[.val (.int p0), .val (.int p1), .val (.int p2), .val (.int i85), .val (.ref r88), .val (.int r91), .val (.int i101), .val (.int (1 : Int32))] [(.int i101), (.ref r88)])) _
        refine st106.trans ?_
        show Steps p.tables e below (T106.setTop (mkF m 65 #[.val (.int p0), .val (.int p1), .val (.int p2), .val (.int i85), .val (.ref r88), .val (.int r91), .val (.int i101), .val (.int (1 : Int32))] [(.int (1 : Int32))])) _
        refine XS.iload X106.here hx rfl (hb hby at_65) rfl ?_
        show Steps p.tables e below (T106.setTop (mkF m 67 #[.val (.int p0), .val (.int p1), .val (.int p2), .val (.int i85), .val (.ref r88), .val (.int r91), .val (.int i101), .val (.int (1 : Int32))] [(.int (1 : Int32)), (.int (1 : Int32))])) _
        refine XS.icmpNo X106.here hx rfl (hb hby at_67) rfl (teq (rfl : (1 : Int32) = (1 : Int32))).2 ?_
        show Steps p.tables e below (T106.setTop (mkF m 70 #[.val (.int p0), .val (.int p1), .val (.int p2), .val (.int i85), .val (.ref r88), .val (.int r91), .val (.int i101), .val (.int (1 : Int32))] [])) _
        refine XS.iconst X106.here hx rfl (hb hby at_70) ?_
        show Steps p.tables e below (T106.setTop (mkF m 71 #[.val (.int p0), .val (.int p1), .val (.int p2), .val (.int i85), .val (.ref r88), .val (.int r91), .val (.int i101), .val (.int (1 : Int32))] [(.int (1 : Int32))])) _
        refine XS.goto X106.here hx rfl (pc0 := 71) (pc' := 75) rfl (hb hby at_71) (by decide) (by decide) ?_
        show Steps p.tables e below (T106.setTop (mkF m 75 #[.val (.int p0), .val (.int p1), .val (.int p2), .val (.int i85), .val (.ref r88), .val (.int r91), .val (.int i101), .val (.int (1 : Int32))] [(.int (1 : Int32))])) _
        exact retN X106 hx (t := .boolean) Bd.returns (by simp) (hb hby at_75) hr
      · show Q0 Z p0 p1 p2 wPRODUCE wFETCH wAPI_VERSIONS wHEARTBEAT wINIT_PRODUCER_ID wADD_PARTITIONS_TO_TXN wMETADATA wSYNC_GROUP wTXN_OFFSET_COMMIT wJOIN_GROUP wLIST_OFFSETS wOFFSET_COMMIT wOFFSET_FETCH wADD_OFFSETS_TO_TXN wFIND_COORDINATOR wLEAVE_GROUP wEND_TXN h0 n0 _ T106.heap _
        rw [e106]
        exact ⟨rfl, N106⟩
set_option maxRecDepth 65536 in
set_option maxHeartbeats 40000000 in
theorem comes_1 {Post : Tables → Env → Array Value → State → Outcome → State → Prop} (hpost : ∀ tb e args s v u, (limb_1_1.after args s (.returned v) u = true ∧ limb_1_2.after args s (.returned v) u = true ∧ True) → FrameEnd s (.returned v) u (Jvm.fieldLocs frame_1_writes args s ++ Jvm.arrayLocs frame_1_arrays args s ++ Jvm.staticLocs frame_1_statics s) 0 0 → Post tb e args s (.returned v) u) :
    ArmFor flags0 classFile x code maxLocals ret World_1 tables_1 room_1 Calls_1 rest_1 Pre_1 Post := by
  intro l hfl _ _ p e ha hc hk s m args below hf hA hF happ hP
  obtain ⟨hcalls, hrest, hpre⟩ := hP
  obtain ⟨-, -, -, hnamed, -, -, -, hat⟩ := (Spec.applies_iff hf).mp happ
  obtain ⟨hg, hn⟩ := and_e (Cond.before_iff.mp (show (Jvm.Cond.and given_1 narrow_1).before args s = true from hpre))
  obtain ⟨gc, gr0⟩ := and_e hg
  obtain ⟨ga0, gr1⟩ := and_e gr0
  obtain ⟨ga1, ga2⟩ := and_e gr1
  obtain ⟨w0, w1, w2, rfl⟩ : ∃ w0 w1 w2 : Value, args = #[w0, w1, w2] := by
    have hs : args.size = 3 := by simpa [Cond.value, given_1] using gc
    obtain ⟨L⟩ := args
    match L, hs with
    | [w0, w1, w2], _ => exact ⟨w0, w1, w2, rfl⟩
  have hw := fun d (hd : d ∈ tables_1) => atoms_spec (ws := Jvm.Cond.code x code maxLocals ret :: tables_1) hat d (List.mem_cons_of_mem _ hd)
  have hfit : Fit s := fun {y c} hc i hi => by
    obtain ⟨ha, rfl⟩ := Array.getElem?_eq_some_iff.mp hc
    have q := List.all_eq_true.mp ((Array.all_eq_true_iff_forall_mem.mp hF) _ (Array.getElem_mem ha)) i (List.mem_range.mpr hi)
    simpa [Array.getElem?_eq_getElem hi] using q
  obtain ⟨i0, ei0⟩ := is_v ga0
  obtain rfl : w0 = (.int i0) := Option.some.inj ei0
  obtain ⟨i1, ei1⟩ := is_v ga1
  obtain rfl : w1 = (.int i1) := Option.some.inj ei1
  obtain ⟨i2, ei2⟩ := is_v ga2
  obtain rfl : w2 = (.int i2) := Option.some.inj ei2
  obtain ⟨nr0, hn0⟩ := and_e hn
  obtain ⟨nr1, hn1⟩ := and_e hn0
  obtain ⟨nr2, hn2⟩ := and_e hn1
  obtain ⟨nr3, hn3⟩ := and_e hn2
  obtain ⟨nr4, hn4⟩ := and_e hn3
  obtain ⟨nr5, hn5⟩ := and_e hn4
  obtain ⟨nr6, hn6⟩ := and_e hn5
  obtain ⟨nr7, hn7⟩ := and_e hn6
  obtain ⟨nr8, hn8⟩ := and_e hn7
  obtain ⟨nr9, hn9⟩ := and_e hn8
  obtain ⟨nr10, hn10⟩ := and_e hn9
  obtain ⟨nr11, hn11⟩ := and_e hn10
  obtain ⟨nr12, hn12⟩ := and_e hn11
  obtain ⟨nr13, hn13⟩ := and_e hn12
  obtain ⟨nr14, hn14⟩ := and_e hn13
  obtain ⟨nr15, hn15⟩ := and_e hn14
  obtain ⟨nr16, hn16⟩ := and_e hn15
  obtain ⟨nr17, hn17⟩ := and_e hn16
  obtain ⟨nr18, hn18⟩ := and_e hn17
  obtain ⟨nr19, hn19⟩ := and_e hn18
  obtain ⟨nr20, hn20⟩ := and_e hn19
  obtain ⟨nr21, hn21⟩ := and_e hn20
  obtain ⟨nr22, hn22⟩ := and_e hn21
  obtain ⟨nr23, hn23⟩ := and_e hn22
  obtain ⟨nr24, hn24⟩ := and_e hn23
  obtain ⟨nr25, hn25⟩ := and_e hn24
  obtain ⟨nr26, hn26⟩ := and_e hn25
  obtain ⟨nr27, hn27⟩ := and_e hn26
  obtain ⟨nr28, hn28⟩ := and_e hn27
  obtain ⟨nr29, hn29⟩ := and_e hn28
  obtain ⟨nr30, hn30⟩ := and_e hn29
  obtain ⟨nr31, hn31⟩ := and_e hn30
  obtain ⟨nr32, nr33⟩ := and_e hn31
  obtain ⟨wPRODUCE, evwPRODUCE⟩ := exa_v nr0
  have SPRODUCE : Sta s s.heap "com/example/idem_log/idemlog/protocol/Api" "PRODUCE" "Lcom/example/idem_log/idemlog/protocol/Api;" (.ref wPRODUCE) := Sta.start evwPRODUCE (Or.inr ⟨(hw _ (List.mem_of_getElem? (i := 6) rfl)), (hw _ (List.mem_of_getElem? (i := 7) rfl))⟩)
  obtain ⟨wFETCH, evwFETCH⟩ := exa_v nr2
  have SFETCH : Sta s s.heap "com/example/idem_log/idemlog/protocol/Api" "FETCH" "Lcom/example/idem_log/idemlog/protocol/Api;" (.ref wFETCH) := Sta.start evwFETCH (Or.inr ⟨(hw _ (List.mem_of_getElem? (i := 6) rfl)), (hw _ (List.mem_of_getElem? (i := 19) rfl))⟩)
  obtain ⟨wAPI_VERSIONS, evwAPI_VERSIONS⟩ := exa_v nr4
  have SAPI_VERSIONS : Sta s s.heap "com/example/idem_log/idemlog/protocol/Api" "API_VERSIONS" "Lcom/example/idem_log/idemlog/protocol/Api;" (.ref wAPI_VERSIONS) := Sta.start evwAPI_VERSIONS (Or.inr ⟨(hw _ (List.mem_of_getElem? (i := 6) rfl)), (hw _ (List.mem_of_getElem? (i := 21) rfl))⟩)
  obtain ⟨wHEARTBEAT, evwHEARTBEAT⟩ := exa_v nr6
  have SHEARTBEAT : Sta s s.heap "com/example/idem_log/idemlog/protocol/Api" "HEARTBEAT" "Lcom/example/idem_log/idemlog/protocol/Api;" (.ref wHEARTBEAT) := Sta.start evwHEARTBEAT (Or.inr ⟨(hw _ (List.mem_of_getElem? (i := 6) rfl)), (hw _ (List.mem_of_getElem? (i := 23) rfl))⟩)
  obtain ⟨wINIT_PRODUCER_ID, evwINIT_PRODUCER_ID⟩ := exa_v nr8
  have SINIT_PRODUCER_ID : Sta s s.heap "com/example/idem_log/idemlog/protocol/Api" "INIT_PRODUCER_ID" "Lcom/example/idem_log/idemlog/protocol/Api;" (.ref wINIT_PRODUCER_ID) := Sta.start evwINIT_PRODUCER_ID (Or.inr ⟨(hw _ (List.mem_of_getElem? (i := 6) rfl)), (hw _ (List.mem_of_getElem? (i := 25) rfl))⟩)
  obtain ⟨wADD_PARTITIONS_TO_TXN, evwADD_PARTITIONS_TO_TXN⟩ := exa_v nr10
  have SADD_PARTITIONS_TO_TXN : Sta s s.heap "com/example/idem_log/idemlog/protocol/Api" "ADD_PARTITIONS_TO_TXN" "Lcom/example/idem_log/idemlog/protocol/Api;" (.ref wADD_PARTITIONS_TO_TXN) := Sta.start evwADD_PARTITIONS_TO_TXN (Or.inr ⟨(hw _ (List.mem_of_getElem? (i := 6) rfl)), (hw _ (List.mem_of_getElem? (i := 27) rfl))⟩)
  obtain ⟨wMETADATA, evwMETADATA⟩ := exa_v nr12
  have SMETADATA : Sta s s.heap "com/example/idem_log/idemlog/protocol/Api" "METADATA" "Lcom/example/idem_log/idemlog/protocol/Api;" (.ref wMETADATA) := Sta.start evwMETADATA (Or.inr ⟨(hw _ (List.mem_of_getElem? (i := 6) rfl)), (hw _ (List.mem_of_getElem? (i := 29) rfl))⟩)
  obtain ⟨wSYNC_GROUP, evwSYNC_GROUP⟩ := exa_v nr14
  have SSYNC_GROUP : Sta s s.heap "com/example/idem_log/idemlog/protocol/Api" "SYNC_GROUP" "Lcom/example/idem_log/idemlog/protocol/Api;" (.ref wSYNC_GROUP) := Sta.start evwSYNC_GROUP (Or.inr ⟨(hw _ (List.mem_of_getElem? (i := 6) rfl)), (hw _ (List.mem_of_getElem? (i := 31) rfl))⟩)
  obtain ⟨wTXN_OFFSET_COMMIT, evwTXN_OFFSET_COMMIT⟩ := exa_v nr16
  have STXN_OFFSET_COMMIT : Sta s s.heap "com/example/idem_log/idemlog/protocol/Api" "TXN_OFFSET_COMMIT" "Lcom/example/idem_log/idemlog/protocol/Api;" (.ref wTXN_OFFSET_COMMIT) := Sta.start evwTXN_OFFSET_COMMIT (Or.inr ⟨(hw _ (List.mem_of_getElem? (i := 6) rfl)), (hw _ (List.mem_of_getElem? (i := 33) rfl))⟩)
  obtain ⟨wJOIN_GROUP, evwJOIN_GROUP⟩ := exa_v nr18
  have SJOIN_GROUP : Sta s s.heap "com/example/idem_log/idemlog/protocol/Api" "JOIN_GROUP" "Lcom/example/idem_log/idemlog/protocol/Api;" (.ref wJOIN_GROUP) := Sta.start evwJOIN_GROUP (Or.inr ⟨(hw _ (List.mem_of_getElem? (i := 6) rfl)), (hw _ (List.mem_of_getElem? (i := 35) rfl))⟩)
  obtain ⟨wLIST_OFFSETS, evwLIST_OFFSETS⟩ := exa_v nr20
  have SLIST_OFFSETS : Sta s s.heap "com/example/idem_log/idemlog/protocol/Api" "LIST_OFFSETS" "Lcom/example/idem_log/idemlog/protocol/Api;" (.ref wLIST_OFFSETS) := Sta.start evwLIST_OFFSETS (Or.inr ⟨(hw _ (List.mem_of_getElem? (i := 6) rfl)), (hw _ (List.mem_of_getElem? (i := 37) rfl))⟩)
  obtain ⟨wOFFSET_COMMIT, evwOFFSET_COMMIT⟩ := exa_v nr22
  have SOFFSET_COMMIT : Sta s s.heap "com/example/idem_log/idemlog/protocol/Api" "OFFSET_COMMIT" "Lcom/example/idem_log/idemlog/protocol/Api;" (.ref wOFFSET_COMMIT) := Sta.start evwOFFSET_COMMIT (Or.inr ⟨(hw _ (List.mem_of_getElem? (i := 6) rfl)), (hw _ (List.mem_of_getElem? (i := 39) rfl))⟩)
  obtain ⟨wOFFSET_FETCH, evwOFFSET_FETCH⟩ := exa_v nr24
  have SOFFSET_FETCH : Sta s s.heap "com/example/idem_log/idemlog/protocol/Api" "OFFSET_FETCH" "Lcom/example/idem_log/idemlog/protocol/Api;" (.ref wOFFSET_FETCH) := Sta.start evwOFFSET_FETCH (Or.inr ⟨(hw _ (List.mem_of_getElem? (i := 6) rfl)), (hw _ (List.mem_of_getElem? (i := 41) rfl))⟩)
  obtain ⟨wADD_OFFSETS_TO_TXN, evwADD_OFFSETS_TO_TXN⟩ := exa_v nr26
  have SADD_OFFSETS_TO_TXN : Sta s s.heap "com/example/idem_log/idemlog/protocol/Api" "ADD_OFFSETS_TO_TXN" "Lcom/example/idem_log/idemlog/protocol/Api;" (.ref wADD_OFFSETS_TO_TXN) := Sta.start evwADD_OFFSETS_TO_TXN (Or.inr ⟨(hw _ (List.mem_of_getElem? (i := 6) rfl)), (hw _ (List.mem_of_getElem? (i := 43) rfl))⟩)
  obtain ⟨wFIND_COORDINATOR, evwFIND_COORDINATOR⟩ := exa_v nr28
  have SFIND_COORDINATOR : Sta s s.heap "com/example/idem_log/idemlog/protocol/Api" "FIND_COORDINATOR" "Lcom/example/idem_log/idemlog/protocol/Api;" (.ref wFIND_COORDINATOR) := Sta.start evwFIND_COORDINATOR (Or.inr ⟨(hw _ (List.mem_of_getElem? (i := 6) rfl)), (hw _ (List.mem_of_getElem? (i := 45) rfl))⟩)
  obtain ⟨wLEAVE_GROUP, evwLEAVE_GROUP⟩ := exa_v nr30
  have SLEAVE_GROUP : Sta s s.heap "com/example/idem_log/idemlog/protocol/Api" "LEAVE_GROUP" "Lcom/example/idem_log/idemlog/protocol/Api;" (.ref wLEAVE_GROUP) := Sta.start evwLEAVE_GROUP (Or.inr ⟨(hw _ (List.mem_of_getElem? (i := 6) rfl)), (hw _ (List.mem_of_getElem? (i := 47) rfl))⟩)
  obtain ⟨wEND_TXN, evwEND_TXN⟩ := exa_v nr32
  have SEND_TXN : Sta s s.heap "com/example/idem_log/idemlog/protocol/Api" "END_TXN" "Lcom/example/idem_log/idemlog/protocol/Api;" (.ref wEND_TXN) := Sta.start evwEND_TXN (Or.inr ⟨(hw _ (List.mem_of_getElem? (i := 6) rfl)), (hw _ (List.mem_of_getElem? (i := 49) rfl))⟩)
  have EPRODUCE : Exa s s.heap wPRODUCE "com/example/idem_log/idemlog/protocol/Api" := Exa.start evwPRODUCE nr0
  have FPRODUCE_firstFlexibleVersion : Fld s s.heap wPRODUCE "com/example/idem_log/idemlog/protocol/Api" "firstFlexibleVersion" "S" (.int (9 : Int32)) := own_fldI evwPRODUCE nr1
  have EFETCH : Exa s s.heap wFETCH "com/example/idem_log/idemlog/protocol/Api" := Exa.start evwFETCH nr2
  have FFETCH_firstFlexibleVersion : Fld s s.heap wFETCH "com/example/idem_log/idemlog/protocol/Api" "firstFlexibleVersion" "S" (.int (12 : Int32)) := own_fldI evwFETCH nr3
  have EAPI_VERSIONS : Exa s s.heap wAPI_VERSIONS "com/example/idem_log/idemlog/protocol/Api" := Exa.start evwAPI_VERSIONS nr4
  have FAPI_VERSIONS_firstFlexibleVersion : Fld s s.heap wAPI_VERSIONS "com/example/idem_log/idemlog/protocol/Api" "firstFlexibleVersion" "S" (.int (3 : Int32)) := own_fldI evwAPI_VERSIONS nr5
  have EHEARTBEAT : Exa s s.heap wHEARTBEAT "com/example/idem_log/idemlog/protocol/Api" := Exa.start evwHEARTBEAT nr6
  have FHEARTBEAT_firstFlexibleVersion : Fld s s.heap wHEARTBEAT "com/example/idem_log/idemlog/protocol/Api" "firstFlexibleVersion" "S" (.int (4 : Int32)) := own_fldI evwHEARTBEAT nr7
  have EINIT_PRODUCER_ID : Exa s s.heap wINIT_PRODUCER_ID "com/example/idem_log/idemlog/protocol/Api" := Exa.start evwINIT_PRODUCER_ID nr8
  have FINIT_PRODUCER_ID_firstFlexibleVersion : Fld s s.heap wINIT_PRODUCER_ID "com/example/idem_log/idemlog/protocol/Api" "firstFlexibleVersion" "S" (.int (2 : Int32)) := own_fldI evwINIT_PRODUCER_ID nr9
  have EADD_PARTITIONS_TO_TXN : Exa s s.heap wADD_PARTITIONS_TO_TXN "com/example/idem_log/idemlog/protocol/Api" := Exa.start evwADD_PARTITIONS_TO_TXN nr10
  have FADD_PARTITIONS_TO_TXN_firstFlexibleVersion : Fld s s.heap wADD_PARTITIONS_TO_TXN "com/example/idem_log/idemlog/protocol/Api" "firstFlexibleVersion" "S" (.int (3 : Int32)) := own_fldI evwADD_PARTITIONS_TO_TXN nr11
  have EMETADATA : Exa s s.heap wMETADATA "com/example/idem_log/idemlog/protocol/Api" := Exa.start evwMETADATA nr12
  have FMETADATA_firstFlexibleVersion : Fld s s.heap wMETADATA "com/example/idem_log/idemlog/protocol/Api" "firstFlexibleVersion" "S" (.int (9 : Int32)) := own_fldI evwMETADATA nr13
  have ESYNC_GROUP : Exa s s.heap wSYNC_GROUP "com/example/idem_log/idemlog/protocol/Api" := Exa.start evwSYNC_GROUP nr14
  have FSYNC_GROUP_firstFlexibleVersion : Fld s s.heap wSYNC_GROUP "com/example/idem_log/idemlog/protocol/Api" "firstFlexibleVersion" "S" (.int (4 : Int32)) := own_fldI evwSYNC_GROUP nr15
  have ETXN_OFFSET_COMMIT : Exa s s.heap wTXN_OFFSET_COMMIT "com/example/idem_log/idemlog/protocol/Api" := Exa.start evwTXN_OFFSET_COMMIT nr16
  have FTXN_OFFSET_COMMIT_firstFlexibleVersion : Fld s s.heap wTXN_OFFSET_COMMIT "com/example/idem_log/idemlog/protocol/Api" "firstFlexibleVersion" "S" (.int (3 : Int32)) := own_fldI evwTXN_OFFSET_COMMIT nr17
  have EJOIN_GROUP : Exa s s.heap wJOIN_GROUP "com/example/idem_log/idemlog/protocol/Api" := Exa.start evwJOIN_GROUP nr18
  have FJOIN_GROUP_firstFlexibleVersion : Fld s s.heap wJOIN_GROUP "com/example/idem_log/idemlog/protocol/Api" "firstFlexibleVersion" "S" (.int (6 : Int32)) := own_fldI evwJOIN_GROUP nr19
  have ELIST_OFFSETS : Exa s s.heap wLIST_OFFSETS "com/example/idem_log/idemlog/protocol/Api" := Exa.start evwLIST_OFFSETS nr20
  have FLIST_OFFSETS_firstFlexibleVersion : Fld s s.heap wLIST_OFFSETS "com/example/idem_log/idemlog/protocol/Api" "firstFlexibleVersion" "S" (.int (6 : Int32)) := own_fldI evwLIST_OFFSETS nr21
  have EOFFSET_COMMIT : Exa s s.heap wOFFSET_COMMIT "com/example/idem_log/idemlog/protocol/Api" := Exa.start evwOFFSET_COMMIT nr22
  have FOFFSET_COMMIT_firstFlexibleVersion : Fld s s.heap wOFFSET_COMMIT "com/example/idem_log/idemlog/protocol/Api" "firstFlexibleVersion" "S" (.int (8 : Int32)) := own_fldI evwOFFSET_COMMIT nr23
  have EOFFSET_FETCH : Exa s s.heap wOFFSET_FETCH "com/example/idem_log/idemlog/protocol/Api" := Exa.start evwOFFSET_FETCH nr24
  have FOFFSET_FETCH_firstFlexibleVersion : Fld s s.heap wOFFSET_FETCH "com/example/idem_log/idemlog/protocol/Api" "firstFlexibleVersion" "S" (.int (6 : Int32)) := own_fldI evwOFFSET_FETCH nr25
  have EADD_OFFSETS_TO_TXN : Exa s s.heap wADD_OFFSETS_TO_TXN "com/example/idem_log/idemlog/protocol/Api" := Exa.start evwADD_OFFSETS_TO_TXN nr26
  have FADD_OFFSETS_TO_TXN_firstFlexibleVersion : Fld s s.heap wADD_OFFSETS_TO_TXN "com/example/idem_log/idemlog/protocol/Api" "firstFlexibleVersion" "S" (.int (3 : Int32)) := own_fldI evwADD_OFFSETS_TO_TXN nr27
  have EFIND_COORDINATOR : Exa s s.heap wFIND_COORDINATOR "com/example/idem_log/idemlog/protocol/Api" := Exa.start evwFIND_COORDINATOR nr28
  have FFIND_COORDINATOR_firstFlexibleVersion : Fld s s.heap wFIND_COORDINATOR "com/example/idem_log/idemlog/protocol/Api" "firstFlexibleVersion" "S" (.int (3 : Int32)) := own_fldI evwFIND_COORDINATOR nr29
  have ELEAVE_GROUP : Exa s s.heap wLEAVE_GROUP "com/example/idem_log/idemlog/protocol/Api" := Exa.start evwLEAVE_GROUP nr30
  have FLEAVE_GROUP_firstFlexibleVersion : Fld s s.heap wLEAVE_GROUP "com/example/idem_log/idemlog/protocol/Api" "firstFlexibleVersion" "S" (.int (4 : Int32)) := own_fldI evwLEAVE_GROUP nr31
  have EEND_TXN : Exa s s.heap wEND_TXN "com/example/idem_log/idemlog/protocol/Api" := Exa.start evwEND_TXN nr32
  have FEND_TXN_firstFlexibleVersion : Fld s s.heap wEND_TXN "com/example/idem_log/idemlog/protocol/Api" "firstFlexibleVersion" "S" (.int (3 : Int32)) := own_fldI evwEND_TXN nr33
  obtain ⟨n, o, h1, h2, h3, _, L, rfl, ⟨rfl, N⟩, hq⟩ := rm0 l s _ hw tables_1 i0 i1 i2 wPRODUCE wFETCH wAPI_VERSIONS wHEARTBEAT wINIT_PRODUCER_ID wADD_PARTITIONS_TO_TXN wMETADATA wSYNC_GROUP wTXN_OFFSET_COMMIT wJOIN_GROUP wLIST_OFFSETS wOFFSET_COMMIT wOFFSET_FETCH wADD_OFFSETS_TO_TXN wFIND_COORDINATOR wLEAVE_GROUP wEND_TXN s.heap s.heap.size (Nat.le_refl _) ⟨SPRODUCE, EPRODUCE, FPRODUCE_firstFlexibleVersion, SFETCH, EFETCH, FFETCH_firstFlexibleVersion, SAPI_VERSIONS, EAPI_VERSIONS, FAPI_VERSIONS_firstFlexibleVersion, SHEARTBEAT, EHEARTBEAT, FHEARTBEAT_firstFlexibleVersion, SINIT_PRODUCER_ID, EINIT_PRODUCER_ID, FINIT_PRODUCER_ID_firstFlexibleVersion, SADD_PARTITIONS_TO_TXN, EADD_PARTITIONS_TO_TXN, FADD_PARTITIONS_TO_TXN_firstFlexibleVersion, SMETADATA, EMETADATA, FMETADATA_firstFlexibleVersion, SSYNC_GROUP, ESYNC_GROUP, FSYNC_GROUP_firstFlexibleVersion, STXN_OFFSET_COMMIT, ETXN_OFFSET_COMMIT, FTXN_OFFSET_COMMIT_firstFlexibleVersion, SJOIN_GROUP, EJOIN_GROUP, FJOIN_GROUP_firstFlexibleVersion, SLIST_OFFSETS, ELIST_OFFSETS, FLIST_OFFSETS_firstFlexibleVersion, SOFFSET_COMMIT, EOFFSET_COMMIT, FOFFSET_COMMIT_firstFlexibleVersion, SOFFSET_FETCH, EOFFSET_FETCH, FOFFSET_FETCH_firstFlexibleVersion, SADD_OFFSETS_TO_TXN, EADD_OFFSETS_TO_TXN, FADD_OFFSETS_TO_TXN_firstFlexibleVersion, SFIND_COORDINATOR, EFIND_COORDINATOR, FFIND_COORDINATOR_firstFlexibleVersion, SLEAVE_GROUP, ELEAVE_GROUP, FLEAVE_GROUP_firstFlexibleVersion, SEND_TXN, EEND_TXN, FEND_TXN_firstFlexibleVersion, trivial⟩  p e ha hc hk s m _ below hf ((Spec.applies_iff_loose hf).mp happ).1 ⟨rfl, State.Warmed39.refl s, rfl⟩ trivial
  refine ⟨n, _, h1, h2, h3, hpost _ _ _ _ _ _ ⟨Cond.after_iff.mpr rfl, Cond.after_iff.mpr (eq_i res_at (Term.int_eval (1)) rfl), trivial⟩ ⟨hq.1, hq.2.1, (hq.2.2.sift fun y hy => Or.inr (N y hy)).mono (by decide) (by decide)⟩⟩
theorem main_1_1 : Claimed_1_1 := comes_1 fun _ _ _ _ _ _ h hF => ⟨h.1, hF⟩
theorem main_1_2 : Claimed_1_2 := comes_1 fun _ _ _ _ _ _ h hF => ⟨h.2.1, hF⟩
end Jvm.Pilot.@@N@@
namespace Jvm.Pilot.@@N@@
open Jvm Jvm.ClassFile Sem Op Lib Jvm.Free Jvm.Stand Jvm.Pilot.@@N@@.Jvm.D
/-! MADE BY PROGRAM (witnessworld.py) out of the Statement's table words and the real class files: 12 classes; the members and pool entries that the words name. The judged class is class 1, her method 1. -/
namespace start1
open Jvm.ClassFile
def u (s : String) : CpInfo := .utf8 (stringToUtf16 s)
/-- a pool by its gaps: so many unusable entries, then the entry; so many at the end -/
def gap : Nat → List CpInfo → List CpInfo
  | 0, r => r
  | n + 1, r => .unusable :: gap n r
def poolList (es : List (Nat × CpInfo)) (last : Nat) : List CpInfo := es.foldr (fun e r => gap e.1 (e.2 :: r)) (gap last [])
def pool (es : List (Nat × CpInfo)) (last : Nat) : Array CpInfo := ⟨poolList es last⟩
def fileOf (pool : Array CpInfo) (this : Nat) (attrs : Array Attribute := #[]) (ms : Array MethodInfo := #[]) (fl : Nat := 33) (sup : Nat := 0) (ifs : Array Nat := #[]) (fds : Array FieldInfo := #[]) : ClassFile where
  minorVersion := 0
  majorVersion := 65
  constantPool := pool
  accessFlags := fl
  thisClass := this
  superClass := sup
  interfaces := ifs
  fields := fds
  methods := ms
  attributes := attrs
def plain (name : String) (sup : Option ClassId) : Class where
  name := name
  kind := .ordinary
  loader := none
  accessFlags := 33
  super := sup
  interfaces := #[]
  cf := none
  fields := #[]
  methods := #[]
  instanceTypes := #[]
  staticTypes := #[]
  resolved := #[]
  callSites := []
  init := .initialized
  statics := none
  mirror := none

def pool0 : Array CpInfo := pool [(5, u "<init>"), (0, u "()V"), (1, .class_ 10), (1, u "java/lang/Object")] 113

def k0m0 : Method := { name := "<init>", desc := "()V", sig := { parameters := [], returnType := none }, accessFlags := 1, code := none }
/-- java/lang/Object -/
def k0 : Class := { plain "java/lang/Object" none with
  accessFlags := 33
  interfaces := #[]
  cf := some (fileOf pool0 8 #[] #[{ accessFlags := 1, nameIndex := 5, descriptorIndex := 6, attributes := #[] }] 33 0 #[] #[])
  fields := #[]
  methods := #[k0m0]
  instanceTypes := #[]
  staticTypes := #[]
  resolved := Array.replicate 124 none
  statics := none }

def pool1 : Array CpInfo := pool [(2, .class_ 4), (1, u "java/lang/Object"), (0, u "<init>"), (0, u "()V"), (0, .integer 2147483647), (0, .methodref 9 10), (0, .class_ 11), (0, .nameAndType 12 13), (0, u "com/example/idem_log/idemlog/protocol/ApiIsFlexiblePinLaw"), (0, u "pick"), (0, u "(I)Lcom/example/idem_log/idemlog/protocol/Api;"), (0, .methodref 9 15), (0, .nameAndType 16 17), (0, u "first"), (0, u "(I)I"), (0, .methodref 19 20), (0, .class_ 21), (0, .nameAndType 22 23), (0, u "com/example/idem_log/idemlog/protocol/Api"), (0, u "isFlexible"), (0, u "(S)Z"), (0, .fieldref 19 25), (0, .nameAndType 26 27), (0, u "PRODUCE"), (0, u "Lcom/example/idem_log/idemlog/protocol/Api;"), (0, .fieldref 19 29), (0, .nameAndType 30 27), (0, u "FETCH"), (0, .fieldref 19 32), (0, .nameAndType 33 27), (0, u "LIST_OFFSETS"), (0, .fieldref 19 35), (0, .nameAndType 36 27), (0, u "METADATA"), (0, .fieldref 19 38), (0, .nameAndType 39 27), (0, u "OFFSET_COMMIT"), (0, .fieldref 19 41), (0, .nameAndType 42 27), (0, u "OFFSET_FETCH"), (0, .fieldref 19 44), (0, .nameAndType 45 27), (0, u "FIND_COORDINATOR"), (0, .fieldref 19 47), (0, .nameAndType 48 27), (0, u "JOIN_GROUP"), (0, .fieldref 19 50), (0, .nameAndType 51 27), (0, u "HEARTBEAT"), (0, .fieldref 19 53), (0, .nameAndType 54 27), (0, u "LEAVE_GROUP"), (0, .fieldref 19 56), (0, .nameAndType 57 27), (0, u "SYNC_GROUP"), (0, .fieldref 19 59), (0, .nameAndType 60 27), (0, u "API_VERSIONS"), (0, .fieldref 19 62), (0, .nameAndType 63 27), (0, u "INIT_PRODUCER_ID"), (0, .fieldref 19 65), (0, .nameAndType 66 27), (0, u "ADD_PARTITIONS_TO_TXN"), (0, .fieldref 19 68), (0, .nameAndType 69 27), (0, u "ADD_OFFSETS_TO_TXN"), (0, .fieldref 19 71), (0, .nameAndType 72 27), (0, u "END_TXN"), (0, .fieldref 19 74), (0, .nameAndType 75 27), (0, u "TXN_OFFSET_COMMIT"), (2, u "law"), (0, u "(III)Z")] 3

def k1m0 : Method := { name := "<init>", desc := "()V", sig := { parameters := [], returnType := none }, accessFlags := 1, code := none }
def k1c1 : Code := { maxStack := 3, maxLocals := 8, code := code, exceptionTable := #[], attributes := #[] }
def k1m1 : Method := { name := "law", desc := "(III)Z", sig := { parameters := [.int, .int, .int], returnType := some .boolean }, accessFlags := 9, code := some k1c1 }
def k1c2 : Code := { maxStack := 2, maxLocals := 1, code := method_3_code, exceptionTable := #[], attributes := #[] }
def k1m2 : Method := { name := "pick", desc := "(I)Lcom/example/idem_log/idemlog/protocol/Api;", sig := { parameters := [.int], returnType := some (.object "com/example/idem_log/idemlog/protocol/Api") }, accessFlags := 10, code := some k1c2 }
def k1c3 : Code := { maxStack := 2, maxLocals := 1, code := method_4_code, exceptionTable := #[], attributes := #[] }
def k1m3 : Method := { name := "first", desc := "(I)I", sig := { parameters := [.int], returnType := some .int }, accessFlags := 10, code := some k1c3 }
/-- com/example/idem_log/idemlog/protocol/ApiIsFlexiblePinLaw -/
def k1 : Class := { plain "com/example/idem_log/idemlog/protocol/ApiIsFlexiblePinLaw" (some 0) with
  accessFlags := 49
  interfaces := #[]
  cf := some (fileOf pool1 9 #[] #[{ accessFlags := 1, nameIndex := 5, descriptorIndex := 6, attributes := #[] }, { accessFlags := 9, nameIndex := 78, descriptorIndex := 79, attributes := #[] }, { accessFlags := 10, nameIndex := 12, descriptorIndex := 13, attributes := #[] }, { accessFlags := 10, nameIndex := 16, descriptorIndex := 17, attributes := #[] }] 49 2 #[] #[])
  fields := #[]
  methods := #[k1m0, k1m1, k1m2, k1m3]
  instanceTypes := #[]
  staticTypes := #[]
  resolved := Array.replicate 83 none
  statics := none }

def pool2 : Array CpInfo := pool [(1, .class_ 2), (0, u "java/lang/constant/Constable"), (0, .class_ 4), (0, u "java/lang/Object")] 6

/-- java/lang/constant/Constable -/
def k2 : Class := { plain "java/lang/constant/Constable" (some 0) with
  accessFlags := 1537
  interfaces := #[]
  cf := some (fileOf pool2 1 #[] #[] 1537 3 #[] #[])
  fields := #[]
  methods := #[]
  instanceTypes := #[]
  staticTypes := #[]
  resolved := Array.replicate 11 none
  statics := none }

def pool3 : Array CpInfo := pool [(1, .class_ 2), (0, u "java/lang/Comparable"), (0, .class_ 4), (0, u "java/lang/Object")] 7

/-- java/lang/Comparable -/
def k3 : Class := { plain "java/lang/Comparable" (some 0) with
  accessFlags := 1537
  interfaces := #[]
  cf := some (fileOf pool3 1 #[] #[] 1537 3 #[] #[])
  fields := #[]
  methods := #[]
  instanceTypes := #[]
  staticTypes := #[]
  resolved := Array.replicate 12 none
  statics := none }

def pool4 : Array CpInfo := pool [(1, .class_ 2), (0, u "java/io/Serializable"), (0, .class_ 4), (0, u "java/lang/Object")] 2

/-- java/io/Serializable -/
def k4 : Class := { plain "java/io/Serializable" (some 0) with
  accessFlags := 1537
  interfaces := #[]
  cf := some (fileOf pool4 1 #[] #[] 1537 3 #[] #[])
  fields := #[]
  methods := #[]
  instanceTypes := #[]
  staticTypes := #[]
  resolved := Array.replicate 7 none
  statics := none }

def pool5 : Array CpInfo := pool [(2, .class_ 4), (1, u "java/lang/Enum"), (0, u "name"), (0, u "Ljava/lang/String;"), (2, u "ordinal"), (0, u "I"), (1, .class_ 14), (1, u "java/lang/Object"), (4, u "hash"), (86, .class_ 108), (1, u "java/lang/Enum$EnumDesc"), (2, .class_ 112), (0, u "java/lang/constant/Constable"), (0, .class_ 114), (0, u "java/lang/Comparable"), (0, .class_ 116), (0, u "java/io/Serializable")] 87

/-- java/lang/Enum -/
def k5 : Class := { plain "java/lang/Enum" (some 0) with
  accessFlags := 1057
  interfaces := #[2, 3, 4]
  cf := some (fileOf pool5 2 #[.nestMembers #[106]] #[] 1057 12 #[111, 113, 115] #[{ accessFlags := 18, nameIndex := 5, descriptorIndex := 6, attributes := #[] }, { accessFlags := 18, nameIndex := 9, descriptorIndex := 10, attributes := #[] }, { accessFlags := 2, nameIndex := 19, descriptorIndex := 10, attributes := #[] }])
  fields := #[{ name := "name", type := (.object "java/lang/String"), accessFlags := 18, slot := 0, constantValue := 0 }, { name := "ordinal", type := .int, accessFlags := 18, slot := 1, constantValue := 0 }, { name := "hash", type := .int, accessFlags := 2, slot := 2, constantValue := 0 }]
  methods := #[]
  instanceTypes := #[(.object "java/lang/String"), .int, .int]
  staticTypes := #[]
  resolved := Array.replicate 204 none
  statics := none }

def pool6 : Array CpInfo := pool [(1, .class_ 2), (0, u "com/example/idem_log/idemlog/protocol/Api"), (2, u "PRODUCE"), (0, u "Lcom/example/idem_log/idemlog/protocol/Api;"), (2, u "FETCH"), (2, u "LIST_OFFSETS"), (2, u "METADATA"), (2, u "OFFSET_COMMIT"), (2, u "OFFSET_FETCH"), (2, u "FIND_COORDINATOR"), (2, u "JOIN_GROUP"), (2, u "HEARTBEAT"), (2, u "LEAVE_GROUP"), (2, u "SYNC_GROUP"), (2, u "API_VERSIONS"), (2, u "INIT_PRODUCER_ID"), (2, u "ADD_PARTITIONS_TO_TXN"), (2, u "ADD_OFFSETS_TO_TXN"), (2, u "END_TXN"), (2, u "TXN_OFFSET_COMMIT"), (2, u "$VALUES"), (0, u "[Lcom/example/idem_log/idemlog/protocol/Api;"), (6, .class_ 67), (1, u "java/lang/Enum"), (8, u "key"), (0, u "S"), (2, u "minVersion"), (2, u "maxVersion"), (0, .fieldref 1 85), (0, .nameAndType 86 77), (0, u "firstFlexibleVersion"), (37, u "(S)Z"), (0, u "isFlexible")] 5

def k6c0 : Code := { maxStack := 2, maxLocals := 2, code := prog_15_method_6_code, exceptionTable := #[], attributes := #[] }
def k6m0 : Method := { name := "isFlexible", desc := "(S)Z", sig := { parameters := [.short], returnType := some .boolean }, accessFlags := 0, code := some k6c0 }
/-- com/example/idem_log/idemlog/protocol/Api -/
def k6 : Class := { plain "com/example/idem_log/idemlog/protocol/Api" (some 5) with
  accessFlags := 16432
  interfaces := #[]
  cf := some (fileOf pool6 1 #[] #[{ accessFlags := 0, nameIndex := 125, descriptorIndex := 124, attributes := #[] }] 16432 65 #[] #[{ accessFlags := 16409, nameIndex := 5, descriptorIndex := 6, attributes := #[] }, { accessFlags := 16409, nameIndex := 9, descriptorIndex := 6, attributes := #[] }, { accessFlags := 16409, nameIndex := 12, descriptorIndex := 6, attributes := #[] }, { accessFlags := 16409, nameIndex := 15, descriptorIndex := 6, attributes := #[] }, { accessFlags := 16409, nameIndex := 18, descriptorIndex := 6, attributes := #[] }, { accessFlags := 16409, nameIndex := 21, descriptorIndex := 6, attributes := #[] }, { accessFlags := 16409, nameIndex := 24, descriptorIndex := 6, attributes := #[] }, { accessFlags := 16409, nameIndex := 27, descriptorIndex := 6, attributes := #[] }, { accessFlags := 16409, nameIndex := 30, descriptorIndex := 6, attributes := #[] }, { accessFlags := 16409, nameIndex := 33, descriptorIndex := 6, attributes := #[] }, { accessFlags := 16409, nameIndex := 36, descriptorIndex := 6, attributes := #[] }, { accessFlags := 16409, nameIndex := 39, descriptorIndex := 6, attributes := #[] }, { accessFlags := 16409, nameIndex := 42, descriptorIndex := 6, attributes := #[] }, { accessFlags := 16409, nameIndex := 45, descriptorIndex := 6, attributes := #[] }, { accessFlags := 16409, nameIndex := 48, descriptorIndex := 6, attributes := #[] }, { accessFlags := 16409, nameIndex := 51, descriptorIndex := 6, attributes := #[] }, { accessFlags := 16409, nameIndex := 54, descriptorIndex := 6, attributes := #[] }, { accessFlags := 16, nameIndex := 76, descriptorIndex := 77, attributes := #[] }, { accessFlags := 16, nameIndex := 80, descriptorIndex := 77, attributes := #[] }, { accessFlags := 16, nameIndex := 83, descriptorIndex := 77, attributes := #[] }, { accessFlags := 18, nameIndex := 86, descriptorIndex := 77, attributes := #[] }, { accessFlags := 4122, nameIndex := 57, descriptorIndex := 58, attributes := #[] }])
  fields := #[{ name := "PRODUCE", type := (.object "com/example/idem_log/idemlog/protocol/Api"), accessFlags := 16409, slot := 0, constantValue := 0 }, { name := "FETCH", type := (.object "com/example/idem_log/idemlog/protocol/Api"), accessFlags := 16409, slot := 1, constantValue := 0 }, { name := "LIST_OFFSETS", type := (.object "com/example/idem_log/idemlog/protocol/Api"), accessFlags := 16409, slot := 2, constantValue := 0 }, { name := "METADATA", type := (.object "com/example/idem_log/idemlog/protocol/Api"), accessFlags := 16409, slot := 3, constantValue := 0 }, { name := "OFFSET_COMMIT", type := (.object "com/example/idem_log/idemlog/protocol/Api"), accessFlags := 16409, slot := 4, constantValue := 0 }, { name := "OFFSET_FETCH", type := (.object "com/example/idem_log/idemlog/protocol/Api"), accessFlags := 16409, slot := 5, constantValue := 0 }, { name := "FIND_COORDINATOR", type := (.object "com/example/idem_log/idemlog/protocol/Api"), accessFlags := 16409, slot := 6, constantValue := 0 }, { name := "JOIN_GROUP", type := (.object "com/example/idem_log/idemlog/protocol/Api"), accessFlags := 16409, slot := 7, constantValue := 0 }, { name := "HEARTBEAT", type := (.object "com/example/idem_log/idemlog/protocol/Api"), accessFlags := 16409, slot := 8, constantValue := 0 }, { name := "LEAVE_GROUP", type := (.object "com/example/idem_log/idemlog/protocol/Api"), accessFlags := 16409, slot := 9, constantValue := 0 }, { name := "SYNC_GROUP", type := (.object "com/example/idem_log/idemlog/protocol/Api"), accessFlags := 16409, slot := 10, constantValue := 0 }, { name := "API_VERSIONS", type := (.object "com/example/idem_log/idemlog/protocol/Api"), accessFlags := 16409, slot := 11, constantValue := 0 }, { name := "INIT_PRODUCER_ID", type := (.object "com/example/idem_log/idemlog/protocol/Api"), accessFlags := 16409, slot := 12, constantValue := 0 }, { name := "ADD_PARTITIONS_TO_TXN", type := (.object "com/example/idem_log/idemlog/protocol/Api"), accessFlags := 16409, slot := 13, constantValue := 0 }, { name := "ADD_OFFSETS_TO_TXN", type := (.object "com/example/idem_log/idemlog/protocol/Api"), accessFlags := 16409, slot := 14, constantValue := 0 }, { name := "END_TXN", type := (.object "com/example/idem_log/idemlog/protocol/Api"), accessFlags := 16409, slot := 15, constantValue := 0 }, { name := "TXN_OFFSET_COMMIT", type := (.object "com/example/idem_log/idemlog/protocol/Api"), accessFlags := 16409, slot := 16, constantValue := 0 }, { name := "key", type := .short, accessFlags := 16, slot := 3, constantValue := 0 }, { name := "minVersion", type := .short, accessFlags := 16, slot := 4, constantValue := 0 }, { name := "maxVersion", type := .short, accessFlags := 16, slot := 5, constantValue := 0 }, { name := "firstFlexibleVersion", type := .short, accessFlags := 18, slot := 6, constantValue := 0 }, { name := "$VALUES", type := (.array (.object "com/example/idem_log/idemlog/protocol/Api")), accessFlags := 4122, slot := 17, constantValue := 0 }]
  methods := #[k6m0]
  instanceTypes := #[(.object "java/lang/String"), .int, .int, .short, .short, .short, .short]
  staticTypes := #[(.object "com/example/idem_log/idemlog/protocol/Api"), (.object "com/example/idem_log/idemlog/protocol/Api"), (.object "com/example/idem_log/idemlog/protocol/Api"), (.object "com/example/idem_log/idemlog/protocol/Api"), (.object "com/example/idem_log/idemlog/protocol/Api"), (.object "com/example/idem_log/idemlog/protocol/Api"), (.object "com/example/idem_log/idemlog/protocol/Api"), (.object "com/example/idem_log/idemlog/protocol/Api"), (.object "com/example/idem_log/idemlog/protocol/Api"), (.object "com/example/idem_log/idemlog/protocol/Api"), (.object "com/example/idem_log/idemlog/protocol/Api"), (.object "com/example/idem_log/idemlog/protocol/Api"), (.object "com/example/idem_log/idemlog/protocol/Api"), (.object "com/example/idem_log/idemlog/protocol/Api"), (.object "com/example/idem_log/idemlog/protocol/Api"), (.object "com/example/idem_log/idemlog/protocol/Api"), (.object "com/example/idem_log/idemlog/protocol/Api"), (.array (.object "com/example/idem_log/idemlog/protocol/Api"))]
  resolved := Array.replicate 131 none
  statics := some 0 }

def pool7 : Array CpInfo := pool [(1, u "java/lang/Cloneable"), (0, .class_ 1), (0, u "java/lang/Object"), (0, .class_ 3)] 3

/-- java/lang/Cloneable -/
def k7 : Class := { plain "java/lang/Cloneable" (some 0) with
  accessFlags := 1537
  interfaces := #[]
  cf := some (fileOf pool7 2 #[] #[] 1537 4 #[] #[])
  fields := #[]
  methods := #[]
  instanceTypes := #[]
  staticTypes := #[]
  resolved := Array.replicate 8 none
  statics := none }

/-- the primitive byte -/
def k8 : Class := { plain "byte" none with kind := .primitive 'B', accessFlags := 0x411 }
/-- [B -/
def k9 : Class := { plain "[B" (some 0) with kind := .array 8 .byte, interfaces := #[7, 4], accessFlags := 1041 }

/-- the primitive int -/
def k10 : Class := { plain "int" none with kind := .primitive 'I', accessFlags := 0x411 }
/-- [I -/
def k11 : Class := { plain "[I" (some 0) with kind := .array 10 .int, interfaces := #[7, 4], accessFlags := 1041 }

def heap : Heap := #[{ cls := 6, slots := #[.ref 1, .ref 2, .ref 11, .ref 7, .ref 12, .ref 13, .ref 15, .ref 10, .ref 4, .ref 16, .ref 8, .ref 3, .ref 5, .ref 6, .ref 14, .ref 17, .ref 9, .null], vm := .statics 6 },
  { cls := 6, slots := #[.null, .int 0, .int 0, .int 0, .int 0, .int 0, .int 9], vm := .none },
  { cls := 6, slots := #[.null, .int 0, .int 0, .int 0, .int 0, .int 0, .int 12], vm := .none },
  { cls := 6, slots := #[.null, .int 0, .int 0, .int 0, .int 0, .int 0, .int 3], vm := .none },
  { cls := 6, slots := #[.null, .int 0, .int 0, .int 0, .int 0, .int 0, .int 4], vm := .none },
  { cls := 6, slots := #[.null, .int 0, .int 0, .int 0, .int 0, .int 0, .int 2], vm := .none },
  { cls := 6, slots := #[.null, .int 0, .int 0, .int 0, .int 0, .int 0, .int 3], vm := .none },
  { cls := 6, slots := #[.null, .int 0, .int 0, .int 0, .int 0, .int 0, .int 9], vm := .none },
  { cls := 6, slots := #[.null, .int 0, .int 0, .int 0, .int 0, .int 0, .int 4], vm := .none },
  { cls := 6, slots := #[.null, .int 0, .int 0, .int 0, .int 0, .int 0, .int 3], vm := .none },
  { cls := 6, slots := #[.null, .int 0, .int 0, .int 0, .int 0, .int 0, .int 6], vm := .none },
  { cls := 6, slots := #[.null, .int 0, .int 0, .int 0, .int 0, .int 0, .int 6], vm := .none },
  { cls := 6, slots := #[.null, .int 0, .int 0, .int 0, .int 0, .int 0, .int 8], vm := .none },
  { cls := 6, slots := #[.null, .int 0, .int 0, .int 0, .int 0, .int 0, .int 6], vm := .none },
  { cls := 6, slots := #[.null, .int 0, .int 0, .int 0, .int 0, .int 0, .int 3], vm := .none },
  { cls := 6, slots := #[.null, .int 0, .int 0, .int 0, .int 0, .int 0, .int 3], vm := .none },
  { cls := 6, slots := #[.null, .int 0, .int 0, .int 0, .int 0, .int 0, .int 4], vm := .none },
  { cls := 6, slots := #[.null, .int 0, .int 0, .int 0, .int 0, .int 0, .int 3], vm := .none }]
def classes : Array Class := #[k0, k1, k2, k3, k4, k5, k6, k7, k8, k9, k10, k11]
def interned : List (Array UInt16 × Addr) := []
def slotsUsed : Nat := 137
def theMethod : MethodId := ⟨1, 1⟩
def args0 : Array Value := #[.int 5, .int 7, .int 1]
def aboutOver (below : List Frame) : State where
  vm := { classes := classes, interned := interned.toArray }
  heap := heap
  slotsUsed := slotsUsed
  threads := #[{ frames := .invoking theMethod args0 :: below }]
def below0 : List Frame := [.native { method := ⟨0, 0⟩, args := #[] }]
def about1 : State := aboutOver below0
def p0 : Program := .bare "" "" ""
def e0 : Env := launch0.env 0 0 0
theorem w_frames : about1.frames = Frame.invoking theMethod args0 :: below0 := rfl
set_option maxRecDepth 65536 in
theorem w_args : argsFit about1.vm theMethod args0 = true := by decide +kernel
set_option maxRecDepth 65536 in
theorem w_heap : heapFits about1 = true := by decide +kernel
set_option maxRecDepth 65536 in
theorem w_runnable : about1.curStatus? = some .runnable := by decide +kernel
set_option maxRecDepth 65536 in
theorem w_alone : about1.alone = true := by decide +kernel
set_option maxRecDepth 65536 in
theorem w_named : about1.methodNamed? x = some theMethod := by decide +kernel
set_option maxRecDepth 65536 in
theorem w_hears : about1.hears theMethod below0 = true := by decide +kernel
set_option maxRecDepth 65536 in
theorem w_ripe : about1.ripe theMethod args0 below0 = true := by decide +kernel
theorem w_running : about1.status = .running := rfl
set_option maxRecDepth 65536 in
theorem w_room : about1.hasRoom e0.platform room_1 = true :=
  launch0.hasRoom_least _ room_1 (by decide +kernel) (by decide +kernel) (by decide +kernel) (by decide +kernel) (by decide +kernel) (by decide +kernel)
theorem allAtoms_all (ts : List Jvm.Cond) (a : Array Jvm.Value) (st : Jvm.State) : (allAtoms ts).before a st = ts.all (fun c => c.before a st) := by
  induction ts with
  | nil => rfl
  | cons c t ih =>
    show (Jvm.Cond.and c (allAtoms t)).before a st = _
    rw [Jvm.Cond.before_and, ih, List.all_cons]
def words1 : List Jvm.Cond := Jvm.Cond.code x code maxLocals ret :: tables_1
/-- a 'code' word, met by the world's own term for the bytes: nothing is compared byte by byte -/
theorem code_word {y : MethodName} {bytes : ByteArray} {mx : Nat} {rt : Option FieldType} {a : Array Value} {s : State} {m : MethodId} {meth : Method} {c : Code} (h1 : s.methodNamed? y = some m) (h2 : s.vm.method? m = some meth) (h3 : meth.code = some c) (h4 : c.code = bytes)
    (h5 : (c.maxLocals == mx && c.exceptionTable.isEmpty && decide (c.maxStack ≤ mostOperands) && decide (meth.sig.returnType = rt) && !meth.locks && decide (parseMethodDescriptor y.desc = some meth.sig)) = true) : (Jvm.Cond.code y bytes mx rt).before a s = true := by
  simp only [Bool.and_eq_true, beq_iff_eq, Bool.not_eq_true', decide_eq_true_eq] at h5
  obtain ⟨⟨⟨⟨⟨g1, g2⟩, g3⟩, g4⟩, g5⟩, g6⟩ := h5
  simp [Cond.before, Cond.holds, Cond.value, h1, h2, h3, h4, g1, g2, g3, g4, g5, g6]
def isCode : Jvm.Cond → Bool
  | .code _ _ _ _ => true
  | _ => false
theorem all_split {L : List Jvm.Cond} {P : Jvm.Cond → Bool} (h1 : L.all (fun c => isCode c || P c) = true) (h2 : ∀ c ∈ L.filter isCode, P c = true) : L.all P = true := by
  refine List.all_eq_true.mpr fun c hc => ?_
  have h := List.all_eq_true.mp h1 c hc
  rcases Bool.eq_false_or_eq_true (isCode c) with hi | hi
  · exact h2 c (List.mem_filter.mpr ⟨hc, hi⟩)
  · simpa [hi] using h
set_option maxRecDepth 65536 in
theorem w_c0 : (Jvm.Cond.code x code maxLocals ret).before args0 about1 = true := code_word (m := ⟨1, 1⟩) (meth := k1m1) (c := k1c1) (by decide +kernel) rfl rfl rfl (by decide +kernel)
set_option maxRecDepth 65536 in
theorem w_c1 : (Jvm.Cond.code ({ cls := "com/example/idem_log/idemlog/protocol/ApiIsFlexiblePinLaw", name := "pick", desc := "(I)Lcom/example/idem_log/idemlog/protocol/Api;" } : Jvm.MethodName) method_3_code (1 : Nat) (Option.some (Jvm.ClassFile.FieldType.object "com/example/idem_log/idemlog/protocol/Api"))).before args0 about1 = true := code_word (m := ⟨1, 2⟩) (meth := k1m2) (c := k1c2) (by decide +kernel) rfl rfl rfl (by decide +kernel)
set_option maxRecDepth 65536 in
theorem w_c2 : (Jvm.Cond.code ({ cls := "com/example/idem_log/idemlog/protocol/ApiIsFlexiblePinLaw", name := "first", desc := "(I)I" } : Jvm.MethodName) method_4_code (1 : Nat) (Option.some Jvm.ClassFile.FieldType.int)).before args0 about1 = true := code_word (m := ⟨1, 3⟩) (meth := k1m3) (c := k1c3) (by decide +kernel) rfl rfl rfl (by decide +kernel)
set_option maxRecDepth 65536 in
theorem w_c3 : (Jvm.Cond.code ({ cls := "com/example/idem_log/idemlog/protocol/Api", name := "isFlexible", desc := "(S)Z" } : Jvm.MethodName) prog_15_method_6_code (2 : Nat) (Option.some Jvm.ClassFile.FieldType.boolean)).before args0 about1 = true := code_word (m := ⟨6, 0⟩) (meth := k6m0) (c := k6c0) (by decide +kernel) rfl rfl rfl (by decide +kernel)
def codes1 : List Jvm.Cond := [Jvm.Cond.code x code maxLocals ret, Jvm.Cond.code ({ cls := "com/example/idem_log/idemlog/protocol/ApiIsFlexiblePinLaw", name := "pick", desc := "(I)Lcom/example/idem_log/idemlog/protocol/Api;" } : Jvm.MethodName) method_3_code (1 : Nat) (Option.some (Jvm.ClassFile.FieldType.object "com/example/idem_log/idemlog/protocol/Api")), Jvm.Cond.code ({ cls := "com/example/idem_log/idemlog/protocol/ApiIsFlexiblePinLaw", name := "first", desc := "(I)I" } : Jvm.MethodName) method_4_code (1 : Nat) (Option.some Jvm.ClassFile.FieldType.int), Jvm.Cond.code ({ cls := "com/example/idem_log/idemlog/protocol/Api", name := "isFlexible", desc := "(S)Z" } : Jvm.MethodName) prog_15_method_6_code (2 : Nat) (Option.some Jvm.ClassFile.FieldType.boolean)]
set_option maxRecDepth 65536 in
theorem codes_eq : words1.filter isCode = codes1 := rfl
theorem w_codes : ∀ c ∈ words1.filter isCode, c.before args0 about1 = true := by
  rw [codes_eq]
  intro c hc
  simp only [codes1, List.mem_cons, List.not_mem_nil, or_false] at hc
  rcases hc with rfl | rfl | rfl | rfl
  · exact w_c0
  · exact w_c1
  · exact w_c2
  · exact w_c3
set_option maxRecDepth 65536 in
theorem w_t1 : (words1.take 24).all (fun c => isCode c || c.before args0 about1) = true := by decide +kernel
set_option maxRecDepth 65536 in
theorem w_t2 : ((words1.drop 24).take 24).all (fun c => isCode c || c.before args0 about1) = true := by decide +kernel
set_option maxRecDepth 65536 in
theorem w_t3 : ((words1.drop 24).drop 24).all (fun c => isCode c || c.before args0 about1) = true := by decide +kernel
theorem w_tables : (allAtoms (Jvm.Cond.code x code maxLocals ret :: tables_1)).before args0 about1 = true := by
  rw [allAtoms_all]
  show words1.all (fun c => c.before args0 about1) = true
  refine all_split ?_ w_codes
  rw [← List.take_append_drop 24 words1, List.all_append, w_t1, ← List.take_append_drop 24 (words1.drop 24), List.all_append, w_t2, w_t3]
  rfl
set_option maxRecDepth 65536 in
theorem w_case : (Jvm.Cond.and given_1 narrow_1).before args0 about1 = true := by decide +kernel
theorem w_applies : (headSpec (Jvm.Cond.code x code maxLocals ret :: tables_1) room_1).applies x e0.platform about1 = true :=
  (Spec.applies_iff w_frames).mpr ⟨w_running, w_runnable, w_alone, w_named, w_hears, w_ripe, w_room, w_tables⟩
theorem atStart : AtStart classFile x code maxLocals ret World_1 tables_1 room_1 Calls_1 rest_1 Pre_1 launch0 p0 e0 about1 theMethod args0 below0 :=
  ⟨lists_1, trivial, launch0.admits_env _ _ _, launch0.least_env, fairChoices_fair.cas, fairChoices_fair.clock, w_frames, w_args, w_heap, w_applies, trivial, trivial, w_case⟩
end start1
theorem witness_1 : WitnessClaimed_1 := ⟨start1.p0, start1.e0, start1.about1, start1.theMethod, start1.args0, start1.below0, start1.atStart⟩
end Jvm.Pilot.@@N@@
