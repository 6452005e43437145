import JvmDerived
import JvmDerived.Pilot.@@N@@Statement
import JvmDerived.Pilot.@@N@@Code
set_option linter.unusedVariables false
set_option linter.unusedSimpArgs false
namespace Jvm.Pilot.@@N@@
open Jvm Jvm.ClassFile Sem Op Lib Jvm.Free Jvm.Stand Jvm.LawKit Jvm.RoadKit Bundle Jvm.Pilot.@@N@@.Jvm.D
theorem wdx {a0 : Array Value} {Z : State} (hw : ∀ d ∈ tables_1, d.before a0 Z = true) (i : Nat) {d : Jvm.Cond} (h : tables_1[i]? = some d) : d.before a0 Z = true := hw d (List.mem_of_getElem? h)
/-! the walk in one predicate: from S the run comes to an end at which Q holds -/
def Go (p : Program) (e : Env) (below : List Frame) (s : State) (rc rs : Nat) (Q : Option Value → Heap → List Loc → Prop) (S : State) : Prop :=
  ∃ t o, Steps p.tables e below S t ∧ t.status = .running ∧ Ended t below o ∧ ∃ v L, o = .returned v ∧ Q v t.heap L ∧ FrameEnd s o t L rc rs
section Pre
variable {p : Program} {l : Launch} {e : Env} {R : Room} {s : State} {m : MethodId} {args : Array Value} {below : List Frame} {meth : Method} {c : Code} {T : State} {locs : List Loc} {cells slots rc rs : Nat} {Q : Option Value → Heap → List Loc → Prop} {S S' : State} {h : Heap} {Z : State} {n0 : Nat}
theorem Go.st (k : ∀ t, Steps p.tables e below S' t → Steps p.tables e below S t) (g : Go p e below s rc rs Q S') : Go p e below s rc rs Q S := by
  obtain ⟨t, o, h, r⟩ := g; exact ⟨t, o, k t h, r⟩
theorem Go.tr (k : Steps p.tables e below S S') (g : Go p e below s rc rs Q S') : Go p e below s rc rs Q S := by
  obtain ⟨t, o, h, r⟩ := g; exact ⟨t, o, k.trans h, r⟩
theorem Go.ret (X : Stand p l e R s m args below meth c T locs cells slots) (hx : p.tables.exec = Jvm.exec) (hlk : meth.locks = false) {pc : Nat} {Ls : Array Slot} {w : Value} {t : FieldType} {i : Instr} {rest : List Value} (hret : meth.sig.returnType = some t) (hn : narrow t w = w)
    (hi : (i = .ireturn ∧ (t = .int ∨ t = .boolean ∨ t = .byte ∨ t = .char ∨ t = .short) ∧ ∃ z, w = .int z) ∨ (i = .lreturn ∧ t = .long ∧ ∃ z, w = .long z) ∨ (i = .dreturn ∧ t = .double ∧ ∃ z, w = .double z) ∨ (i = .freturn ∧ t = .float ∧ ∃ z, w = .float z) ∨ (i = .areturn ∧ t.isReference = true ∧ w.isRef = true))
    (hd : decode c.code pc = .ok (i, 1)) (hc : cells ≤ rc) (hs : slots ≤ rs) (hh : T.heap = h) (hq : Q (some w) h locs) : Go p e below s rc rs Q (T.setTop (mkF m pc Ls (w :: rest))) := by
  obtain ⟨fs, hr, hrun, hended, hW, hsame⟩ := X.leave (v := some w) (fun h => by rw [hret] at h; cases h) hlk
  subst hh
  exact ⟨_, _, retOut X hx hret hn hi hd hr, hrun, hended, _, _, rfl, hq, ⟨_, rfl⟩, hW, hsame.mono hc hs⟩
theorem Go.retB (X : Stand p l e R s m args below meth c T locs cells slots) (hx : p.tables.exec = Jvm.exec) (hlk : meth.locks = false) {pc : Nat} {Ls : Array Slot} {z : Int32} {t : FieldType} {rest : List Value} (hret : meth.sig.returnType = some t) (ht : t = .boolean ∨ t = .byte ∨ t = .char ∨ t = .short)
    (hd : decode c.code pc = .ok (.ireturn, 1)) (hc : cells ≤ rc) (hs : slots ≤ rs) (hh : T.heap = h) (hq : Q (some (.int (nar t z))) h locs) : Go p e below s rc rs Q (T.setTop (mkF m pc Ls (.int z :: rest))) := by
  obtain ⟨fs, hr, hrun, hended, hW, hsame⟩ := X.leave (v := some (.int (nar t z))) (fun h => by rw [hret] at h; cases h) hlk
  subst hh
  exact ⟨_, _, retN X hx hret ht hd hr, hrun, hended, _, _, rfl, hq, ⟨_, rfl⟩, hW, hsame.mono hc hs⟩
theorem Go.retV (X : Stand p l e R s m args below meth c T locs cells slots) (hx : p.tables.exec = Jvm.exec) (hlk : meth.locks = false) {pc : Nat} {Ls : Array Slot} (hret : meth.sig.returnType = none)
    (hd : decode c.code pc = .ok (.return_, 1)) (hc : cells ≤ rc) (hs : slots ≤ rs) (hh : T.heap = h) (hq : Q none h locs) : Go p e below s rc rs Q (T.setTop (mkF m pc Ls [])) := by
  obtain ⟨fs, hr, hrun, hended, hW, hsame⟩ := X.leave (v := none) (fun _ => rfl) hlk
  subst hh
  exact ⟨_, _, X.returnOut hx hret hd hr, hrun, hended, _, _, rfl, hq, ⟨_, rfl⟩, hW, hsame.mono hc hs⟩
theorem own_le (O : Old Z n0 h) : n0 ≤ h.size := O.1 ▸ O.2.1
theorem own_nb (b : Bool) : nar .boolean (if b then 1 else 0) = if b then 1 else 0 := by cases b <;> rfl
end Pre
theorem own_en {s : State} {args : Array Value} {C n d K : String} (hx : (Jvm.Cond.exactly (Term.static C n d) K).value args s none s [] = some true) (hi : (Jvm.Cond.initialized C).before args s = true) (hl : (Jvm.Cond.laysStatic C n d).before args s = true) :
    ∃ a, (Term.static C n d).eval args s none [] s = some (.ref a) ∧ Sta s s.heap C n d (.ref a) ∧ Exa s s.heap a K := by
  obtain ⟨a, e1⟩ := exa_v hx
  exact ⟨a, e1, Sta.start e1 (Or.inr ⟨hi, hl⟩), Exa.start e1 hx⟩
theorem own_ef {s : State} {args : Array Value} {t : Term} {a : Addr} {K f d : String} {z : Int32} (ev : t.eval args s none [] s = some (.ref a)) (h : (Jvm.Cond.eq (Term.field t K f d) (Term.int z)).value args s none s [] = some true) : Fld s s.heap a K f d (.int z) :=
  Fld.start ((fld_at ev).symm.trans (eqv_i rfl h))
theorem own_fne {s : State} {h : Heap} {a b : Addr} {K f d : String} {y z : Int32} (F : Fld s h a K f d (.int y)) (G : Fld s h b K f d (.int z)) (q : y ≠ z) : a ≠ b := F.ne G (fun e => q (Value.int.inj e))
theorem own_r14 (y : Int32) (h0 : 0 ≤ y.toInt) (h1 : y.toInt < 14) : y = 0 ∨ y = 1 ∨ y = 2 ∨ y = 3 ∨ y = 4 ∨ y = 5 ∨ y = 6 ∨ y = 7 ∨ y = 8 ∨ y = 9 ∨ y = 10 ∨ y = 11 ∨ y = 12 ∨ y = 13 := by
  have h : y.toInt = 0 ∨ y.toInt = 1 ∨ y.toInt = 2 ∨ y.toInt = 3 ∨ y.toInt = 4 ∨ y.toInt = 5 ∨ y.toInt = 6 ∨ y.toInt = 7 ∨ y.toInt = 8 ∨ y.toInt = 9 ∨ y.toInt = 10 ∨ y.toInt = 11 ∨ y.toInt = 12 ∨ y.toInt = 13 := by omega
  rcases h with h | h | h | h | h | h | h | h | h | h | h | h | h | h
  · exact Or.inl (Int32.toInt_inj.mp h)
  · exact Or.inr (Or.inl (Int32.toInt_inj.mp h))
  · exact Or.inr (Or.inr (Or.inl (Int32.toInt_inj.mp h)))
  · exact Or.inr (Or.inr (Or.inr (Or.inl (Int32.toInt_inj.mp h))))
  · exact Or.inr (Or.inr (Or.inr (Or.inr (Or.inl (Int32.toInt_inj.mp h)))))
  · exact Or.inr (Or.inr (Or.inr (Or.inr (Or.inr (Or.inl (Int32.toInt_inj.mp h))))))
  · exact Or.inr (Or.inr (Or.inr (Or.inr (Or.inr (Or.inr (Or.inl (Int32.toInt_inj.mp h)))))))
  · exact Or.inr (Or.inr (Or.inr (Or.inr (Or.inr (Or.inr (Or.inr (Or.inl (Int32.toInt_inj.mp h))))))))
  · exact Or.inr (Or.inr (Or.inr (Or.inr (Or.inr (Or.inr (Or.inr (Or.inr (Or.inl (Int32.toInt_inj.mp h)))))))))
  · exact Or.inr (Or.inr (Or.inr (Or.inr (Or.inr (Or.inr (Or.inr (Or.inr (Or.inr (Or.inl (Int32.toInt_inj.mp h))))))))))
  · exact Or.inr (Or.inr (Or.inr (Or.inr (Or.inr (Or.inr (Or.inr (Or.inr (Or.inr (Or.inr (Or.inl (Int32.toInt_inj.mp h)))))))))))
  · exact Or.inr (Or.inr (Or.inr (Or.inr (Or.inr (Or.inr (Or.inr (Or.inr (Or.inr (Or.inr (Or.inr (Or.inl (Int32.toInt_inj.mp h))))))))))))
  · exact Or.inr (Or.inr (Or.inr (Or.inr (Or.inr (Or.inr (Or.inr (Or.inr (Or.inr (Or.inr (Or.inr (Or.inr (Or.inl (Int32.toInt_inj.mp h)))))))))))))
  · exact Or.inr (Or.inr (Or.inr (Or.inr (Or.inr (Or.inr (Or.inr (Or.inr (Or.inr (Or.inr (Or.inr (Or.inr (Or.inr ((Int32.toInt_inj.mp h))))))))))))))
theorem own_c14 (u : Int32) : let y := (u &&& (2147483647 : Int32)) % (14 : Int32); y = 0 ∨ y = 1 ∨ y = 2 ∨ y = 3 ∨ y = 4 ∨ y = 5 ∨ y = 6 ∨ y = 7 ∨ y = 8 ∨ y = 9 ∨ y = 10 ∨ y = 11 ∨ y = 12 ∨ y = 13 := by
  intro y
  have hp : 0 ≤ (u &&& (2147483647 : Int32)).toInt := (c_andS u 2147483647).2.2 (by decide)
  have hm : y.toInt = (u &&& (2147483647 : Int32)).toInt % 14 := (c_irem (u &&& (2147483647 : Int32)) 14 14 rfl).1 hp
  exact own_r14 y (by omega) (by omega)
def fpick (u : Int32) (a_PRODUCE : Addr) (a_FETCH : Addr) (a_LIST_OFFSETS : Addr) (a_METADATA : Addr) (a_OFFSET_COMMIT : Addr) (a_OFFSET_FETCH : Addr) (a_FIND_COORDINATOR : Addr) (a_JOIN_GROUP : Addr) (a_HEARTBEAT : Addr) (a_LEAVE_GROUP : Addr) (a_SYNC_GROUP : Addr) (a_DESCRIBE_GROUPS : Addr) (a_LIST_GROUPS : Addr) (a_API_VERSIONS : Addr) : Addr := if u = 0 then a_PRODUCE else if u = 1 then a_FETCH else if u = 2 then a_LIST_OFFSETS else if u = 3 then a_METADATA else if u = 4 then a_OFFSET_COMMIT else if u = 5 then a_OFFSET_FETCH else if u = 6 then a_FIND_COORDINATOR else if u = 7 then a_JOIN_GROUP else if u = 8 then a_HEARTBEAT else if u = 9 then a_LEAVE_GROUP else if u = 10 then a_SYNC_GROUP else if u = 11 then a_DESCRIBE_GROUPS else if u = 12 then a_LIST_GROUPS else a_API_VERSIONS
def flo (u : Int32) : Int32 := if u = 0 then 3 else if u = 1 then 4 else if u = 2 then 1 else if u = 4 then 2 else if u = 5 then 1 else 0
def fhi (u : Int32) : Int32 := if u = 0 then 3 else if u = 1 then 11 else if u = 2 then 2 else if u = 3 then 4 else if u = 4 then 7 else if u = 5 then 7 else if u = 6 then 2 else if u = 7 then 5 else if u = 8 then 3 else if u = 9 then 3 else if u = 10 then 3 else if u = 11 then 4 else if u = 12 then 0 else 3
theorem d1_0 : decode method_2_code 0 = .ok (.iload_n 0, 1) := by decide +kernel
theorem d1_1 : decode method_2_code 1 = .ok (.ifCond .ne 7, 3) := by decide +kernel
theorem d1_4 : decode method_2_code 4 = .ok (.getstatic 7, 3) := by decide +kernel
theorem d1_7 : decode method_2_code 7 = .ok (.areturn, 1) := by decide +kernel
theorem d1_8 : decode method_2_code 8 = .ok (.iload_n 0, 1) := by decide +kernel
theorem d1_9 : decode method_2_code 9 = .ok (.iconst 1, 1) := by decide +kernel
theorem d1_10 : decode method_2_code 10 = .ok (.if_icmp .ne 7, 3) := by decide +kernel
theorem d1_13 : decode method_2_code 13 = .ok (.getstatic 13, 3) := by decide +kernel
theorem d1_16 : decode method_2_code 16 = .ok (.areturn, 1) := by decide +kernel
theorem d1_17 : decode method_2_code 17 = .ok (.iload_n 0, 1) := by decide +kernel
theorem d1_18 : decode method_2_code 18 = .ok (.iconst 2, 1) := by decide +kernel
theorem d1_19 : decode method_2_code 19 = .ok (.if_icmp .ne 7, 3) := by decide +kernel
theorem d1_22 : decode method_2_code 22 = .ok (.getstatic 16, 3) := by decide +kernel
theorem d1_25 : decode method_2_code 25 = .ok (.areturn, 1) := by decide +kernel
theorem d1_26 : decode method_2_code 26 = .ok (.iload_n 0, 1) := by decide +kernel
theorem d1_27 : decode method_2_code 27 = .ok (.iconst 3, 1) := by decide +kernel
theorem d1_28 : decode method_2_code 28 = .ok (.if_icmp .ne 7, 3) := by decide +kernel
theorem d1_31 : decode method_2_code 31 = .ok (.getstatic 19, 3) := by decide +kernel
theorem d1_34 : decode method_2_code 34 = .ok (.areturn, 1) := by decide +kernel
theorem d1_35 : decode method_2_code 35 = .ok (.iload_n 0, 1) := by decide +kernel
theorem d1_36 : decode method_2_code 36 = .ok (.iconst 4, 1) := by decide +kernel
theorem d1_37 : decode method_2_code 37 = .ok (.if_icmp .ne 7, 3) := by decide +kernel
theorem d1_40 : decode method_2_code 40 = .ok (.getstatic 22, 3) := by decide +kernel
theorem d1_43 : decode method_2_code 43 = .ok (.areturn, 1) := by decide +kernel
theorem d1_44 : decode method_2_code 44 = .ok (.iload_n 0, 1) := by decide +kernel
theorem d1_45 : decode method_2_code 45 = .ok (.iconst 5, 1) := by decide +kernel
theorem d1_46 : decode method_2_code 46 = .ok (.if_icmp .ne 7, 3) := by decide +kernel
theorem d1_49 : decode method_2_code 49 = .ok (.getstatic 25, 3) := by decide +kernel
theorem d1_52 : decode method_2_code 52 = .ok (.areturn, 1) := by decide +kernel
theorem d1_53 : decode method_2_code 53 = .ok (.iload_n 0, 1) := by decide +kernel
theorem d1_54 : decode method_2_code 54 = .ok (.bipush 6, 2) := by decide +kernel
theorem d1_56 : decode method_2_code 56 = .ok (.if_icmp .ne 7, 3) := by decide +kernel
theorem d1_59 : decode method_2_code 59 = .ok (.getstatic 28, 3) := by decide +kernel
theorem d1_62 : decode method_2_code 62 = .ok (.areturn, 1) := by decide +kernel
theorem d1_63 : decode method_2_code 63 = .ok (.iload_n 0, 1) := by decide +kernel
theorem d1_64 : decode method_2_code 64 = .ok (.bipush 7, 2) := by decide +kernel
theorem d1_66 : decode method_2_code 66 = .ok (.if_icmp .ne 7, 3) := by decide +kernel
theorem d1_69 : decode method_2_code 69 = .ok (.getstatic 31, 3) := by decide +kernel
theorem d1_72 : decode method_2_code 72 = .ok (.areturn, 1) := by decide +kernel
theorem d1_73 : decode method_2_code 73 = .ok (.iload_n 0, 1) := by decide +kernel
theorem d1_74 : decode method_2_code 74 = .ok (.bipush 8, 2) := by decide +kernel
theorem d1_76 : decode method_2_code 76 = .ok (.if_icmp .ne 7, 3) := by decide +kernel
theorem d1_79 : decode method_2_code 79 = .ok (.getstatic 34, 3) := by decide +kernel
theorem d1_82 : decode method_2_code 82 = .ok (.areturn, 1) := by decide +kernel
theorem d1_83 : decode method_2_code 83 = .ok (.iload_n 0, 1) := by decide +kernel
theorem d1_84 : decode method_2_code 84 = .ok (.bipush 9, 2) := by decide +kernel
theorem d1_86 : decode method_2_code 86 = .ok (.if_icmp .ne 7, 3) := by decide +kernel
theorem d1_89 : decode method_2_code 89 = .ok (.getstatic 37, 3) := by decide +kernel
theorem d1_92 : decode method_2_code 92 = .ok (.areturn, 1) := by decide +kernel
theorem d1_93 : decode method_2_code 93 = .ok (.iload_n 0, 1) := by decide +kernel
theorem d1_94 : decode method_2_code 94 = .ok (.bipush 10, 2) := by decide +kernel
theorem d1_96 : decode method_2_code 96 = .ok (.if_icmp .ne 7, 3) := by decide +kernel
theorem d1_99 : decode method_2_code 99 = .ok (.getstatic 40, 3) := by decide +kernel
theorem d1_102 : decode method_2_code 102 = .ok (.areturn, 1) := by decide +kernel
theorem d1_103 : decode method_2_code 103 = .ok (.iload_n 0, 1) := by decide +kernel
theorem d1_104 : decode method_2_code 104 = .ok (.bipush 11, 2) := by decide +kernel
theorem d1_106 : decode method_2_code 106 = .ok (.if_icmp .ne 7, 3) := by decide +kernel
theorem d1_109 : decode method_2_code 109 = .ok (.getstatic 43, 3) := by decide +kernel
theorem d1_112 : decode method_2_code 112 = .ok (.areturn, 1) := by decide +kernel
theorem d1_113 : decode method_2_code 113 = .ok (.iload_n 0, 1) := by decide +kernel
theorem d1_114 : decode method_2_code 114 = .ok (.bipush 12, 2) := by decide +kernel
theorem d1_116 : decode method_2_code 116 = .ok (.if_icmp .ne 7, 3) := by decide +kernel
theorem d1_119 : decode method_2_code 119 = .ok (.getstatic 46, 3) := by decide +kernel
theorem d1_122 : decode method_2_code 122 = .ok (.areturn, 1) := by decide +kernel
theorem d1_123 : decode method_2_code 123 = .ok (.getstatic 49, 3) := by decide +kernel
theorem d1_126 : decode method_2_code 126 = .ok (.areturn, 1) := by decide +kernel
theorem pn_com_example_tenure_of_partitions_tenureofpartitions_ApiKeyServesPinLaw : plainName "com/example/tenure_of_partitions/tenureofpartitions/ApiKeyServesPinLaw" = true := by first | (simp [plainName, overriddenIn]; done) | decide +kernel
theorem ef_rm1 (m : MethodId) (u : Int32) : entryFrame m #[(.int u)] 1 = mkF m 0 #[.val (.int u)] [] := by first | (simp [entryFrame, mkF, argsToLocals, Value.category]; done) | rfl
def Q1 (Z : State) (u : Int32) (a_PRODUCE : Addr) (a_FETCH : Addr) (a_LIST_OFFSETS : Addr) (a_METADATA : Addr) (a_OFFSET_COMMIT : Addr) (a_OFFSET_FETCH : Addr) (a_FIND_COORDINATOR : Addr) (a_JOIN_GROUP : Addr) (a_HEARTBEAT : Addr) (a_LEAVE_GROUP : Addr) (a_SYNC_GROUP : Addr) (a_DESCRIBE_GROUPS : Addr) (a_LIST_GROUPS : Addr) (a_API_VERSIONS : Addr) (h0 : Heap) (n0 : Nat) (v : Option Value) (h : Heap) (L : List Loc) : Prop := v = some (.ref (fpick u a_PRODUCE a_FETCH a_LIST_OFFSETS a_METADATA a_OFFSET_COMMIT a_OFFSET_FETCH a_FIND_COORDINATOR a_JOIN_GROUP a_HEARTBEAT a_LEAVE_GROUP a_SYNC_GROUP a_DESCRIBE_GROUPS a_LIST_GROUPS a_API_VERSIONS)) ∧ Fr n0 L ∧ h = h0
set_option maxRecDepth 65536 in
set_option maxHeartbeats 40000000 in
theorem rm1 (l : Launch) (Z : State) (a0 : Array Value) (hw : ∀ d ∈ tables_1, d.before a0 Z = true) (ws : List Jvm.Cond) (u : Int32) (a_PRODUCE : Addr) (a_FETCH : Addr) (a_LIST_OFFSETS : Addr) (a_METADATA : Addr) (a_OFFSET_COMMIT : Addr) (a_OFFSET_FETCH : Addr) (a_FIND_COORDINATOR : Addr) (a_JOIN_GROUP : Addr) (a_HEARTBEAT : Addr) (a_LEAVE_GROUP : Addr) (a_SYNC_GROUP : Addr) (a_DESCRIBE_GROUPS : Addr) (a_LIST_GROUPS : Addr) (a_API_VERSIONS : Addr) (h0 : Heap) (n0 : Nat) (O0 : Old Z n0 h0) (S_PRODUCE : Sta Z Z.heap "com/example/tenure_of_partitions/tenureofpartitions/ApiKey" "PRODUCE" "Lcom/example/tenure_of_partitions/tenureofpartitions/ApiKey;" (.ref a_PRODUCE)) (S_FETCH : Sta Z Z.heap "com/example/tenure_of_partitions/tenureofpartitions/ApiKey" "FETCH" "Lcom/example/tenure_of_partitions/tenureofpartitions/ApiKey;" (.ref a_FETCH)) (S_LIST_OFFSETS : Sta Z Z.heap "com/example/tenure_of_partitions/tenureofpartitions/ApiKey" "LIST_OFFSETS" "Lcom/example/tenure_of_partitions/tenureofpartitions/ApiKey;" (.ref a_LIST_OFFSETS)) (S_METADATA : Sta Z Z.heap "com/example/tenure_of_partitions/tenureofpartitions/ApiKey" "METADATA" "Lcom/example/tenure_of_partitions/tenureofpartitions/ApiKey;" (.ref a_METADATA)) (S_OFFSET_COMMIT : Sta Z Z.heap "com/example/tenure_of_partitions/tenureofpartitions/ApiKey" "OFFSET_COMMIT" "Lcom/example/tenure_of_partitions/tenureofpartitions/ApiKey;" (.ref a_OFFSET_COMMIT)) (S_OFFSET_FETCH : Sta Z Z.heap "com/example/tenure_of_partitions/tenureofpartitions/ApiKey" "OFFSET_FETCH" "Lcom/example/tenure_of_partitions/tenureofpartitions/ApiKey;" (.ref a_OFFSET_FETCH)) (S_FIND_COORDINATOR : Sta Z Z.heap "com/example/tenure_of_partitions/tenureofpartitions/ApiKey" "FIND_COORDINATOR" "Lcom/example/tenure_of_partitions/tenureofpartitions/ApiKey;" (.ref a_FIND_COORDINATOR)) (S_JOIN_GROUP : Sta Z Z.heap "com/example/tenure_of_partitions/tenureofpartitions/ApiKey" "JOIN_GROUP" "Lcom/example/tenure_of_partitions/tenureofpartitions/ApiKey;" (.ref a_JOIN_GROUP)) (S_HEARTBEAT : Sta Z Z.heap "com/example/tenure_of_partitions/tenureofpartitions/ApiKey" "HEARTBEAT" "Lcom/example/tenure_of_partitions/tenureofpartitions/ApiKey;" (.ref a_HEARTBEAT)) (S_LEAVE_GROUP : Sta Z Z.heap "com/example/tenure_of_partitions/tenureofpartitions/ApiKey" "LEAVE_GROUP" "Lcom/example/tenure_of_partitions/tenureofpartitions/ApiKey;" (.ref a_LEAVE_GROUP)) (S_SYNC_GROUP : Sta Z Z.heap "com/example/tenure_of_partitions/tenureofpartitions/ApiKey" "SYNC_GROUP" "Lcom/example/tenure_of_partitions/tenureofpartitions/ApiKey;" (.ref a_SYNC_GROUP)) (S_DESCRIBE_GROUPS : Sta Z Z.heap "com/example/tenure_of_partitions/tenureofpartitions/ApiKey" "DESCRIBE_GROUPS" "Lcom/example/tenure_of_partitions/tenureofpartitions/ApiKey;" (.ref a_DESCRIBE_GROUPS)) (S_LIST_GROUPS : Sta Z Z.heap "com/example/tenure_of_partitions/tenureofpartitions/ApiKey" "LIST_GROUPS" "Lcom/example/tenure_of_partitions/tenureofpartitions/ApiKey;" (.ref a_LIST_GROUPS)) (S_API_VERSIONS : Sta Z Z.heap "com/example/tenure_of_partitions/tenureofpartitions/ApiKey" "API_VERSIONS" "Lcom/example/tenure_of_partitions/tenureofpartitions/ApiKey;" (.ref a_API_VERSIONS)) :
    MetFree l (⟨"com/example/tenure_of_partitions/tenureofpartitions/ApiKeyServesPinLaw", "pick", "(I)Lcom/example/tenure_of_partitions/tenureofpartitions/ApiKey;"⟩ : MethodName) (head1 (Jvm.Cond.code (⟨"com/example/tenure_of_partitions/tenureofpartitions/ApiKeyServesPinLaw", "pick", "(I)Lcom/example/tenure_of_partitions/tenureofpartitions/ApiKey;"⟩ : MethodName) method_2_code 1 (some (.object "com/example/tenure_of_partitions/tenureofpartitions/ApiKey")) :: ws) ({ frames := 0, cells := 0, slots := 0, locals := 0 } : Room)) (fun ay U => ay = #[(.int u)] ∧ Z.Warmed39 U.vm ∧ U.heap = h0) (fun _ _ _ _ _ => True) (fun _ U o U' => ∃ v L, o = .returned v ∧ Q1 Z u a_PRODUCE a_FETCH a_LIST_OFFSETS a_METADATA a_OFFSET_COMMIT a_OFFSET_FETCH a_FIND_COORDINATOR a_JOIN_GROUP a_HEARTBEAT a_LEAVE_GROUP a_SYNC_GROUP a_DESCRIBE_GROUPS a_LIST_GROUPS a_API_VERSIONS h0 n0 v U'.heap L ∧ FrameEnd U o U' L ({ frames := 0, cells := 0, slots := 0, locals := 0 } : Room).cells ({ frames := 0, cells := 0, slots := 0, locals := 0 } : Room).slots) := by
  refine MetFree.of_bodySF (plainFor_of_name pn_com_example_tenure_of_partitions_tenureofpartitions_ApiKeyServesPinLaw) hisR ?_
  intro p e s m args below meth c s₁ Bd hml0 hP hK
  obtain ⟨rfl, hZ, hh⟩ := hP
  have hx := Bd.exec
  have hby := Bd.bytes
  have hlk : meth.locks = false := BodyLoose.notSynchronized Bd
  have hml : c.maxLocals = 1 := hml0
  have hown : s.vm.findClass "com/example/tenure_of_partitions/tenureofpartitions/ApiKeyServesPinLaw" = some m.cls := findClass_of_methodNamed Bd.named
  have hnm := (name_of_methodNamed Bd.named Bd.method).1
  have X0 : Stand p l e ({ frames := 0, cells := 0, slots := 0, locals := 0 } : Room) s m #[(.int u)] below meth c s₁ [] 0 0 := Stand.of_body Bd
  have e0 : s₁.heap = h0 := by rw [← hh, Bd.state]; rfl
  have N0 := Fr.nil n0
  suffices hgo : Go p e below s 0 0 (Q1 Z u a_PRODUCE a_FETCH a_LIST_OFFSETS a_METADATA a_OFFSET_COMMIT a_OFFSET_FETCH a_FIND_COORDINATOR a_JOIN_GROUP a_HEARTBEAT a_LEAVE_GROUP a_SYNC_GROUP a_DESCRIBE_GROUPS a_LIST_GROUPS a_API_VERSIONS h0 n0) (s₁.setTop (mkF m 0 #[.val (.int u)] [])) by
    obtain ⟨t, o, h1, h2⟩ := hgo; exact ⟨t, o, castTop (ef_rm1 m u) h1, h2⟩
  show Go p e below s _ _ _ (s₁.setTop (mkF m 0 #[.val (.int u)] []))
  refine Go.st (fun _ k' => XS.iloadN X0.here hx rfl (hb hby d1_0) rfl k') ?_
  show Go p e below s _ _ _ (s₁.setTop (mkF m 1 #[.val (.int u)] [(.int u)]))
  by_cases hc1 : u = (0 : Int32)
  · refine Go.st (fun _ k' => XS.ifNo X0.here hx rfl (hb hby d1_1) rfl (XT.i0_ne_f hc1) k') ?_
    show Go p e below s _ _ _ (s₁.setTop (mkF m 4 #[.val (.int u)] []))
    obtain ⟨T2, X2, e2, st2⟩ := getS2 X0 hx hZ hown (host := "") (Or.inl (wdx hw 5 rfl)) Via.refl e0 (S_PRODUCE.ext O0.2) (g := (mkF m 4 #[.val (.int u)] [])) rfl (hb hby d1_4)
    refine Go.st st2 ?_
    show Go p e below s _ _ _ (T2.setTop (mkF m 7 #[.val (.int u)] [(.ref a_PRODUCE)]))
    refine Go.ret X2 hx hlk (t := (.object "com/example/tenure_of_partitions/tenureofpartitions/ApiKey")) Bd.returns rfl (Or.inr (Or.inr (Or.inr (Or.inr ⟨rfl, rfl, rfl⟩)))) (hb hby d1_7) (by decide) (by decide) e2 ?_
    exact ⟨(by simp [fpick, hc1]), N0, rfl⟩
  · refine Go.st (fun _ k' => XS.ifYes X0.here hx rfl (pc0 := 1) (pc' := 8) rfl (hb hby d1_1) rfl (XT.i0_ne_t hc1) (by decide) (by decide) k') ?_
    show Go p e below s _ _ _ (s₁.setTop (mkF m 8 #[.val (.int u)] []))
    refine Go.st (fun _ k' => XS.iloadN X0.here hx rfl (hb hby d1_8) rfl k') ?_
    show Go p e below s _ _ _ (s₁.setTop (mkF m 9 #[.val (.int u)] [(.int u)]))
    refine Go.st (fun _ k' => XS.iconst X0.here hx rfl (hb hby d1_9) k') ?_
    show Go p e below s _ _ _ (s₁.setTop (mkF m 10 #[.val (.int u)] [(.int (1 : Int32)), (.int u)]))
    by_cases hc3 : u = (1 : Int32)
    · refine Go.st (fun _ k' => XS.icmpNo X0.here hx rfl (hb hby d1_10) rfl (XT.ii_ne_f hc3) k') ?_
      show Go p e below s _ _ _ (s₁.setTop (mkF m 13 #[.val (.int u)] []))
      obtain ⟨T4, X4, e4, st4⟩ := getS2 X0 hx hZ hown (host := "") (Or.inl (wdx hw 41 rfl)) Via.refl e0 (S_FETCH.ext O0.2) (g := (mkF m 13 #[.val (.int u)] [])) rfl (hb hby d1_13)
      refine Go.st st4 ?_
      show Go p e below s _ _ _ (T4.setTop (mkF m 16 #[.val (.int u)] [(.ref a_FETCH)]))
      refine Go.ret X4 hx hlk (t := (.object "com/example/tenure_of_partitions/tenureofpartitions/ApiKey")) Bd.returns rfl (Or.inr (Or.inr (Or.inr (Or.inr ⟨rfl, rfl, rfl⟩)))) (hb hby d1_16) (by decide) (by decide) e4 ?_
      exact ⟨(by simp [fpick, hc1, hc3]), N0, rfl⟩
    · refine Go.st (fun _ k' => XS.icmpYes X0.here hx rfl (pc0 := 10) (pc' := 17) rfl (hb hby d1_10) rfl (XT.ii_ne_t hc3) (by decide) (by decide) k') ?_
      show Go p e below s _ _ _ (s₁.setTop (mkF m 17 #[.val (.int u)] []))
      refine Go.st (fun _ k' => XS.iloadN X0.here hx rfl (hb hby d1_17) rfl k') ?_
      show Go p e below s _ _ _ (s₁.setTop (mkF m 18 #[.val (.int u)] [(.int u)]))
      refine Go.st (fun _ k' => XS.iconst X0.here hx rfl (hb hby d1_18) k') ?_
      show Go p e below s _ _ _ (s₁.setTop (mkF m 19 #[.val (.int u)] [(.int (2 : Int32)), (.int u)]))
      by_cases hc5 : u = (2 : Int32)
      · refine Go.st (fun _ k' => XS.icmpNo X0.here hx rfl (hb hby d1_19) rfl (XT.ii_ne_f hc5) k') ?_
        show Go p e below s _ _ _ (s₁.setTop (mkF m 22 #[.val (.int u)] []))
        obtain ⟨T6, X6, e6, st6⟩ := getS2 X0 hx hZ hown (host := "") (Or.inl (wdx hw 43 rfl)) Via.refl e0 (S_LIST_OFFSETS.ext O0.2) (g := (mkF m 22 #[.val (.int u)] [])) rfl (hb hby d1_22)
        refine Go.st st6 ?_
        show Go p e below s _ _ _ (T6.setTop (mkF m 25 #[.val (.int u)] [(.ref a_LIST_OFFSETS)]))
        refine Go.ret X6 hx hlk (t := (.object "com/example/tenure_of_partitions/tenureofpartitions/ApiKey")) Bd.returns rfl (Or.inr (Or.inr (Or.inr (Or.inr ⟨rfl, rfl, rfl⟩)))) (hb hby d1_25) (by decide) (by decide) e6 ?_
        exact ⟨(by simp [fpick, hc1, hc3, hc5]), N0, rfl⟩
      · refine Go.st (fun _ k' => XS.icmpYes X0.here hx rfl (pc0 := 19) (pc' := 26) rfl (hb hby d1_19) rfl (XT.ii_ne_t hc5) (by decide) (by decide) k') ?_
        show Go p e below s _ _ _ (s₁.setTop (mkF m 26 #[.val (.int u)] []))
        refine Go.st (fun _ k' => XS.iloadN X0.here hx rfl (hb hby d1_26) rfl k') ?_
        show Go p e below s _ _ _ (s₁.setTop (mkF m 27 #[.val (.int u)] [(.int u)]))
        refine Go.st (fun _ k' => XS.iconst X0.here hx rfl (hb hby d1_27) k') ?_
        show Go p e below s _ _ _ (s₁.setTop (mkF m 28 #[.val (.int u)] [(.int (3 : Int32)), (.int u)]))
        by_cases hc7 : u = (3 : Int32)
        · refine Go.st (fun _ k' => XS.icmpNo X0.here hx rfl (hb hby d1_28) rfl (XT.ii_ne_f hc7) k') ?_
          show Go p e below s _ _ _ (s₁.setTop (mkF m 31 #[.val (.int u)] []))
          obtain ⟨T8, X8, e8, st8⟩ := getS2 X0 hx hZ hown (host := "") (Or.inl (wdx hw 37 rfl)) Via.refl e0 (S_METADATA.ext O0.2) (g := (mkF m 31 #[.val (.int u)] [])) rfl (hb hby d1_31)
          refine Go.st st8 ?_
          show Go p e below s _ _ _ (T8.setTop (mkF m 34 #[.val (.int u)] [(.ref a_METADATA)]))
          refine Go.ret X8 hx hlk (t := (.object "com/example/tenure_of_partitions/tenureofpartitions/ApiKey")) Bd.returns rfl (Or.inr (Or.inr (Or.inr (Or.inr ⟨rfl, rfl, rfl⟩)))) (hb hby d1_34) (by decide) (by decide) e8 ?_
          exact ⟨(by simp [fpick, hc1, hc3, hc5, hc7]), N0, rfl⟩
        · refine Go.st (fun _ k' => XS.icmpYes X0.here hx rfl (pc0 := 28) (pc' := 35) rfl (hb hby d1_28) rfl (XT.ii_ne_t hc7) (by decide) (by decide) k') ?_
          show Go p e below s _ _ _ (s₁.setTop (mkF m 35 #[.val (.int u)] []))
          refine Go.st (fun _ k' => XS.iloadN X0.here hx rfl (hb hby d1_35) rfl k') ?_
          show Go p e below s _ _ _ (s₁.setTop (mkF m 36 #[.val (.int u)] [(.int u)]))
          refine Go.st (fun _ k' => XS.iconst X0.here hx rfl (hb hby d1_36) k') ?_
          show Go p e below s _ _ _ (s₁.setTop (mkF m 37 #[.val (.int u)] [(.int (4 : Int32)), (.int u)]))
          by_cases hc9 : u = (4 : Int32)
          · refine Go.st (fun _ k' => XS.icmpNo X0.here hx rfl (hb hby d1_37) rfl (XT.ii_ne_f hc9) k') ?_
            show Go p e below s _ _ _ (s₁.setTop (mkF m 40 #[.val (.int u)] []))
            obtain ⟨T10, X10, e10, st10⟩ := getS2 X0 hx hZ hown (host := "") (Or.inl (wdx hw 27 rfl)) Via.refl e0 (S_OFFSET_COMMIT.ext O0.2) (g := (mkF m 40 #[.val (.int u)] [])) rfl (hb hby d1_40)
            refine Go.st st10 ?_
            show Go p e below s _ _ _ (T10.setTop (mkF m 43 #[.val (.int u)] [(.ref a_OFFSET_COMMIT)]))
            refine Go.ret X10 hx hlk (t := (.object "com/example/tenure_of_partitions/tenureofpartitions/ApiKey")) Bd.returns rfl (Or.inr (Or.inr (Or.inr (Or.inr ⟨rfl, rfl, rfl⟩)))) (hb hby d1_43) (by decide) (by decide) e10 ?_
            exact ⟨(by simp [fpick, hc1, hc3, hc5, hc7, hc9]), N0, rfl⟩
          · refine Go.st (fun _ k' => XS.icmpYes X0.here hx rfl (pc0 := 37) (pc' := 44) rfl (hb hby d1_37) rfl (XT.ii_ne_t hc9) (by decide) (by decide) k') ?_
            show Go p e below s _ _ _ (s₁.setTop (mkF m 44 #[.val (.int u)] []))
            refine Go.st (fun _ k' => XS.iloadN X0.here hx rfl (hb hby d1_44) rfl k') ?_
            show Go p e below s _ _ _ (s₁.setTop (mkF m 45 #[.val (.int u)] [(.int u)]))
            refine Go.st (fun _ k' => XS.iconst X0.here hx rfl (hb hby d1_45) k') ?_
            show Go p e below s _ _ _ (s₁.setTop (mkF m 46 #[.val (.int u)] [(.int (5 : Int32)), (.int u)]))
            by_cases hc11 : u = (5 : Int32)
            · refine Go.st (fun _ k' => XS.icmpNo X0.here hx rfl (hb hby d1_46) rfl (XT.ii_ne_f hc11) k') ?_
              show Go p e below s _ _ _ (s₁.setTop (mkF m 49 #[.val (.int u)] []))
              obtain ⟨T12, X12, e12, st12⟩ := getS2 X0 hx hZ hown (host := "") (Or.inl (wdx hw 39 rfl)) Via.refl e0 (S_OFFSET_FETCH.ext O0.2) (g := (mkF m 49 #[.val (.int u)] [])) rfl (hb hby d1_49)
              refine Go.st st12 ?_
              show Go p e below s _ _ _ (T12.setTop (mkF m 52 #[.val (.int u)] [(.ref a_OFFSET_FETCH)]))
              refine Go.ret X12 hx hlk (t := (.object "com/example/tenure_of_partitions/tenureofpartitions/ApiKey")) Bd.returns rfl (Or.inr (Or.inr (Or.inr (Or.inr ⟨rfl, rfl, rfl⟩)))) (hb hby d1_52) (by decide) (by decide) e12 ?_
              exact ⟨(by simp [fpick, hc1, hc3, hc5, hc7, hc9, hc11]), N0, rfl⟩
            · refine Go.st (fun _ k' => XS.icmpYes X0.here hx rfl (pc0 := 46) (pc' := 53) rfl (hb hby d1_46) rfl (XT.ii_ne_t hc11) (by decide) (by decide) k') ?_
              show Go p e below s _ _ _ (s₁.setTop (mkF m 53 #[.val (.int u)] []))
              refine Go.st (fun _ k' => XS.iloadN X0.here hx rfl (hb hby d1_53) rfl k') ?_
              show Go p e below s _ _ _ (s₁.setTop (mkF m 54 #[.val (.int u)] [(.int u)]))
              refine Go.st (fun _ k' => XS.bipush X0.here hx rfl (hb hby d1_54) k') ?_
              show Go p e below s _ _ _ (s₁.setTop (mkF m 56 #[.val (.int u)] [(.int (6 : Int32)), (.int u)]))
              by_cases hc13 : u = (6 : Int32)
              · refine Go.st (fun _ k' => XS.icmpNo X0.here hx rfl (hb hby d1_56) rfl (XT.ii_ne_f hc13) k') ?_
                show Go p e below s _ _ _ (s₁.setTop (mkF m 59 #[.val (.int u)] []))
                obtain ⟨T14, X14, e14, st14⟩ := getS2 X0 hx hZ hown (host := "") (Or.inl (wdx hw 31 rfl)) Via.refl e0 (S_FIND_COORDINATOR.ext O0.2) (g := (mkF m 59 #[.val (.int u)] [])) rfl (hb hby d1_59)
                refine Go.st st14 ?_
                show Go p e below s _ _ _ (T14.setTop (mkF m 62 #[.val (.int u)] [(.ref a_FIND_COORDINATOR)]))
                refine Go.ret X14 hx hlk (t := (.object "com/example/tenure_of_partitions/tenureofpartitions/ApiKey")) Bd.returns rfl (Or.inr (Or.inr (Or.inr (Or.inr ⟨rfl, rfl, rfl⟩)))) (hb hby d1_62) (by decide) (by decide) e14 ?_
                exact ⟨(by simp [fpick, hc1, hc3, hc5, hc7, hc9, hc11, hc13]), N0, rfl⟩
              · refine Go.st (fun _ k' => XS.icmpYes X0.here hx rfl (pc0 := 56) (pc' := 63) rfl (hb hby d1_56) rfl (XT.ii_ne_t hc13) (by decide) (by decide) k') ?_
                show Go p e below s _ _ _ (s₁.setTop (mkF m 63 #[.val (.int u)] []))
                refine Go.st (fun _ k' => XS.iloadN X0.here hx rfl (hb hby d1_63) rfl k') ?_
                show Go p e below s _ _ _ (s₁.setTop (mkF m 64 #[.val (.int u)] [(.int u)]))
                refine Go.st (fun _ k' => XS.bipush X0.here hx rfl (hb hby d1_64) k') ?_
                show Go p e below s _ _ _ (s₁.setTop (mkF m 66 #[.val (.int u)] [(.int (7 : Int32)), (.int u)]))
                by_cases hc15 : u = (7 : Int32)
                · refine Go.st (fun _ k' => XS.icmpNo X0.here hx rfl (hb hby d1_66) rfl (XT.ii_ne_f hc15) k') ?_
                  show Go p e below s _ _ _ (s₁.setTop (mkF m 69 #[.val (.int u)] []))
                  obtain ⟨T16, X16, e16, st16⟩ := getS2 X0 hx hZ hown (host := "") (Or.inl (wdx hw 35 rfl)) Via.refl e0 (S_JOIN_GROUP.ext O0.2) (g := (mkF m 69 #[.val (.int u)] [])) rfl (hb hby d1_69)
                  refine Go.st st16 ?_
                  show Go p e below s _ _ _ (T16.setTop (mkF m 72 #[.val (.int u)] [(.ref a_JOIN_GROUP)]))
                  refine Go.ret X16 hx hlk (t := (.object "com/example/tenure_of_partitions/tenureofpartitions/ApiKey")) Bd.returns rfl (Or.inr (Or.inr (Or.inr (Or.inr ⟨rfl, rfl, rfl⟩)))) (hb hby d1_72) (by decide) (by decide) e16 ?_
                  exact ⟨(by simp [fpick, hc1, hc3, hc5, hc7, hc9, hc11, hc13, hc15]), N0, rfl⟩
                · refine Go.st (fun _ k' => XS.icmpYes X0.here hx rfl (pc0 := 66) (pc' := 73) rfl (hb hby d1_66) rfl (XT.ii_ne_t hc15) (by decide) (by decide) k') ?_
                  show Go p e below s _ _ _ (s₁.setTop (mkF m 73 #[.val (.int u)] []))
                  refine Go.st (fun _ k' => XS.iloadN X0.here hx rfl (hb hby d1_73) rfl k') ?_
                  show Go p e below s _ _ _ (s₁.setTop (mkF m 74 #[.val (.int u)] [(.int u)]))
                  refine Go.st (fun _ k' => XS.bipush X0.here hx rfl (hb hby d1_74) k') ?_
                  show Go p e below s _ _ _ (s₁.setTop (mkF m 76 #[.val (.int u)] [(.int (8 : Int32)), (.int u)]))
                  by_cases hc17 : u = (8 : Int32)
                  · refine Go.st (fun _ k' => XS.icmpNo X0.here hx rfl (hb hby d1_76) rfl (XT.ii_ne_f hc17) k') ?_
                    show Go p e below s _ _ _ (s₁.setTop (mkF m 79 #[.val (.int u)] []))
                    obtain ⟨T18, X18, e18, st18⟩ := getS2 X0 hx hZ hown (host := "") (Or.inl (wdx hw 25 rfl)) Via.refl e0 (S_HEARTBEAT.ext O0.2) (g := (mkF m 79 #[.val (.int u)] [])) rfl (hb hby d1_79)
                    refine Go.st st18 ?_
                    show Go p e below s _ _ _ (T18.setTop (mkF m 82 #[.val (.int u)] [(.ref a_HEARTBEAT)]))
                    refine Go.ret X18 hx hlk (t := (.object "com/example/tenure_of_partitions/tenureofpartitions/ApiKey")) Bd.returns rfl (Or.inr (Or.inr (Or.inr (Or.inr ⟨rfl, rfl, rfl⟩)))) (hb hby d1_82) (by decide) (by decide) e18 ?_
                    exact ⟨(by simp [fpick, hc1, hc3, hc5, hc7, hc9, hc11, hc13, hc15, hc17]), N0, rfl⟩
                  · refine Go.st (fun _ k' => XS.icmpYes X0.here hx rfl (pc0 := 76) (pc' := 83) rfl (hb hby d1_76) rfl (XT.ii_ne_t hc17) (by decide) (by decide) k') ?_
                    show Go p e below s _ _ _ (s₁.setTop (mkF m 83 #[.val (.int u)] []))
                    refine Go.st (fun _ k' => XS.iloadN X0.here hx rfl (hb hby d1_83) rfl k') ?_
                    show Go p e below s _ _ _ (s₁.setTop (mkF m 84 #[.val (.int u)] [(.int u)]))
                    refine Go.st (fun _ k' => XS.bipush X0.here hx rfl (hb hby d1_84) k') ?_
                    show Go p e below s _ _ _ (s₁.setTop (mkF m 86 #[.val (.int u)] [(.int (9 : Int32)), (.int u)]))
                    by_cases hc19 : u = (9 : Int32)
                    · refine Go.st (fun _ k' => XS.icmpNo X0.here hx rfl (hb hby d1_86) rfl (XT.ii_ne_f hc19) k') ?_
                      show Go p e below s _ _ _ (s₁.setTop (mkF m 89 #[.val (.int u)] []))
                      obtain ⟨T20, X20, e20, st20⟩ := getS2 X0 hx hZ hown (host := "") (Or.inl (wdx hw 47 rfl)) Via.refl e0 (S_LEAVE_GROUP.ext O0.2) (g := (mkF m 89 #[.val (.int u)] [])) rfl (hb hby d1_89)
                      refine Go.st st20 ?_
                      show Go p e below s _ _ _ (T20.setTop (mkF m 92 #[.val (.int u)] [(.ref a_LEAVE_GROUP)]))
                      refine Go.ret X20 hx hlk (t := (.object "com/example/tenure_of_partitions/tenureofpartitions/ApiKey")) Bd.returns rfl (Or.inr (Or.inr (Or.inr (Or.inr ⟨rfl, rfl, rfl⟩)))) (hb hby d1_92) (by decide) (by decide) e20 ?_
                      exact ⟨(by simp [fpick, hc1, hc3, hc5, hc7, hc9, hc11, hc13, hc15, hc17, hc19]), N0, rfl⟩
                    · refine Go.st (fun _ k' => XS.icmpYes X0.here hx rfl (pc0 := 86) (pc' := 93) rfl (hb hby d1_86) rfl (XT.ii_ne_t hc19) (by decide) (by decide) k') ?_
                      show Go p e below s _ _ _ (s₁.setTop (mkF m 93 #[.val (.int u)] []))
                      refine Go.st (fun _ k' => XS.iloadN X0.here hx rfl (hb hby d1_93) rfl k') ?_
                      show Go p e below s _ _ _ (s₁.setTop (mkF m 94 #[.val (.int u)] [(.int u)]))
                      refine Go.st (fun _ k' => XS.bipush X0.here hx rfl (hb hby d1_94) k') ?_
                      show Go p e below s _ _ _ (s₁.setTop (mkF m 96 #[.val (.int u)] [(.int (10 : Int32)), (.int u)]))
                      by_cases hc21 : u = (10 : Int32)
                      · refine Go.st (fun _ k' => XS.icmpNo X0.here hx rfl (hb hby d1_96) rfl (XT.ii_ne_f hc21) k') ?_
                        show Go p e below s _ _ _ (s₁.setTop (mkF m 99 #[.val (.int u)] []))
                        obtain ⟨T22, X22, e22, st22⟩ := getS2 X0 hx hZ hown (host := "") (Or.inl (wdx hw 23 rfl)) Via.refl e0 (S_SYNC_GROUP.ext O0.2) (g := (mkF m 99 #[.val (.int u)] [])) rfl (hb hby d1_99)
                        refine Go.st st22 ?_
                        show Go p e below s _ _ _ (T22.setTop (mkF m 102 #[.val (.int u)] [(.ref a_SYNC_GROUP)]))
                        refine Go.ret X22 hx hlk (t := (.object "com/example/tenure_of_partitions/tenureofpartitions/ApiKey")) Bd.returns rfl (Or.inr (Or.inr (Or.inr (Or.inr ⟨rfl, rfl, rfl⟩)))) (hb hby d1_102) (by decide) (by decide) e22 ?_
                        exact ⟨(by simp [fpick, hc1, hc3, hc5, hc7, hc9, hc11, hc13, hc15, hc17, hc19, hc21]), N0, rfl⟩
                      · refine Go.st (fun _ k' => XS.icmpYes X0.here hx rfl (pc0 := 96) (pc' := 103) rfl (hb hby d1_96) rfl (XT.ii_ne_t hc21) (by decide) (by decide) k') ?_
                        show Go p e below s _ _ _ (s₁.setTop (mkF m 103 #[.val (.int u)] []))
                        refine Go.st (fun _ k' => XS.iloadN X0.here hx rfl (hb hby d1_103) rfl k') ?_
                        show Go p e below s _ _ _ (s₁.setTop (mkF m 104 #[.val (.int u)] [(.int u)]))
                        refine Go.st (fun _ k' => XS.bipush X0.here hx rfl (hb hby d1_104) k') ?_
                        show Go p e below s _ _ _ (s₁.setTop (mkF m 106 #[.val (.int u)] [(.int (11 : Int32)), (.int u)]))
                        by_cases hc23 : u = (11 : Int32)
                        · refine Go.st (fun _ k' => XS.icmpNo X0.here hx rfl (hb hby d1_106) rfl (XT.ii_ne_f hc23) k') ?_
                          show Go p e below s _ _ _ (s₁.setTop (mkF m 109 #[.val (.int u)] []))
                          obtain ⟨T24, X24, e24, st24⟩ := getS2 X0 hx hZ hown (host := "") (Or.inl (wdx hw 29 rfl)) Via.refl e0 (S_DESCRIBE_GROUPS.ext O0.2) (g := (mkF m 109 #[.val (.int u)] [])) rfl (hb hby d1_109)
                          refine Go.st st24 ?_
                          show Go p e below s _ _ _ (T24.setTop (mkF m 112 #[.val (.int u)] [(.ref a_DESCRIBE_GROUPS)]))
                          refine Go.ret X24 hx hlk (t := (.object "com/example/tenure_of_partitions/tenureofpartitions/ApiKey")) Bd.returns rfl (Or.inr (Or.inr (Or.inr (Or.inr ⟨rfl, rfl, rfl⟩)))) (hb hby d1_112) (by decide) (by decide) e24 ?_
                          exact ⟨(by simp [fpick, hc1, hc3, hc5, hc7, hc9, hc11, hc13, hc15, hc17, hc19, hc21, hc23]), N0, rfl⟩
                        · refine Go.st (fun _ k' => XS.icmpYes X0.here hx rfl (pc0 := 106) (pc' := 113) rfl (hb hby d1_106) rfl (XT.ii_ne_t hc23) (by decide) (by decide) k') ?_
                          show Go p e below s _ _ _ (s₁.setTop (mkF m 113 #[.val (.int u)] []))
                          refine Go.st (fun _ k' => XS.iloadN X0.here hx rfl (hb hby d1_113) rfl k') ?_
                          show Go p e below s _ _ _ (s₁.setTop (mkF m 114 #[.val (.int u)] [(.int u)]))
                          refine Go.st (fun _ k' => XS.bipush X0.here hx rfl (hb hby d1_114) k') ?_
                          show Go p e below s _ _ _ (s₁.setTop (mkF m 116 #[.val (.int u)] [(.int (12 : Int32)), (.int u)]))
                          by_cases hc25 : u = (12 : Int32)
                          · refine Go.st (fun _ k' => XS.icmpNo X0.here hx rfl (hb hby d1_116) rfl (XT.ii_ne_f hc25) k') ?_
                            show Go p e below s _ _ _ (s₁.setTop (mkF m 119 #[.val (.int u)] []))
                            obtain ⟨T26, X26, e26, st26⟩ := getS2 X0 hx hZ hown (host := "") (Or.inl (wdx hw 33 rfl)) Via.refl e0 (S_LIST_GROUPS.ext O0.2) (g := (mkF m 119 #[.val (.int u)] [])) rfl (hb hby d1_119)
                            refine Go.st st26 ?_
                            show Go p e below s _ _ _ (T26.setTop (mkF m 122 #[.val (.int u)] [(.ref a_LIST_GROUPS)]))
                            refine Go.ret X26 hx hlk (t := (.object "com/example/tenure_of_partitions/tenureofpartitions/ApiKey")) Bd.returns rfl (Or.inr (Or.inr (Or.inr (Or.inr ⟨rfl, rfl, rfl⟩)))) (hb hby d1_122) (by decide) (by decide) e26 ?_
                            exact ⟨(by simp [fpick, hc1, hc3, hc5, hc7, hc9, hc11, hc13, hc15, hc17, hc19, hc21, hc23, hc25]), N0, rfl⟩
                          · refine Go.st (fun _ k' => XS.icmpYes X0.here hx rfl (pc0 := 116) (pc' := 123) rfl (hb hby d1_116) rfl (XT.ii_ne_t hc25) (by decide) (by decide) k') ?_
                            show Go p e below s _ _ _ (s₁.setTop (mkF m 123 #[.val (.int u)] []))
                            obtain ⟨T27, X27, e27, st27⟩ := getS2 X0 hx hZ hown (host := "") (Or.inl (wdx hw 45 rfl)) Via.refl e0 (S_API_VERSIONS.ext O0.2) (g := (mkF m 123 #[.val (.int u)] [])) rfl (hb hby d1_123)
                            refine Go.st st27 ?_
                            show Go p e below s _ _ _ (T27.setTop (mkF m 126 #[.val (.int u)] [(.ref a_API_VERSIONS)]))
                            refine Go.ret X27 hx hlk (t := (.object "com/example/tenure_of_partitions/tenureofpartitions/ApiKey")) Bd.returns rfl (Or.inr (Or.inr (Or.inr (Or.inr ⟨rfl, rfl, rfl⟩)))) (hb hby d1_126) (by decide) (by decide) e27 ?_
                            exact ⟨(by simp [fpick, hc1, hc3, hc5, hc7, hc9, hc11, hc13, hc15, hc17, hc19, hc21, hc23, hc25]), N0, rfl⟩
theorem d2_0 : decode method_3_code 0 = .ok (.iload_n 0, 1) := by decide +kernel
theorem d2_1 : decode method_3_code 1 = .ok (.ifCond .ne 5, 3) := by decide +kernel
theorem d2_4 : decode method_3_code 4 = .ok (.iconst 3, 1) := by decide +kernel
theorem d2_5 : decode method_3_code 5 = .ok (.ireturn, 1) := by decide +kernel
theorem d2_6 : decode method_3_code 6 = .ok (.iload_n 0, 1) := by decide +kernel
theorem d2_7 : decode method_3_code 7 = .ok (.iconst 1, 1) := by decide +kernel
theorem d2_8 : decode method_3_code 8 = .ok (.if_icmp .ne 5, 3) := by decide +kernel
theorem d2_11 : decode method_3_code 11 = .ok (.iconst 4, 1) := by decide +kernel
theorem d2_12 : decode method_3_code 12 = .ok (.ireturn, 1) := by decide +kernel
theorem d2_13 : decode method_3_code 13 = .ok (.iload_n 0, 1) := by decide +kernel
theorem d2_14 : decode method_3_code 14 = .ok (.iconst 2, 1) := by decide +kernel
theorem d2_15 : decode method_3_code 15 = .ok (.if_icmp .ne 5, 3) := by decide +kernel
theorem d2_18 : decode method_3_code 18 = .ok (.iconst 1, 1) := by decide +kernel
theorem d2_19 : decode method_3_code 19 = .ok (.ireturn, 1) := by decide +kernel
theorem d2_20 : decode method_3_code 20 = .ok (.iload_n 0, 1) := by decide +kernel
theorem d2_21 : decode method_3_code 21 = .ok (.iconst 4, 1) := by decide +kernel
theorem d2_22 : decode method_3_code 22 = .ok (.if_icmp .ne 5, 3) := by decide +kernel
theorem d2_25 : decode method_3_code 25 = .ok (.iconst 2, 1) := by decide +kernel
theorem d2_26 : decode method_3_code 26 = .ok (.ireturn, 1) := by decide +kernel
theorem d2_27 : decode method_3_code 27 = .ok (.iload_n 0, 1) := by decide +kernel
theorem d2_28 : decode method_3_code 28 = .ok (.iconst 5, 1) := by decide +kernel
theorem d2_29 : decode method_3_code 29 = .ok (.if_icmp .ne 5, 3) := by decide +kernel
theorem d2_32 : decode method_3_code 32 = .ok (.iconst 1, 1) := by decide +kernel
theorem d2_33 : decode method_3_code 33 = .ok (.ireturn, 1) := by decide +kernel
theorem d2_34 : decode method_3_code 34 = .ok (.iconst 0, 1) := by decide +kernel
theorem d2_35 : decode method_3_code 35 = .ok (.ireturn, 1) := by decide +kernel
theorem ef_rm2 (m : MethodId) (u : Int32) : entryFrame m #[(.int u)] 1 = mkF m 0 #[.val (.int u)] [] := by first | (simp [entryFrame, mkF, argsToLocals, Value.category]; done) | rfl
def Q2 (Z : State) (u : Int32) (h0 : Heap) (n0 : Nat) (v : Option Value) (h : Heap) (L : List Loc) : Prop := v = some (.int (flo u)) ∧ Fr n0 L ∧ h = h0
set_option maxRecDepth 65536 in
set_option maxHeartbeats 40000000 in
theorem rm2 (l : Launch) (Z : State) (a0 : Array Value) (hw : ∀ d ∈ tables_1, d.before a0 Z = true) (ws : List Jvm.Cond) (u : Int32) (h0 : Heap) (n0 : Nat) (O0 : Old Z n0 h0) :
    MetFree l (⟨"com/example/tenure_of_partitions/tenureofpartitions/ApiKeyServesPinLaw", "lo", "(I)I"⟩ : MethodName) (head1 (Jvm.Cond.code (⟨"com/example/tenure_of_partitions/tenureofpartitions/ApiKeyServesPinLaw", "lo", "(I)I"⟩ : MethodName) method_3_code 1 (some .int) :: ws) ({ frames := 0, cells := 0, slots := 0, locals := 0 } : Room)) (fun ay U => ay = #[(.int u)] ∧ Z.Warmed39 U.vm ∧ U.heap = h0) (fun _ _ _ _ _ => True) (fun _ U o U' => ∃ v L, o = .returned v ∧ Q2 Z u h0 n0 v U'.heap L ∧ FrameEnd U o U' L ({ frames := 0, cells := 0, slots := 0, locals := 0 } : Room).cells ({ frames := 0, cells := 0, slots := 0, locals := 0 } : Room).slots) := by
  refine MetFree.of_bodySF (plainFor_of_name pn_com_example_tenure_of_partitions_tenureofpartitions_ApiKeyServesPinLaw) hisR ?_
  intro p e s m args below meth c s₁ Bd hml0 hP hK
  obtain ⟨rfl, hZ, hh⟩ := hP
  have hx := Bd.exec
  have hby := Bd.bytes
  have hlk : meth.locks = false := BodyLoose.notSynchronized Bd
  have hml : c.maxLocals = 1 := hml0
  have hown : s.vm.findClass "com/example/tenure_of_partitions/tenureofpartitions/ApiKeyServesPinLaw" = some m.cls := findClass_of_methodNamed Bd.named
  have hnm := (name_of_methodNamed Bd.named Bd.method).1
  have X0 : Stand p l e ({ frames := 0, cells := 0, slots := 0, locals := 0 } : Room) s m #[(.int u)] below meth c s₁ [] 0 0 := Stand.of_body Bd
  have e0 : s₁.heap = h0 := by rw [← hh, Bd.state]; rfl
  have N0 := Fr.nil n0
  suffices hgo : Go p e below s 0 0 (Q2 Z u h0 n0) (s₁.setTop (mkF m 0 #[.val (.int u)] [])) by
    obtain ⟨t, o, h1, h2⟩ := hgo; exact ⟨t, o, castTop (ef_rm2 m u) h1, h2⟩
  show Go p e below s _ _ _ (s₁.setTop (mkF m 0 #[.val (.int u)] []))
  refine Go.st (fun _ k' => XS.iloadN X0.here hx rfl (hb hby d2_0) rfl k') ?_
  show Go p e below s _ _ _ (s₁.setTop (mkF m 1 #[.val (.int u)] [(.int u)]))
  by_cases hc1 : u = (0 : Int32)
  · refine Go.st (fun _ k' => XS.ifNo X0.here hx rfl (hb hby d2_1) rfl (XT.i0_ne_f hc1) k') ?_
    show Go p e below s _ _ _ (s₁.setTop (mkF m 4 #[.val (.int u)] []))
    refine Go.st (fun _ k' => XS.iconst X0.here hx rfl (hb hby d2_4) k') ?_
    show Go p e below s _ _ _ (s₁.setTop (mkF m 5 #[.val (.int u)] [(.int (3 : Int32))]))
    refine Go.ret X0 hx hlk (t := .int) Bd.returns rfl (Or.inl ⟨rfl, Or.inl rfl, _, rfl⟩) (hb hby d2_5) (by decide) (by decide) e0 ?_
    exact ⟨(by simp [flo, hc1]), N0, rfl⟩
  · refine Go.st (fun _ k' => XS.ifYes X0.here hx rfl (pc0 := 1) (pc' := 6) rfl (hb hby d2_1) rfl (XT.i0_ne_t hc1) (by decide) (by decide) k') ?_
    show Go p e below s _ _ _ (s₁.setTop (mkF m 6 #[.val (.int u)] []))
    refine Go.st (fun _ k' => XS.iloadN X0.here hx rfl (hb hby d2_6) rfl k') ?_
    show Go p e below s _ _ _ (s₁.setTop (mkF m 7 #[.val (.int u)] [(.int u)]))
    refine Go.st (fun _ k' => XS.iconst X0.here hx rfl (hb hby d2_7) k') ?_
    show Go p e below s _ _ _ (s₁.setTop (mkF m 8 #[.val (.int u)] [(.int (1 : Int32)), (.int u)]))
    by_cases hc2 : u = (1 : Int32)
    · refine Go.st (fun _ k' => XS.icmpNo X0.here hx rfl (hb hby d2_8) rfl (XT.ii_ne_f hc2) k') ?_
      show Go p e below s _ _ _ (s₁.setTop (mkF m 11 #[.val (.int u)] []))
      refine Go.st (fun _ k' => XS.iconst X0.here hx rfl (hb hby d2_11) k') ?_
      show Go p e below s _ _ _ (s₁.setTop (mkF m 12 #[.val (.int u)] [(.int (4 : Int32))]))
      refine Go.ret X0 hx hlk (t := .int) Bd.returns rfl (Or.inl ⟨rfl, Or.inl rfl, _, rfl⟩) (hb hby d2_12) (by decide) (by decide) e0 ?_
      exact ⟨(by simp [flo, hc1, hc2]), N0, rfl⟩
    · refine Go.st (fun _ k' => XS.icmpYes X0.here hx rfl (pc0 := 8) (pc' := 13) rfl (hb hby d2_8) rfl (XT.ii_ne_t hc2) (by decide) (by decide) k') ?_
      show Go p e below s _ _ _ (s₁.setTop (mkF m 13 #[.val (.int u)] []))
      refine Go.st (fun _ k' => XS.iloadN X0.here hx rfl (hb hby d2_13) rfl k') ?_
      show Go p e below s _ _ _ (s₁.setTop (mkF m 14 #[.val (.int u)] [(.int u)]))
      refine Go.st (fun _ k' => XS.iconst X0.here hx rfl (hb hby d2_14) k') ?_
      show Go p e below s _ _ _ (s₁.setTop (mkF m 15 #[.val (.int u)] [(.int (2 : Int32)), (.int u)]))
      by_cases hc3 : u = (2 : Int32)
      · refine Go.st (fun _ k' => XS.icmpNo X0.here hx rfl (hb hby d2_15) rfl (XT.ii_ne_f hc3) k') ?_
        show Go p e below s _ _ _ (s₁.setTop (mkF m 18 #[.val (.int u)] []))
        refine Go.st (fun _ k' => XS.iconst X0.here hx rfl (hb hby d2_18) k') ?_
        show Go p e below s _ _ _ (s₁.setTop (mkF m 19 #[.val (.int u)] [(.int (1 : Int32))]))
        refine Go.ret X0 hx hlk (t := .int) Bd.returns rfl (Or.inl ⟨rfl, Or.inl rfl, _, rfl⟩) (hb hby d2_19) (by decide) (by decide) e0 ?_
        exact ⟨(by simp [flo, hc1, hc2, hc3]), N0, rfl⟩
      · refine Go.st (fun _ k' => XS.icmpYes X0.here hx rfl (pc0 := 15) (pc' := 20) rfl (hb hby d2_15) rfl (XT.ii_ne_t hc3) (by decide) (by decide) k') ?_
        show Go p e below s _ _ _ (s₁.setTop (mkF m 20 #[.val (.int u)] []))
        refine Go.st (fun _ k' => XS.iloadN X0.here hx rfl (hb hby d2_20) rfl k') ?_
        show Go p e below s _ _ _ (s₁.setTop (mkF m 21 #[.val (.int u)] [(.int u)]))
        refine Go.st (fun _ k' => XS.iconst X0.here hx rfl (hb hby d2_21) k') ?_
        show Go p e below s _ _ _ (s₁.setTop (mkF m 22 #[.val (.int u)] [(.int (4 : Int32)), (.int u)]))
        by_cases hc4 : u = (4 : Int32)
        · refine Go.st (fun _ k' => XS.icmpNo X0.here hx rfl (hb hby d2_22) rfl (XT.ii_ne_f hc4) k') ?_
          show Go p e below s _ _ _ (s₁.setTop (mkF m 25 #[.val (.int u)] []))
          refine Go.st (fun _ k' => XS.iconst X0.here hx rfl (hb hby d2_25) k') ?_
          show Go p e below s _ _ _ (s₁.setTop (mkF m 26 #[.val (.int u)] [(.int (2 : Int32))]))
          refine Go.ret X0 hx hlk (t := .int) Bd.returns rfl (Or.inl ⟨rfl, Or.inl rfl, _, rfl⟩) (hb hby d2_26) (by decide) (by decide) e0 ?_
          exact ⟨(by simp [flo, hc1, hc2, hc3, hc4]), N0, rfl⟩
        · refine Go.st (fun _ k' => XS.icmpYes X0.here hx rfl (pc0 := 22) (pc' := 27) rfl (hb hby d2_22) rfl (XT.ii_ne_t hc4) (by decide) (by decide) k') ?_
          show Go p e below s _ _ _ (s₁.setTop (mkF m 27 #[.val (.int u)] []))
          refine Go.st (fun _ k' => XS.iloadN X0.here hx rfl (hb hby d2_27) rfl k') ?_
          show Go p e below s _ _ _ (s₁.setTop (mkF m 28 #[.val (.int u)] [(.int u)]))
          refine Go.st (fun _ k' => XS.iconst X0.here hx rfl (hb hby d2_28) k') ?_
          show Go p e below s _ _ _ (s₁.setTop (mkF m 29 #[.val (.int u)] [(.int (5 : Int32)), (.int u)]))
          by_cases hc5 : u = (5 : Int32)
          · refine Go.st (fun _ k' => XS.icmpNo X0.here hx rfl (hb hby d2_29) rfl (XT.ii_ne_f hc5) k') ?_
            show Go p e below s _ _ _ (s₁.setTop (mkF m 32 #[.val (.int u)] []))
            refine Go.st (fun _ k' => XS.iconst X0.here hx rfl (hb hby d2_32) k') ?_
            show Go p e below s _ _ _ (s₁.setTop (mkF m 33 #[.val (.int u)] [(.int (1 : Int32))]))
            refine Go.ret X0 hx hlk (t := .int) Bd.returns rfl (Or.inl ⟨rfl, Or.inl rfl, _, rfl⟩) (hb hby d2_33) (by decide) (by decide) e0 ?_
            exact ⟨(by simp [flo, hc1, hc2, hc3, hc4, hc5]), N0, rfl⟩
          · refine Go.st (fun _ k' => XS.icmpYes X0.here hx rfl (pc0 := 29) (pc' := 34) rfl (hb hby d2_29) rfl (XT.ii_ne_t hc5) (by decide) (by decide) k') ?_
            show Go p e below s _ _ _ (s₁.setTop (mkF m 34 #[.val (.int u)] []))
            refine Go.st (fun _ k' => XS.iconst X0.here hx rfl (hb hby d2_34) k') ?_
            show Go p e below s _ _ _ (s₁.setTop (mkF m 35 #[.val (.int u)] [(.int (0 : Int32))]))
            refine Go.ret X0 hx hlk (t := .int) Bd.returns rfl (Or.inl ⟨rfl, Or.inl rfl, _, rfl⟩) (hb hby d2_35) (by decide) (by decide) e0 ?_
            exact ⟨(by simp [flo, hc1, hc2, hc3, hc4, hc5]), N0, rfl⟩
theorem d3_0 : decode method_4_code 0 = .ok (.iload_n 0, 1) := by decide +kernel
theorem d3_1 : decode method_4_code 1 = .ok (.ifCond .ne 5, 3) := by decide +kernel
theorem d3_4 : decode method_4_code 4 = .ok (.iconst 3, 1) := by decide +kernel
theorem d3_5 : decode method_4_code 5 = .ok (.ireturn, 1) := by decide +kernel
theorem d3_6 : decode method_4_code 6 = .ok (.iload_n 0, 1) := by decide +kernel
theorem d3_7 : decode method_4_code 7 = .ok (.iconst 1, 1) := by decide +kernel
theorem d3_8 : decode method_4_code 8 = .ok (.if_icmp .ne 6, 3) := by decide +kernel
theorem d3_11 : decode method_4_code 11 = .ok (.bipush 11, 2) := by decide +kernel
theorem d3_13 : decode method_4_code 13 = .ok (.ireturn, 1) := by decide +kernel
theorem d3_14 : decode method_4_code 14 = .ok (.iload_n 0, 1) := by decide +kernel
theorem d3_15 : decode method_4_code 15 = .ok (.iconst 2, 1) := by decide +kernel
theorem d3_16 : decode method_4_code 16 = .ok (.if_icmp .ne 5, 3) := by decide +kernel
theorem d3_19 : decode method_4_code 19 = .ok (.iconst 2, 1) := by decide +kernel
theorem d3_20 : decode method_4_code 20 = .ok (.ireturn, 1) := by decide +kernel
theorem d3_21 : decode method_4_code 21 = .ok (.iload_n 0, 1) := by decide +kernel
theorem d3_22 : decode method_4_code 22 = .ok (.iconst 3, 1) := by decide +kernel
theorem d3_23 : decode method_4_code 23 = .ok (.if_icmp .ne 5, 3) := by decide +kernel
theorem d3_26 : decode method_4_code 26 = .ok (.iconst 4, 1) := by decide +kernel
theorem d3_27 : decode method_4_code 27 = .ok (.ireturn, 1) := by decide +kernel
theorem d3_28 : decode method_4_code 28 = .ok (.iload_n 0, 1) := by decide +kernel
theorem d3_29 : decode method_4_code 29 = .ok (.iconst 4, 1) := by decide +kernel
theorem d3_30 : decode method_4_code 30 = .ok (.if_icmp .ne 6, 3) := by decide +kernel
theorem d3_33 : decode method_4_code 33 = .ok (.bipush 7, 2) := by decide +kernel
theorem d3_35 : decode method_4_code 35 = .ok (.ireturn, 1) := by decide +kernel
theorem d3_36 : decode method_4_code 36 = .ok (.iload_n 0, 1) := by decide +kernel
theorem d3_37 : decode method_4_code 37 = .ok (.iconst 5, 1) := by decide +kernel
theorem d3_38 : decode method_4_code 38 = .ok (.if_icmp .ne 6, 3) := by decide +kernel
theorem d3_41 : decode method_4_code 41 = .ok (.bipush 7, 2) := by decide +kernel
theorem d3_43 : decode method_4_code 43 = .ok (.ireturn, 1) := by decide +kernel
theorem d3_44 : decode method_4_code 44 = .ok (.iload_n 0, 1) := by decide +kernel
theorem d3_45 : decode method_4_code 45 = .ok (.bipush 6, 2) := by decide +kernel
theorem d3_47 : decode method_4_code 47 = .ok (.if_icmp .ne 5, 3) := by decide +kernel
theorem d3_50 : decode method_4_code 50 = .ok (.iconst 2, 1) := by decide +kernel
theorem d3_51 : decode method_4_code 51 = .ok (.ireturn, 1) := by decide +kernel
theorem d3_52 : decode method_4_code 52 = .ok (.iload_n 0, 1) := by decide +kernel
theorem d3_53 : decode method_4_code 53 = .ok (.bipush 7, 2) := by decide +kernel
theorem d3_55 : decode method_4_code 55 = .ok (.if_icmp .ne 5, 3) := by decide +kernel
theorem d3_58 : decode method_4_code 58 = .ok (.iconst 5, 1) := by decide +kernel
theorem d3_59 : decode method_4_code 59 = .ok (.ireturn, 1) := by decide +kernel
theorem d3_60 : decode method_4_code 60 = .ok (.iload_n 0, 1) := by decide +kernel
theorem d3_61 : decode method_4_code 61 = .ok (.bipush 8, 2) := by decide +kernel
theorem d3_63 : decode method_4_code 63 = .ok (.if_icmp .ne 5, 3) := by decide +kernel
theorem d3_66 : decode method_4_code 66 = .ok (.iconst 3, 1) := by decide +kernel
theorem d3_67 : decode method_4_code 67 = .ok (.ireturn, 1) := by decide +kernel
theorem d3_68 : decode method_4_code 68 = .ok (.iload_n 0, 1) := by decide +kernel
theorem d3_69 : decode method_4_code 69 = .ok (.bipush 9, 2) := by decide +kernel
theorem d3_71 : decode method_4_code 71 = .ok (.if_icmp .ne 5, 3) := by decide +kernel
theorem d3_74 : decode method_4_code 74 = .ok (.iconst 3, 1) := by decide +kernel
theorem d3_75 : decode method_4_code 75 = .ok (.ireturn, 1) := by decide +kernel
theorem d3_76 : decode method_4_code 76 = .ok (.iload_n 0, 1) := by decide +kernel
theorem d3_77 : decode method_4_code 77 = .ok (.bipush 10, 2) := by decide +kernel
theorem d3_79 : decode method_4_code 79 = .ok (.if_icmp .ne 5, 3) := by decide +kernel
theorem d3_82 : decode method_4_code 82 = .ok (.iconst 3, 1) := by decide +kernel
theorem d3_83 : decode method_4_code 83 = .ok (.ireturn, 1) := by decide +kernel
theorem d3_84 : decode method_4_code 84 = .ok (.iload_n 0, 1) := by decide +kernel
theorem d3_85 : decode method_4_code 85 = .ok (.bipush 11, 2) := by decide +kernel
theorem d3_87 : decode method_4_code 87 = .ok (.if_icmp .ne 5, 3) := by decide +kernel
theorem d3_90 : decode method_4_code 90 = .ok (.iconst 4, 1) := by decide +kernel
theorem d3_91 : decode method_4_code 91 = .ok (.ireturn, 1) := by decide +kernel
theorem d3_92 : decode method_4_code 92 = .ok (.iload_n 0, 1) := by decide +kernel
theorem d3_93 : decode method_4_code 93 = .ok (.bipush 12, 2) := by decide +kernel
theorem d3_95 : decode method_4_code 95 = .ok (.if_icmp .ne 5, 3) := by decide +kernel
theorem d3_98 : decode method_4_code 98 = .ok (.iconst 0, 1) := by decide +kernel
theorem d3_99 : decode method_4_code 99 = .ok (.ireturn, 1) := by decide +kernel
theorem d3_100 : decode method_4_code 100 = .ok (.iconst 3, 1) := by decide +kernel
theorem d3_101 : decode method_4_code 101 = .ok (.ireturn, 1) := by decide +kernel
theorem ef_rm3 (m : MethodId) (u : Int32) : entryFrame m #[(.int u)] 1 = mkF m 0 #[.val (.int u)] [] := by first | (simp [entryFrame, mkF, argsToLocals, Value.category]; done) | rfl
def Q3 (Z : State) (u : Int32) (h0 : Heap) (n0 : Nat) (v : Option Value) (h : Heap) (L : List Loc) : Prop := v = some (.int (fhi u)) ∧ Fr n0 L ∧ h = h0
set_option maxRecDepth 65536 in
set_option maxHeartbeats 40000000 in
theorem rm3 (l : Launch) (Z : State) (a0 : Array Value) (hw : ∀ d ∈ tables_1, d.before a0 Z = true) (ws : List Jvm.Cond) (u : Int32) (h0 : Heap) (n0 : Nat) (O0 : Old Z n0 h0) :
    MetFree l (⟨"com/example/tenure_of_partitions/tenureofpartitions/ApiKeyServesPinLaw", "hi", "(I)I"⟩ : MethodName) (head1 (Jvm.Cond.code (⟨"com/example/tenure_of_partitions/tenureofpartitions/ApiKeyServesPinLaw", "hi", "(I)I"⟩ : MethodName) method_4_code 1 (some .int) :: ws) ({ frames := 0, cells := 0, slots := 0, locals := 0 } : Room)) (fun ay U => ay = #[(.int u)] ∧ Z.Warmed39 U.vm ∧ U.heap = h0) (fun _ _ _ _ _ => True) (fun _ U o U' => ∃ v L, o = .returned v ∧ Q3 Z u h0 n0 v U'.heap L ∧ FrameEnd U o U' L ({ frames := 0, cells := 0, slots := 0, locals := 0 } : Room).cells ({ frames := 0, cells := 0, slots := 0, locals := 0 } : Room).slots) := by
  refine MetFree.of_bodySF (plainFor_of_name pn_com_example_tenure_of_partitions_tenureofpartitions_ApiKeyServesPinLaw) hisR ?_
  intro p e s m args below meth c s₁ Bd hml0 hP hK
  obtain ⟨rfl, hZ, hh⟩ := hP
  have hx := Bd.exec
  have hby := Bd.bytes
  have hlk : meth.locks = false := BodyLoose.notSynchronized Bd
  have hml : c.maxLocals = 1 := hml0
  have hown : s.vm.findClass "com/example/tenure_of_partitions/tenureofpartitions/ApiKeyServesPinLaw" = some m.cls := findClass_of_methodNamed Bd.named
  have hnm := (name_of_methodNamed Bd.named Bd.method).1
  have X0 : Stand p l e ({ frames := 0, cells := 0, slots := 0, locals := 0 } : Room) s m #[(.int u)] below meth c s₁ [] 0 0 := Stand.of_body Bd
  have e0 : s₁.heap = h0 := by rw [← hh, Bd.state]; rfl
  have N0 := Fr.nil n0
  suffices hgo : Go p e below s 0 0 (Q3 Z u h0 n0) (s₁.setTop (mkF m 0 #[.val (.int u)] [])) by
    obtain ⟨t, o, h1, h2⟩ := hgo; exact ⟨t, o, castTop (ef_rm3 m u) h1, h2⟩
  show Go p e below s _ _ _ (s₁.setTop (mkF m 0 #[.val (.int u)] []))
  refine Go.st (fun _ k' => XS.iloadN X0.here hx rfl (hb hby d3_0) rfl k') ?_
  show Go p e below s _ _ _ (s₁.setTop (mkF m 1 #[.val (.int u)] [(.int u)]))
  by_cases hc1 : u = (0 : Int32)
  · refine Go.st (fun _ k' => XS.ifNo X0.here hx rfl (hb hby d3_1) rfl (XT.i0_ne_f hc1) k') ?_
    show Go p e below s _ _ _ (s₁.setTop (mkF m 4 #[.val (.int u)] []))
    refine Go.st (fun _ k' => XS.iconst X0.here hx rfl (hb hby d3_4) k') ?_
    show Go p e below s _ _ _ (s₁.setTop (mkF m 5 #[.val (.int u)] [(.int (3 : Int32))]))
    refine Go.ret X0 hx hlk (t := .int) Bd.returns rfl (Or.inl ⟨rfl, Or.inl rfl, _, rfl⟩) (hb hby d3_5) (by decide) (by decide) e0 ?_
    exact ⟨(by simp [fhi, hc1]), N0, rfl⟩
  · refine Go.st (fun _ k' => XS.ifYes X0.here hx rfl (pc0 := 1) (pc' := 6) rfl (hb hby d3_1) rfl (XT.i0_ne_t hc1) (by decide) (by decide) k') ?_
    show Go p e below s _ _ _ (s₁.setTop (mkF m 6 #[.val (.int u)] []))
    refine Go.st (fun _ k' => XS.iloadN X0.here hx rfl (hb hby d3_6) rfl k') ?_
    show Go p e below s _ _ _ (s₁.setTop (mkF m 7 #[.val (.int u)] [(.int u)]))
    refine Go.st (fun _ k' => XS.iconst X0.here hx rfl (hb hby d3_7) k') ?_
    show Go p e below s _ _ _ (s₁.setTop (mkF m 8 #[.val (.int u)] [(.int (1 : Int32)), (.int u)]))
    by_cases hc2 : u = (1 : Int32)
    · refine Go.st (fun _ k' => XS.icmpNo X0.here hx rfl (hb hby d3_8) rfl (XT.ii_ne_f hc2) k') ?_
      show Go p e below s _ _ _ (s₁.setTop (mkF m 11 #[.val (.int u)] []))
      refine Go.st (fun _ k' => XS.bipush X0.here hx rfl (hb hby d3_11) k') ?_
      show Go p e below s _ _ _ (s₁.setTop (mkF m 13 #[.val (.int u)] [(.int (11 : Int32))]))
      refine Go.ret X0 hx hlk (t := .int) Bd.returns rfl (Or.inl ⟨rfl, Or.inl rfl, _, rfl⟩) (hb hby d3_13) (by decide) (by decide) e0 ?_
      exact ⟨(by simp [fhi, hc1, hc2]), N0, rfl⟩
    · refine Go.st (fun _ k' => XS.icmpYes X0.here hx rfl (pc0 := 8) (pc' := 14) rfl (hb hby d3_8) rfl (XT.ii_ne_t hc2) (by decide) (by decide) k') ?_
      show Go p e below s _ _ _ (s₁.setTop (mkF m 14 #[.val (.int u)] []))
      refine Go.st (fun _ k' => XS.iloadN X0.here hx rfl (hb hby d3_14) rfl k') ?_
      show Go p e below s _ _ _ (s₁.setTop (mkF m 15 #[.val (.int u)] [(.int u)]))
      refine Go.st (fun _ k' => XS.iconst X0.here hx rfl (hb hby d3_15) k') ?_
      show Go p e below s _ _ _ (s₁.setTop (mkF m 16 #[.val (.int u)] [(.int (2 : Int32)), (.int u)]))
      by_cases hc3 : u = (2 : Int32)
      · refine Go.st (fun _ k' => XS.icmpNo X0.here hx rfl (hb hby d3_16) rfl (XT.ii_ne_f hc3) k') ?_
        show Go p e below s _ _ _ (s₁.setTop (mkF m 19 #[.val (.int u)] []))
        refine Go.st (fun _ k' => XS.iconst X0.here hx rfl (hb hby d3_19) k') ?_
        show Go p e below s _ _ _ (s₁.setTop (mkF m 20 #[.val (.int u)] [(.int (2 : Int32))]))
        refine Go.ret X0 hx hlk (t := .int) Bd.returns rfl (Or.inl ⟨rfl, Or.inl rfl, _, rfl⟩) (hb hby d3_20) (by decide) (by decide) e0 ?_
        exact ⟨(by simp [fhi, hc1, hc2, hc3]), N0, rfl⟩
      · refine Go.st (fun _ k' => XS.icmpYes X0.here hx rfl (pc0 := 16) (pc' := 21) rfl (hb hby d3_16) rfl (XT.ii_ne_t hc3) (by decide) (by decide) k') ?_
        show Go p e below s _ _ _ (s₁.setTop (mkF m 21 #[.val (.int u)] []))
        refine Go.st (fun _ k' => XS.iloadN X0.here hx rfl (hb hby d3_21) rfl k') ?_
        show Go p e below s _ _ _ (s₁.setTop (mkF m 22 #[.val (.int u)] [(.int u)]))
        refine Go.st (fun _ k' => XS.iconst X0.here hx rfl (hb hby d3_22) k') ?_
        show Go p e below s _ _ _ (s₁.setTop (mkF m 23 #[.val (.int u)] [(.int (3 : Int32)), (.int u)]))
        by_cases hc4 : u = (3 : Int32)
        · refine Go.st (fun _ k' => XS.icmpNo X0.here hx rfl (hb hby d3_23) rfl (XT.ii_ne_f hc4) k') ?_
          show Go p e below s _ _ _ (s₁.setTop (mkF m 26 #[.val (.int u)] []))
          refine Go.st (fun _ k' => XS.iconst X0.here hx rfl (hb hby d3_26) k') ?_
          show Go p e below s _ _ _ (s₁.setTop (mkF m 27 #[.val (.int u)] [(.int (4 : Int32))]))
          refine Go.ret X0 hx hlk (t := .int) Bd.returns rfl (Or.inl ⟨rfl, Or.inl rfl, _, rfl⟩) (hb hby d3_27) (by decide) (by decide) e0 ?_
          exact ⟨(by simp [fhi, hc1, hc2, hc3, hc4]), N0, rfl⟩
        · refine Go.st (fun _ k' => XS.icmpYes X0.here hx rfl (pc0 := 23) (pc' := 28) rfl (hb hby d3_23) rfl (XT.ii_ne_t hc4) (by decide) (by decide) k') ?_
          show Go p e below s _ _ _ (s₁.setTop (mkF m 28 #[.val (.int u)] []))
          refine Go.st (fun _ k' => XS.iloadN X0.here hx rfl (hb hby d3_28) rfl k') ?_
          show Go p e below s _ _ _ (s₁.setTop (mkF m 29 #[.val (.int u)] [(.int u)]))
          refine Go.st (fun _ k' => XS.iconst X0.here hx rfl (hb hby d3_29) k') ?_
          show Go p e below s _ _ _ (s₁.setTop (mkF m 30 #[.val (.int u)] [(.int (4 : Int32)), (.int u)]))
          by_cases hc5 : u = (4 : Int32)
          · refine Go.st (fun _ k' => XS.icmpNo X0.here hx rfl (hb hby d3_30) rfl (XT.ii_ne_f hc5) k') ?_
            show Go p e below s _ _ _ (s₁.setTop (mkF m 33 #[.val (.int u)] []))
            refine Go.st (fun _ k' => XS.bipush X0.here hx rfl (hb hby d3_33) k') ?_
            show Go p e below s _ _ _ (s₁.setTop (mkF m 35 #[.val (.int u)] [(.int (7 : Int32))]))
            refine Go.ret X0 hx hlk (t := .int) Bd.returns rfl (Or.inl ⟨rfl, Or.inl rfl, _, rfl⟩) (hb hby d3_35) (by decide) (by decide) e0 ?_
            exact ⟨(by simp [fhi, hc1, hc2, hc3, hc4, hc5]), N0, rfl⟩
          · refine Go.st (fun _ k' => XS.icmpYes X0.here hx rfl (pc0 := 30) (pc' := 36) rfl (hb hby d3_30) rfl (XT.ii_ne_t hc5) (by decide) (by decide) k') ?_
            show Go p e below s _ _ _ (s₁.setTop (mkF m 36 #[.val (.int u)] []))
            refine Go.st (fun _ k' => XS.iloadN X0.here hx rfl (hb hby d3_36) rfl k') ?_
            show Go p e below s _ _ _ (s₁.setTop (mkF m 37 #[.val (.int u)] [(.int u)]))
            refine Go.st (fun _ k' => XS.iconst X0.here hx rfl (hb hby d3_37) k') ?_
            show Go p e below s _ _ _ (s₁.setTop (mkF m 38 #[.val (.int u)] [(.int (5 : Int32)), (.int u)]))
            by_cases hc6 : u = (5 : Int32)
            · refine Go.st (fun _ k' => XS.icmpNo X0.here hx rfl (hb hby d3_38) rfl (XT.ii_ne_f hc6) k') ?_
              show Go p e below s _ _ _ (s₁.setTop (mkF m 41 #[.val (.int u)] []))
              refine Go.st (fun _ k' => XS.bipush X0.here hx rfl (hb hby d3_41) k') ?_
              show Go p e below s _ _ _ (s₁.setTop (mkF m 43 #[.val (.int u)] [(.int (7 : Int32))]))
              refine Go.ret X0 hx hlk (t := .int) Bd.returns rfl (Or.inl ⟨rfl, Or.inl rfl, _, rfl⟩) (hb hby d3_43) (by decide) (by decide) e0 ?_
              exact ⟨(by simp [fhi, hc1, hc2, hc3, hc4, hc5, hc6]), N0, rfl⟩
            · refine Go.st (fun _ k' => XS.icmpYes X0.here hx rfl (pc0 := 38) (pc' := 44) rfl (hb hby d3_38) rfl (XT.ii_ne_t hc6) (by decide) (by decide) k') ?_
              show Go p e below s _ _ _ (s₁.setTop (mkF m 44 #[.val (.int u)] []))
              refine Go.st (fun _ k' => XS.iloadN X0.here hx rfl (hb hby d3_44) rfl k') ?_
              show Go p e below s _ _ _ (s₁.setTop (mkF m 45 #[.val (.int u)] [(.int u)]))
              refine Go.st (fun _ k' => XS.bipush X0.here hx rfl (hb hby d3_45) k') ?_
              show Go p e below s _ _ _ (s₁.setTop (mkF m 47 #[.val (.int u)] [(.int (6 : Int32)), (.int u)]))
              by_cases hc7 : u = (6 : Int32)
              · refine Go.st (fun _ k' => XS.icmpNo X0.here hx rfl (hb hby d3_47) rfl (XT.ii_ne_f hc7) k') ?_
                show Go p e below s _ _ _ (s₁.setTop (mkF m 50 #[.val (.int u)] []))
                refine Go.st (fun _ k' => XS.iconst X0.here hx rfl (hb hby d3_50) k') ?_
                show Go p e below s _ _ _ (s₁.setTop (mkF m 51 #[.val (.int u)] [(.int (2 : Int32))]))
                refine Go.ret X0 hx hlk (t := .int) Bd.returns rfl (Or.inl ⟨rfl, Or.inl rfl, _, rfl⟩) (hb hby d3_51) (by decide) (by decide) e0 ?_
                exact ⟨(by simp [fhi, hc1, hc2, hc3, hc4, hc5, hc6, hc7]), N0, rfl⟩
              · refine Go.st (fun _ k' => XS.icmpYes X0.here hx rfl (pc0 := 47) (pc' := 52) rfl (hb hby d3_47) rfl (XT.ii_ne_t hc7) (by decide) (by decide) k') ?_
                show Go p e below s _ _ _ (s₁.setTop (mkF m 52 #[.val (.int u)] []))
                refine Go.st (fun _ k' => XS.iloadN X0.here hx rfl (hb hby d3_52) rfl k') ?_
                show Go p e below s _ _ _ (s₁.setTop (mkF m 53 #[.val (.int u)] [(.int u)]))
                refine Go.st (fun _ k' => XS.bipush X0.here hx rfl (hb hby d3_53) k') ?_
                show Go p e below s _ _ _ (s₁.setTop (mkF m 55 #[.val (.int u)] [(.int (7 : Int32)), (.int u)]))
                by_cases hc8 : u = (7 : Int32)
                · refine Go.st (fun _ k' => XS.icmpNo X0.here hx rfl (hb hby d3_55) rfl (XT.ii_ne_f hc8) k') ?_
                  show Go p e below s _ _ _ (s₁.setTop (mkF m 58 #[.val (.int u)] []))
                  refine Go.st (fun _ k' => XS.iconst X0.here hx rfl (hb hby d3_58) k') ?_
                  show Go p e below s _ _ _ (s₁.setTop (mkF m 59 #[.val (.int u)] [(.int (5 : Int32))]))
                  refine Go.ret X0 hx hlk (t := .int) Bd.returns rfl (Or.inl ⟨rfl, Or.inl rfl, _, rfl⟩) (hb hby d3_59) (by decide) (by decide) e0 ?_
                  exact ⟨(by simp [fhi, hc1, hc2, hc3, hc4, hc5, hc6, hc7, hc8]), N0, rfl⟩
                · refine Go.st (fun _ k' => XS.icmpYes X0.here hx rfl (pc0 := 55) (pc' := 60) rfl (hb hby d3_55) rfl (XT.ii_ne_t hc8) (by decide) (by decide) k') ?_
                  show Go p e below s _ _ _ (s₁.setTop (mkF m 60 #[.val (.int u)] []))
                  refine Go.st (fun _ k' => XS.iloadN X0.here hx rfl (hb hby d3_60) rfl k') ?_
                  show Go p e below s _ _ _ (s₁.setTop (mkF m 61 #[.val (.int u)] [(.int u)]))
                  refine Go.st (fun _ k' => XS.bipush X0.here hx rfl (hb hby d3_61) k') ?_
                  show Go p e below s _ _ _ (s₁.setTop (mkF m 63 #[.val (.int u)] [(.int (8 : Int32)), (.int u)]))
                  by_cases hc9 : u = (8 : Int32)
                  · refine Go.st (fun _ k' => XS.icmpNo X0.here hx rfl (hb hby d3_63) rfl (XT.ii_ne_f hc9) k') ?_
                    show Go p e below s _ _ _ (s₁.setTop (mkF m 66 #[.val (.int u)] []))
                    refine Go.st (fun _ k' => XS.iconst X0.here hx rfl (hb hby d3_66) k') ?_
                    show Go p e below s _ _ _ (s₁.setTop (mkF m 67 #[.val (.int u)] [(.int (3 : Int32))]))
                    refine Go.ret X0 hx hlk (t := .int) Bd.returns rfl (Or.inl ⟨rfl, Or.inl rfl, _, rfl⟩) (hb hby d3_67) (by decide) (by decide) e0 ?_
                    exact ⟨(by simp [fhi, hc1, hc2, hc3, hc4, hc5, hc6, hc7, hc8, hc9]), N0, rfl⟩
                  · refine Go.st (fun _ k' => XS.icmpYes X0.here hx rfl (pc0 := 63) (pc' := 68) rfl (hb hby d3_63) rfl (XT.ii_ne_t hc9) (by decide) (by decide) k') ?_
                    show Go p e below s _ _ _ (s₁.setTop (mkF m 68 #[.val (.int u)] []))
                    refine Go.st (fun _ k' => XS.iloadN X0.here hx rfl (hb hby d3_68) rfl k') ?_
                    show Go p e below s _ _ _ (s₁.setTop (mkF m 69 #[.val (.int u)] [(.int u)]))
                    refine Go.st (fun _ k' => XS.bipush X0.here hx rfl (hb hby d3_69) k') ?_
                    show Go p e below s _ _ _ (s₁.setTop (mkF m 71 #[.val (.int u)] [(.int (9 : Int32)), (.int u)]))
                    by_cases hc10 : u = (9 : Int32)
                    · refine Go.st (fun _ k' => XS.icmpNo X0.here hx rfl (hb hby d3_71) rfl (XT.ii_ne_f hc10) k') ?_
                      show Go p e below s _ _ _ (s₁.setTop (mkF m 74 #[.val (.int u)] []))
                      refine Go.st (fun _ k' => XS.iconst X0.here hx rfl (hb hby d3_74) k') ?_
                      show Go p e below s _ _ _ (s₁.setTop (mkF m 75 #[.val (.int u)] [(.int (3 : Int32))]))
                      refine Go.ret X0 hx hlk (t := .int) Bd.returns rfl (Or.inl ⟨rfl, Or.inl rfl, _, rfl⟩) (hb hby d3_75) (by decide) (by decide) e0 ?_
                      exact ⟨(by simp [fhi, hc1, hc2, hc3, hc4, hc5, hc6, hc7, hc8, hc9, hc10]), N0, rfl⟩
                    · refine Go.st (fun _ k' => XS.icmpYes X0.here hx rfl (pc0 := 71) (pc' := 76) rfl (hb hby d3_71) rfl (XT.ii_ne_t hc10) (by decide) (by decide) k') ?_
                      show Go p e below s _ _ _ (s₁.setTop (mkF m 76 #[.val (.int u)] []))
                      refine Go.st (fun _ k' => XS.iloadN X0.here hx rfl (hb hby d3_76) rfl k') ?_
                      show Go p e below s _ _ _ (s₁.setTop (mkF m 77 #[.val (.int u)] [(.int u)]))
                      refine Go.st (fun _ k' => XS.bipush X0.here hx rfl (hb hby d3_77) k') ?_
                      show Go p e below s _ _ _ (s₁.setTop (mkF m 79 #[.val (.int u)] [(.int (10 : Int32)), (.int u)]))
                      by_cases hc11 : u = (10 : Int32)
                      · refine Go.st (fun _ k' => XS.icmpNo X0.here hx rfl (hb hby d3_79) rfl (XT.ii_ne_f hc11) k') ?_
                        show Go p e below s _ _ _ (s₁.setTop (mkF m 82 #[.val (.int u)] []))
                        refine Go.st (fun _ k' => XS.iconst X0.here hx rfl (hb hby d3_82) k') ?_
                        show Go p e below s _ _ _ (s₁.setTop (mkF m 83 #[.val (.int u)] [(.int (3 : Int32))]))
                        refine Go.ret X0 hx hlk (t := .int) Bd.returns rfl (Or.inl ⟨rfl, Or.inl rfl, _, rfl⟩) (hb hby d3_83) (by decide) (by decide) e0 ?_
                        exact ⟨(by simp [fhi, hc1, hc2, hc3, hc4, hc5, hc6, hc7, hc8, hc9, hc10, hc11]), N0, rfl⟩
                      · refine Go.st (fun _ k' => XS.icmpYes X0.here hx rfl (pc0 := 79) (pc' := 84) rfl (hb hby d3_79) rfl (XT.ii_ne_t hc11) (by decide) (by decide) k') ?_
                        show Go p e below s _ _ _ (s₁.setTop (mkF m 84 #[.val (.int u)] []))
                        refine Go.st (fun _ k' => XS.iloadN X0.here hx rfl (hb hby d3_84) rfl k') ?_
                        show Go p e below s _ _ _ (s₁.setTop (mkF m 85 #[.val (.int u)] [(.int u)]))
                        refine Go.st (fun _ k' => XS.bipush X0.here hx rfl (hb hby d3_85) k') ?_
                        show Go p e below s _ _ _ (s₁.setTop (mkF m 87 #[.val (.int u)] [(.int (11 : Int32)), (.int u)]))
                        by_cases hc12 : u = (11 : Int32)
                        · refine Go.st (fun _ k' => XS.icmpNo X0.here hx rfl (hb hby d3_87) rfl (XT.ii_ne_f hc12) k') ?_
                          show Go p e below s _ _ _ (s₁.setTop (mkF m 90 #[.val (.int u)] []))
                          refine Go.st (fun _ k' => XS.iconst X0.here hx rfl (hb hby d3_90) k') ?_
                          show Go p e below s _ _ _ (s₁.setTop (mkF m 91 #[.val (.int u)] [(.int (4 : Int32))]))
                          refine Go.ret X0 hx hlk (t := .int) Bd.returns rfl (Or.inl ⟨rfl, Or.inl rfl, _, rfl⟩) (hb hby d3_91) (by decide) (by decide) e0 ?_
                          exact ⟨(by simp [fhi, hc1, hc2, hc3, hc4, hc5, hc6, hc7, hc8, hc9, hc10, hc11, hc12]), N0, rfl⟩
                        · refine Go.st (fun _ k' => XS.icmpYes X0.here hx rfl (pc0 := 87) (pc' := 92) rfl (hb hby d3_87) rfl (XT.ii_ne_t hc12) (by decide) (by decide) k') ?_
                          show Go p e below s _ _ _ (s₁.setTop (mkF m 92 #[.val (.int u)] []))
                          refine Go.st (fun _ k' => XS.iloadN X0.here hx rfl (hb hby d3_92) rfl k') ?_
                          show Go p e below s _ _ _ (s₁.setTop (mkF m 93 #[.val (.int u)] [(.int u)]))
                          refine Go.st (fun _ k' => XS.bipush X0.here hx rfl (hb hby d3_93) k') ?_
                          show Go p e below s _ _ _ (s₁.setTop (mkF m 95 #[.val (.int u)] [(.int (12 : Int32)), (.int u)]))
                          by_cases hc13 : u = (12 : Int32)
                          · refine Go.st (fun _ k' => XS.icmpNo X0.here hx rfl (hb hby d3_95) rfl (XT.ii_ne_f hc13) k') ?_
                            show Go p e below s _ _ _ (s₁.setTop (mkF m 98 #[.val (.int u)] []))
                            refine Go.st (fun _ k' => XS.iconst X0.here hx rfl (hb hby d3_98) k') ?_
                            show Go p e below s _ _ _ (s₁.setTop (mkF m 99 #[.val (.int u)] [(.int (0 : Int32))]))
                            refine Go.ret X0 hx hlk (t := .int) Bd.returns rfl (Or.inl ⟨rfl, Or.inl rfl, _, rfl⟩) (hb hby d3_99) (by decide) (by decide) e0 ?_
                            exact ⟨(by simp [fhi, hc1, hc2, hc3, hc4, hc5, hc6, hc7, hc8, hc9, hc10, hc11, hc12, hc13]), N0, rfl⟩
                          · refine Go.st (fun _ k' => XS.icmpYes X0.here hx rfl (pc0 := 95) (pc' := 100) rfl (hb hby d3_95) rfl (XT.ii_ne_t hc13) (by decide) (by decide) k') ?_
                            show Go p e below s _ _ _ (s₁.setTop (mkF m 100 #[.val (.int u)] []))
                            refine Go.st (fun _ k' => XS.iconst X0.here hx rfl (hb hby d3_100) k') ?_
                            show Go p e below s _ _ _ (s₁.setTop (mkF m 101 #[.val (.int u)] [(.int (3 : Int32))]))
                            refine Go.ret X0 hx hlk (t := .int) Bd.returns rfl (Or.inl ⟨rfl, Or.inl rfl, _, rfl⟩) (hb hby d3_101) (by decide) (by decide) e0 ?_
                            exact ⟨(by simp [fhi, hc1, hc2, hc3, hc4, hc5, hc6, hc7, hc8, hc9, hc10, hc11, hc12, hc13]), N0, rfl⟩
theorem d4_0 : decode prog_1_method_8_code 0 = .ok (.iload_n 1, 1) := by decide +kernel
theorem d4_1 : decode prog_1_method_8_code 1 = .ok (.aload_n 0, 1) := by decide +kernel
theorem d4_2 : decode prog_1_method_8_code 2 = .ok (.getfield 69, 3) := by decide +kernel
theorem d4_5 : decode prog_1_method_8_code 5 = .ok (.if_icmp .lt 15, 3) := by decide +kernel
theorem d4_20 : decode prog_1_method_8_code 20 = .ok (.iconst 0, 1) := by decide +kernel
theorem d4_21 : decode prog_1_method_8_code 21 = .ok (.ireturn, 1) := by decide +kernel
theorem d4_8 : decode prog_1_method_8_code 8 = .ok (.iload_n 1, 1) := by decide +kernel
theorem d4_9 : decode prog_1_method_8_code 9 = .ok (.aload_n 0, 1) := by decide +kernel
theorem d4_10 : decode prog_1_method_8_code 10 = .ok (.getfield 72, 3) := by decide +kernel
theorem d4_13 : decode prog_1_method_8_code 13 = .ok (.if_icmp .gt 7, 3) := by decide +kernel
theorem d4_16 : decode prog_1_method_8_code 16 = .ok (.iconst 1, 1) := by decide +kernel
theorem d4_17 : decode prog_1_method_8_code 17 = .ok (.goto 4, 3) := by decide +kernel
theorem pn_com_example_tenure_of_partitions_tenureofpartitions_ApiKey : plainName "com/example/tenure_of_partitions/tenureofpartitions/ApiKey" = true := by first | (simp [plainName, overriddenIn]; done) | decide +kernel
theorem ef_rm4 (m : MethodId) (ob : Addr) (vv : Int32) : entryFrame m #[(.ref ob), (.int vv)] 2 = mkF m 0 #[.val (.ref ob), .val (.int vv)] [] := by first | (simp [entryFrame, mkF, argsToLocals, Value.category]; done) | rfl
def Q4 (Z : State) (ob : Addr) (vv : Int32) (fa : Int32) (fb : Int32) (h0 : Heap) (n0 : Nat) (v : Option Value) (h : Heap) (L : List Loc) : Prop := v = some (.int (if vv < fa then (0 : Int32) else if fb < vv then 0 else 1)) ∧ Fr n0 L ∧ h = h0
set_option maxRecDepth 65536 in
set_option maxHeartbeats 40000000 in
theorem rm4 (l : Launch) (Z : State) (a0 : Array Value) (hw : ∀ d ∈ tables_1, d.before a0 Z = true) (ws : List Jvm.Cond) (ob : Addr) (vv : Int32) (fa : Int32) (fb : Int32) (h0 : Heap) (n0 : Nat) (O0 : Old Z n0 h0) (Fa : Fld Z h0 ob "com/example/tenure_of_partitions/tenureofpartitions/ApiKey" "minVersion" "S" (.int fa)) (Fb : Fld Z h0 ob "com/example/tenure_of_partitions/tenureofpartitions/ApiKey" "maxVersion" "S" (.int fb)) :
    MetFree l (⟨"com/example/tenure_of_partitions/tenureofpartitions/ApiKey", "serves", "(S)Z"⟩ : MethodName) (head1 (Jvm.Cond.code (⟨"com/example/tenure_of_partitions/tenureofpartitions/ApiKey", "serves", "(S)Z"⟩ : MethodName) prog_1_method_8_code 2 (some .boolean) :: ws) ({ frames := 0, cells := 0, slots := 0, locals := 0 } : Room)) (fun ay U => ay = #[(.ref ob), (.int vv)] ∧ Z.Warmed39 U.vm ∧ U.heap = h0) (fun _ _ _ _ _ => True) (fun _ U o U' => ∃ v L, o = .returned v ∧ Q4 Z ob vv fa fb h0 n0 v U'.heap L ∧ FrameEnd U o U' L ({ frames := 0, cells := 0, slots := 0, locals := 0 } : Room).cells ({ frames := 0, cells := 0, slots := 0, locals := 0 } : Room).slots) := by
  refine MetFree.of_bodySF (plainFor_of_name pn_com_example_tenure_of_partitions_tenureofpartitions_ApiKey) hisR ?_
  intro p e s m args below meth c s₁ Bd hml0 hP hK
  obtain ⟨rfl, hZ, hh⟩ := hP
  have hx := Bd.exec
  have hby := Bd.bytes
  have hlk : meth.locks = false := BodyLoose.notSynchronized Bd
  have hml : c.maxLocals = 2 := hml0
  have hown : s.vm.findClass "com/example/tenure_of_partitions/tenureofpartitions/ApiKey" = some m.cls := findClass_of_methodNamed Bd.named
  have hnm := (name_of_methodNamed Bd.named Bd.method).1
  have X0 : Stand p l e ({ frames := 0, cells := 0, slots := 0, locals := 0 } : Room) s m #[(.ref ob), (.int vv)] below meth c s₁ [] 0 0 := Stand.of_body Bd
  have e0 : s₁.heap = h0 := by rw [← hh, Bd.state]; rfl
  have N0 := Fr.nil n0
  suffices hgo : Go p e below s 0 0 (Q4 Z ob vv fa fb h0 n0) (s₁.setTop (mkF m 0 #[.val (.ref ob), .val (.int vv)] [])) by
    obtain ⟨t, o, h1, h2⟩ := hgo; exact ⟨t, o, castTop (ef_rm4 m ob vv) h1, h2⟩
  show Go p e below s _ _ _ (s₁.setTop (mkF m 0 #[.val (.ref ob), .val (.int vv)] []))
  refine Go.st (fun _ k' => XS.iloadN X0.here hx rfl (hb hby d4_0) rfl k') ?_
  show Go p e below s _ _ _ (s₁.setTop (mkF m 1 #[.val (.ref ob), .val (.int vv)] [(.int vv)]))
  refine Go.st (fun _ k' => XS.aloadN X0.here hx rfl (hb hby d4_1) rfl rfl k') ?_
  show Go p e below s _ _ _ (s₁.setTop (mkF m 2 #[.val (.ref ob), .val (.int vv)] [(.ref ob), (.int vv)]))
  obtain ⟨T1, X1, e1, st1⟩ := getF X0 hx hZ hown (host := "") (Or.inl (wdx hw 19 rfl)) Via.refl e0 Fa (g := (mkF m 2 #[.val (.ref ob), .val (.int vv)] [(.ref ob), (.int vv)])) rfl rfl (hb hby d4_2)
  refine Go.st st1 ?_
  show Go p e below s _ _ _ (T1.setTop (mkF m 5 #[.val (.ref ob), .val (.int vv)] [(.int fa), (.int vv)]))
  by_cases hc2 : vv < fa
  · refine Go.st (fun _ k' => XS.icmpYes X1.here hx rfl (pc0 := 5) (pc' := 20) rfl (hb hby d4_5) rfl (XT.ii_lt_t hc2) (by decide) (by decide) k') ?_
    show Go p e below s _ _ _ (T1.setTop (mkF m 20 #[.val (.ref ob), .val (.int vv)] []))
    refine Go.st (fun _ k' => XS.iconst X1.here hx rfl (hb hby d4_20) k') ?_
    show Go p e below s _ _ _ (T1.setTop (mkF m 21 #[.val (.ref ob), .val (.int vv)] [(.int (0 : Int32))]))
    refine Go.retB X1 hx hlk (t := .boolean) Bd.returns (by simp) (hb hby d4_21) (by decide) (by decide) e1 ?_
    exact ⟨(by simp [nar, hc2]), N0, rfl⟩
  · refine Go.st (fun _ k' => XS.icmpNo X1.here hx rfl (hb hby d4_5) rfl (XT.ii_lt_f hc2) k') ?_
    show Go p e below s _ _ _ (T1.setTop (mkF m 8 #[.val (.ref ob), .val (.int vv)] []))
    refine Go.st (fun _ k' => XS.iloadN X1.here hx rfl (hb hby d4_8) rfl k') ?_
    show Go p e below s _ _ _ (T1.setTop (mkF m 9 #[.val (.ref ob), .val (.int vv)] [(.int vv)]))
    refine Go.st (fun _ k' => XS.aloadN X1.here hx rfl (hb hby d4_9) rfl rfl k') ?_
    show Go p e below s _ _ _ (T1.setTop (mkF m 10 #[.val (.ref ob), .val (.int vv)] [(.ref ob), (.int vv)]))
    obtain ⟨T3, X3, e3, st3⟩ := getF X1 hx hZ hown (host := "") (Or.inl (wdx hw 21 rfl)) Via.refl e1 Fb (g := (mkF m 10 #[.val (.ref ob), .val (.int vv)] [(.ref ob), (.int vv)])) rfl rfl (hb hby d4_10)
    refine Go.st st3 ?_
    show Go p e below s _ _ _ (T3.setTop (mkF m 13 #[.val (.ref ob), .val (.int vv)] [(.int fb), (.int vv)]))
    by_cases hc4 : fb < vv
    · refine Go.st (fun _ k' => XS.icmpYes X3.here hx rfl (pc0 := 13) (pc' := 20) rfl (hb hby d4_13) rfl (XT.ii_gt_t hc4) (by decide) (by decide) k') ?_
      show Go p e below s _ _ _ (T3.setTop (mkF m 20 #[.val (.ref ob), .val (.int vv)] []))
      refine Go.st (fun _ k' => XS.iconst X3.here hx rfl (hb hby d4_20) k') ?_
      show Go p e below s _ _ _ (T3.setTop (mkF m 21 #[.val (.ref ob), .val (.int vv)] [(.int (0 : Int32))]))
      refine Go.retB X3 hx hlk (t := .boolean) Bd.returns (by simp) (hb hby d4_21) (by decide) (by decide) e3 ?_
      exact ⟨(by simp [nar, hc2, hc4]), N0, rfl⟩
    · refine Go.st (fun _ k' => XS.icmpNo X3.here hx rfl (hb hby d4_13) rfl (XT.ii_gt_f hc4) k') ?_
      show Go p e below s _ _ _ (T3.setTop (mkF m 16 #[.val (.ref ob), .val (.int vv)] []))
      refine Go.st (fun _ k' => XS.iconst X3.here hx rfl (hb hby d4_16) k') ?_
      show Go p e below s _ _ _ (T3.setTop (mkF m 17 #[.val (.ref ob), .val (.int vv)] [(.int (1 : Int32))]))
      refine Go.st (fun _ k' => XS.goto X3.here hx rfl (pc0 := 17) (pc' := 21) rfl (hb hby d4_17) (by decide) (by decide) k') ?_
      show Go p e below s _ _ _ (T3.setTop (mkF m 21 #[.val (.ref ob), .val (.int vv)] [(.int (1 : Int32))]))
      refine Go.retB X3 hx hlk (t := .boolean) Bd.returns (by simp) (hb hby d4_21) (by decide) (by decide) e3 ?_
      exact ⟨(by simp [nar, hc2, hc4]), N0, rfl⟩
theorem pd__I_Lcom_example_tenure_of_partitions_tenureofpartitions_ApiKey_ : parseMethodDescriptor "(I)Lcom/example/tenure_of_partitions/tenureofpartitions/ApiKey;" = some ⟨[.int], some (.object "com/example/tenure_of_partitions/tenureofpartitions/ApiKey")⟩ := by decide +kernel
theorem pd__I_I : parseMethodDescriptor "(I)I" = some ⟨[.int], some .int⟩ := by decide +kernel
theorem pd__S_Z : parseMethodDescriptor "(S)Z" = some ⟨[.short], some .boolean⟩ := by decide +kernel
theorem ef_rm0 (m : MethodId) (kk : Int32) (vv : Int32) : entryFrame m #[(.int kk), (.int vv)] maxLocals = mkF m 0 #[.val (.int kk), .val (.int vv), .unset, .unset, .unset, .unset, .unset, .unset] [] := by first | (simp [entryFrame, mkF, argsToLocals, Value.category, maxLocals]; done) | rfl
def Q0 (Z : State) (kk : Int32) (vv : Int32) (a_PRODUCE : Addr) (a_FETCH : Addr) (a_LIST_OFFSETS : Addr) (a_METADATA : Addr) (a_OFFSET_COMMIT : Addr) (a_OFFSET_FETCH : Addr) (a_FIND_COORDINATOR : Addr) (a_JOIN_GROUP : Addr) (a_HEARTBEAT : Addr) (a_LEAVE_GROUP : Addr) (a_SYNC_GROUP : Addr) (a_DESCRIBE_GROUPS : Addr) (a_LIST_GROUPS : Addr) (a_API_VERSIONS : Addr) (h0 : Heap) (n0 : Nat) (v : Option Value) (h : Heap) (L : List Loc) : Prop := v = some (.int (1 : Int32)) ∧ Fr n0 L ∧ True
set_option maxRecDepth 65536 in
set_option maxHeartbeats 40000000 in
theorem rm0 (l : Launch) (Z : State) (a0 : Array Value) (hw : ∀ d ∈ tables_1, d.before a0 Z = true) (ws : List Jvm.Cond) (kk : Int32) (vv : Int32) (a_PRODUCE : Addr) (a_FETCH : Addr) (a_LIST_OFFSETS : Addr) (a_METADATA : Addr) (a_OFFSET_COMMIT : Addr) (a_OFFSET_FETCH : Addr) (a_FIND_COORDINATOR : Addr) (a_JOIN_GROUP : Addr) (a_HEARTBEAT : Addr) (a_LEAVE_GROUP : Addr) (a_SYNC_GROUP : Addr) (a_DESCRIBE_GROUPS : Addr) (a_LIST_GROUPS : Addr) (a_API_VERSIONS : Addr) (h0 : Heap) (n0 : Nat) (O0 : Old Z n0 h0) (E_PRODUCE : Exa Z h0 a_PRODUCE "com/example/tenure_of_partitions/tenureofpartitions/ApiKey") (E_FETCH : Exa Z h0 a_FETCH "com/example/tenure_of_partitions/tenureofpartitions/ApiKey") (E_LIST_OFFSETS : Exa Z h0 a_LIST_OFFSETS "com/example/tenure_of_partitions/tenureofpartitions/ApiKey") (E_METADATA : Exa Z h0 a_METADATA "com/example/tenure_of_partitions/tenureofpartitions/ApiKey") (E_OFFSET_COMMIT : Exa Z h0 a_OFFSET_COMMIT "com/example/tenure_of_partitions/tenureofpartitions/ApiKey") (E_OFFSET_FETCH : Exa Z h0 a_OFFSET_FETCH "com/example/tenure_of_partitions/tenureofpartitions/ApiKey") (E_FIND_COORDINATOR : Exa Z h0 a_FIND_COORDINATOR "com/example/tenure_of_partitions/tenureofpartitions/ApiKey") (E_JOIN_GROUP : Exa Z h0 a_JOIN_GROUP "com/example/tenure_of_partitions/tenureofpartitions/ApiKey") (E_HEARTBEAT : Exa Z h0 a_HEARTBEAT "com/example/tenure_of_partitions/tenureofpartitions/ApiKey") (E_LEAVE_GROUP : Exa Z h0 a_LEAVE_GROUP "com/example/tenure_of_partitions/tenureofpartitions/ApiKey") (E_SYNC_GROUP : Exa Z h0 a_SYNC_GROUP "com/example/tenure_of_partitions/tenureofpartitions/ApiKey") (E_DESCRIBE_GROUPS : Exa Z h0 a_DESCRIBE_GROUPS "com/example/tenure_of_partitions/tenureofpartitions/ApiKey") (E_LIST_GROUPS : Exa Z h0 a_LIST_GROUPS "com/example/tenure_of_partitions/tenureofpartitions/ApiKey") (E_API_VERSIONS : Exa Z h0 a_API_VERSIONS "com/example/tenure_of_partitions/tenureofpartitions/ApiKey") (F_PRODUCE_minVersion : Fld Z h0 a_PRODUCE "com/example/tenure_of_partitions/tenureofpartitions/ApiKey" "minVersion" "S" (.int (3 : Int32))) (F_PRODUCE_maxVersion : Fld Z h0 a_PRODUCE "com/example/tenure_of_partitions/tenureofpartitions/ApiKey" "maxVersion" "S" (.int (3 : Int32))) (F_FETCH_minVersion : Fld Z h0 a_FETCH "com/example/tenure_of_partitions/tenureofpartitions/ApiKey" "minVersion" "S" (.int (4 : Int32))) (F_FETCH_maxVersion : Fld Z h0 a_FETCH "com/example/tenure_of_partitions/tenureofpartitions/ApiKey" "maxVersion" "S" (.int (11 : Int32))) (F_LIST_OFFSETS_minVersion : Fld Z h0 a_LIST_OFFSETS "com/example/tenure_of_partitions/tenureofpartitions/ApiKey" "minVersion" "S" (.int (1 : Int32))) (F_LIST_OFFSETS_maxVersion : Fld Z h0 a_LIST_OFFSETS "com/example/tenure_of_partitions/tenureofpartitions/ApiKey" "maxVersion" "S" (.int (2 : Int32))) (F_METADATA_minVersion : Fld Z h0 a_METADATA "com/example/tenure_of_partitions/tenureofpartitions/ApiKey" "minVersion" "S" (.int (0 : Int32))) (F_METADATA_maxVersion : Fld Z h0 a_METADATA "com/example/tenure_of_partitions/tenureofpartitions/ApiKey" "maxVersion" "S" (.int (4 : Int32))) (F_OFFSET_COMMIT_minVersion : Fld Z h0 a_OFFSET_COMMIT "com/example/tenure_of_partitions/tenureofpartitions/ApiKey" "minVersion" "S" (.int (2 : Int32))) (F_OFFSET_COMMIT_maxVersion : Fld Z h0 a_OFFSET_COMMIT "com/example/tenure_of_partitions/tenureofpartitions/ApiKey" "maxVersion" "S" (.int (7 : Int32))) (F_OFFSET_FETCH_minVersion : Fld Z h0 a_OFFSET_FETCH "com/example/tenure_of_partitions/tenureofpartitions/ApiKey" "minVersion" "S" (.int (1 : Int32))) (F_OFFSET_FETCH_maxVersion : Fld Z h0 a_OFFSET_FETCH "com/example/tenure_of_partitions/tenureofpartitions/ApiKey" "maxVersion" "S" (.int (7 : Int32))) (F_FIND_COORDINATOR_minVersion : Fld Z h0 a_FIND_COORDINATOR "com/example/tenure_of_partitions/tenureofpartitions/ApiKey" "minVersion" "S" (.int (0 : Int32))) (F_FIND_COORDINATOR_maxVersion : Fld Z h0 a_FIND_COORDINATOR "com/example/tenure_of_partitions/tenureofpartitions/ApiKey" "maxVersion" "S" (.int (2 : Int32))) (F_JOIN_GROUP_minVersion : Fld Z h0 a_JOIN_GROUP "com/example/tenure_of_partitions/tenureofpartitions/ApiKey" "minVersion" "S" (.int (0 : Int32))) (F_JOIN_GROUP_maxVersion : Fld Z h0 a_JOIN_GROUP "com/example/tenure_of_partitions/tenureofpartitions/ApiKey" "maxVersion" "S" (.int (5 : Int32))) (F_HEARTBEAT_minVersion : Fld Z h0 a_HEARTBEAT "com/example/tenure_of_partitions/tenureofpartitions/ApiKey" "minVersion" "S" (.int (0 : Int32))) (F_HEARTBEAT_maxVersion : Fld Z h0 a_HEARTBEAT "com/example/tenure_of_partitions/tenureofpartitions/ApiKey" "maxVersion" "S" (.int (3 : Int32))) (F_LEAVE_GROUP_minVersion : Fld Z h0 a_LEAVE_GROUP "com/example/tenure_of_partitions/tenureofpartitions/ApiKey" "minVersion" "S" (.int (0 : Int32))) (F_LEAVE_GROUP_maxVersion : Fld Z h0 a_LEAVE_GROUP "com/example/tenure_of_partitions/tenureofpartitions/ApiKey" "maxVersion" "S" (.int (3 : Int32))) (F_SYNC_GROUP_minVersion : Fld Z h0 a_SYNC_GROUP "com/example/tenure_of_partitions/tenureofpartitions/ApiKey" "minVersion" "S" (.int (0 : Int32))) (F_SYNC_GROUP_maxVersion : Fld Z h0 a_SYNC_GROUP "com/example/tenure_of_partitions/tenureofpartitions/ApiKey" "maxVersion" "S" (.int (3 : Int32))) (F_DESCRIBE_GROUPS_minVersion : Fld Z h0 a_DESCRIBE_GROUPS "com/example/tenure_of_partitions/tenureofpartitions/ApiKey" "minVersion" "S" (.int (0 : Int32))) (F_DESCRIBE_GROUPS_maxVersion : Fld Z h0 a_DESCRIBE_GROUPS "com/example/tenure_of_partitions/tenureofpartitions/ApiKey" "maxVersion" "S" (.int (4 : Int32))) (F_LIST_GROUPS_minVersion : Fld Z h0 a_LIST_GROUPS "com/example/tenure_of_partitions/tenureofpartitions/ApiKey" "minVersion" "S" (.int (0 : Int32))) (F_LIST_GROUPS_maxVersion : Fld Z h0 a_LIST_GROUPS "com/example/tenure_of_partitions/tenureofpartitions/ApiKey" "maxVersion" "S" (.int (0 : Int32))) (F_API_VERSIONS_minVersion : Fld Z h0 a_API_VERSIONS "com/example/tenure_of_partitions/tenureofpartitions/ApiKey" "minVersion" "S" (.int (0 : Int32))) (F_API_VERSIONS_maxVersion : Fld Z h0 a_API_VERSIONS "com/example/tenure_of_partitions/tenureofpartitions/ApiKey" "maxVersion" "S" (.int (3 : Int32))) (S_PRODUCE : Sta Z Z.heap "com/example/tenure_of_partitions/tenureofpartitions/ApiKey" "PRODUCE" "Lcom/example/tenure_of_partitions/tenureofpartitions/ApiKey;" (.ref a_PRODUCE)) (S_FETCH : Sta Z Z.heap "com/example/tenure_of_partitions/tenureofpartitions/ApiKey" "FETCH" "Lcom/example/tenure_of_partitions/tenureofpartitions/ApiKey;" (.ref a_FETCH)) (S_LIST_OFFSETS : Sta Z Z.heap "com/example/tenure_of_partitions/tenureofpartitions/ApiKey" "LIST_OFFSETS" "Lcom/example/tenure_of_partitions/tenureofpartitions/ApiKey;" (.ref a_LIST_OFFSETS)) (S_METADATA : Sta Z Z.heap "com/example/tenure_of_partitions/tenureofpartitions/ApiKey" "METADATA" "Lcom/example/tenure_of_partitions/tenureofpartitions/ApiKey;" (.ref a_METADATA)) (S_OFFSET_COMMIT : Sta Z Z.heap "com/example/tenure_of_partitions/tenureofpartitions/ApiKey" "OFFSET_COMMIT" "Lcom/example/tenure_of_partitions/tenureofpartitions/ApiKey;" (.ref a_OFFSET_COMMIT)) (S_OFFSET_FETCH : Sta Z Z.heap "com/example/tenure_of_partitions/tenureofpartitions/ApiKey" "OFFSET_FETCH" "Lcom/example/tenure_of_partitions/tenureofpartitions/ApiKey;" (.ref a_OFFSET_FETCH)) (S_FIND_COORDINATOR : Sta Z Z.heap "com/example/tenure_of_partitions/tenureofpartitions/ApiKey" "FIND_COORDINATOR" "Lcom/example/tenure_of_partitions/tenureofpartitions/ApiKey;" (.ref a_FIND_COORDINATOR)) (S_JOIN_GROUP : Sta Z Z.heap "com/example/tenure_of_partitions/tenureofpartitions/ApiKey" "JOIN_GROUP" "Lcom/example/tenure_of_partitions/tenureofpartitions/ApiKey;" (.ref a_JOIN_GROUP)) (S_HEARTBEAT : Sta Z Z.heap "com/example/tenure_of_partitions/tenureofpartitions/ApiKey" "HEARTBEAT" "Lcom/example/tenure_of_partitions/tenureofpartitions/ApiKey;" (.ref a_HEARTBEAT)) (S_LEAVE_GROUP : Sta Z Z.heap "com/example/tenure_of_partitions/tenureofpartitions/ApiKey" "LEAVE_GROUP" "Lcom/example/tenure_of_partitions/tenureofpartitions/ApiKey;" (.ref a_LEAVE_GROUP)) (S_SYNC_GROUP : Sta Z Z.heap "com/example/tenure_of_partitions/tenureofpartitions/ApiKey" "SYNC_GROUP" "Lcom/example/tenure_of_partitions/tenureofpartitions/ApiKey;" (.ref a_SYNC_GROUP)) (S_DESCRIBE_GROUPS : Sta Z Z.heap "com/example/tenure_of_partitions/tenureofpartitions/ApiKey" "DESCRIBE_GROUPS" "Lcom/example/tenure_of_partitions/tenureofpartitions/ApiKey;" (.ref a_DESCRIBE_GROUPS)) (S_LIST_GROUPS : Sta Z Z.heap "com/example/tenure_of_partitions/tenureofpartitions/ApiKey" "LIST_GROUPS" "Lcom/example/tenure_of_partitions/tenureofpartitions/ApiKey;" (.ref a_LIST_GROUPS)) (S_API_VERSIONS : Sta Z Z.heap "com/example/tenure_of_partitions/tenureofpartitions/ApiKey" "API_VERSIONS" "Lcom/example/tenure_of_partitions/tenureofpartitions/ApiKey;" (.ref a_API_VERSIONS)) :
    MetFree l x (head1 (Jvm.Cond.code x code maxLocals ret :: ws) room_1) (fun ay U => ay = #[(.int kk), (.int vv)] ∧ Z.Warmed39 U.vm ∧ U.heap = h0) (fun _ _ _ _ _ => True) (fun _ U o U' => ∃ v L, o = .returned v ∧ Q0 Z kk vv a_PRODUCE a_FETCH a_LIST_OFFSETS a_METADATA a_OFFSET_COMMIT a_OFFSET_FETCH a_FIND_COORDINATOR a_JOIN_GROUP a_HEARTBEAT a_LEAVE_GROUP a_SYNC_GROUP a_DESCRIBE_GROUPS a_LIST_GROUPS a_API_VERSIONS h0 n0 v U'.heap L ∧ FrameEnd U o U' L room_1.cells room_1.slots) := by
  refine MetFree.of_bodySF (plainFor_of_name pn_com_example_tenure_of_partitions_tenureofpartitions_ApiKeyServesPinLaw) hisR ?_
  intro p e s m args below meth c s₁ Bd hml0 hP hK
  obtain ⟨rfl, hZ, hh⟩ := hP
  have hx := Bd.exec
  have hby := Bd.bytes
  have hlk : meth.locks = false := BodyLoose.notSynchronized Bd
  have hml : c.maxLocals = 8 := hml0
  have hown : s.vm.findClass "com/example/tenure_of_partitions/tenureofpartitions/ApiKeyServesPinLaw" = some m.cls := findClass_of_methodNamed Bd.named
  have hnm := (name_of_methodNamed Bd.named Bd.method).1
  have X0 : Stand p l e room_1 s m #[(.int kk), (.int vv)] below meth c s₁ [] 0 0 := Stand.of_body Bd
  have e0 : s₁.heap = h0 := by rw [← hh, Bd.state]; rfl
  have N0 := Fr.nil n0
  suffices hgo : Go p e below s 0 0 (Q0 Z kk vv a_PRODUCE a_FETCH a_LIST_OFFSETS a_METADATA a_OFFSET_COMMIT a_OFFSET_FETCH a_FIND_COORDINATOR a_JOIN_GROUP a_HEARTBEAT a_LEAVE_GROUP a_SYNC_GROUP a_DESCRIBE_GROUPS a_LIST_GROUPS a_API_VERSIONS h0 n0) (s₁.setTop (mkF m 0 #[.val (.int kk), .val (.int vv), .unset, .unset, .unset, .unset, .unset, .unset] [])) by
    obtain ⟨t, o, h1, h2⟩ := hgo; exact ⟨t, o, castTop (ef_rm0 m kk vv) h1, h2⟩
  show Go p e below s _ _ _ (s₁.setTop (mkF m 0 #[.val (.int kk), .val (.int vv), .unset, .unset, .unset, .unset, .unset, .unset] []))
  refine Go.st (fun _ k' => XS.iloadN X0.here hx rfl (hb hby at_0) rfl k') ?_
  show Go p e below s _ _ _ (s₁.setTop (mkF m 1 #[.val (.int kk), .val (.int vv), .unset, .unset, .unset, .unset, .unset, .unset] [(.int kk)]))
  refine Go.st (fun _ k' => X0.ldcI hx hown (mvT hZ (wdx hw 0 rfl)) rfl (hb hby at_1) k') ?_
  show Go p e below s _ _ _ (s₁.setTop (mkF m 3 #[.val (.int kk), .val (.int vv), .unset, .unset, .unset, .unset, .unset, .unset] [(.int (2147483647 : Int32)), (.int kk)]))
  refine Go.st (fun _ k' => XS.iand X0.here hx rfl (hb hby at_3) rfl k') ?_
  show Go p e below s _ _ _ (s₁.setTop (mkF m 4 #[.val (.int kk), .val (.int vv), .unset, .unset, .unset, .unset, .unset, .unset] [(.int (kk &&& (2147483647 : Int32)))]))
  refine Go.st (fun _ k' => XS.bipush X0.here hx rfl (hb hby at_4) k') ?_
  show Go p e below s _ _ _ (s₁.setTop (mkF m 6 #[.val (.int kk), .val (.int vv), .unset, .unset, .unset, .unset, .unset, .unset] [(.int (14 : Int32)), (.int (kk &&& (2147483647 : Int32)))]))
  refine Go.st (fun _ k' => iremM X0 hx rfl (hb hby at_6) rfl (by decide) k') ?_
  show Go p e below s _ _ _ (s₁.setTop (mkF m 7 #[.val (.int kk), .val (.int vv), .unset, .unset, .unset, .unset, .unset, .unset] [(.int ((kk &&& (2147483647 : Int32)) % (14 : Int32)))]))
  refine Go.st (fun _ k' => XS.istoreN X0.here hx rfl (hb hby at_7) rfl (l' := #[.val (.int kk), .val (.int vv), .val (.int ((kk &&& (2147483647 : Int32)) % (14 : Int32))), .unset, .unset, .unset, .unset, .unset]) rfl k') ?_
  show Go p e below s _ _ _ (s₁.setTop (mkF m 8 #[.val (.int kk), .val (.int vv), .val (.int ((kk &&& (2147483647 : Int32)) % (14 : Int32))), .unset, .unset, .unset, .unset, .unset] []))
  rcases own_c14 kk with hi | hi | hi | hi | hi | hi | hi | hi | hi | hi | hi | hi | hi | hi
  · rw [hi]
    show Go p e below s _ _ _ (s₁.setTop (mkF m 8 #[.val (.int kk), .val (.int vv), .val (.int (0 : Int32)), .unset, .unset, .unset, .unset, .unset] []))
    refine Go.st (fun _ k' => XS.iloadN X0.here hx rfl (hb hby at_8) rfl k') ?_
    show Go p e below s _ _ _ (s₁.setTop (mkF m 9 #[.val (.int kk), .val (.int vv), .val (.int (0 : Int32)), .unset, .unset, .unset, .unset, .unset] [(.int (0 : Int32))]))
    obtain ⟨_, _, ⟨T1, L1, k1, n1⟩, -, X1, ⟨Lc1, hQ1, l1, y1, z1⟩, st1⟩ := Jvm.LawKit.callS X0 hx (y := (⟨"com/example/tenure_of_partitions/tenureofpartitions/ApiKeyServesPinLaw", "pick", "(I)Lcom/example/tenure_of_partitions/tenureofpartitions/ApiKey;"⟩ : MethodName)) hown (mvT hZ (wdx hw 1 rfl)) (mvT hZ (wdx hw 2 rfl)) (mvT hZ (wdx hw 3 rfl)) (mvT hZ (wdx hw 4 rfl)) (by decide) (backOf (W := 0) (rm1 l Z a0 hw [] (0 : Int32) a_PRODUCE a_FETCH a_LIST_OFFSETS a_METADATA a_OFFSET_COMMIT a_OFFSET_FETCH a_FIND_COORDINATOR a_JOIN_GROUP a_HEARTBEAT a_LEAVE_GROUP a_SYNC_GROUP a_DESCRIBE_GROUPS a_LIST_GROUPS a_API_VERSIONS h0 n0 O0 S_PRODUCE S_FETCH S_LIST_OFFSETS S_METADATA S_OFFSET_COMMIT S_OFFSET_FETCH S_FIND_COORDINATOR S_JOIN_GROUP S_HEARTBEAT S_LEAVE_GROUP S_SYNC_GROUP S_DESCRIBE_GROUPS S_LIST_GROUPS S_API_VERSIONS) hZ (wdx hw 4 rfl) (wdx hw 3 rfl) (by decide) (by decide)) (g := (mkF m 9 #[.val (.int kk), .val (.int vv), .val (.int (0 : Int32)), .unset, .unset, .unset, .unset, .unset] [(.int (0 : Int32))])) rfl (by rw [hml]; rfl) (argsL := [(.int (0 : Int32))]) (rest := []) (lenOf pd__I_Lcom_example_tenure_of_partitions_tenureofpartitions_ApiKey_ rfl) rfl (by show 2 * 0 + _ ≤ _; exact Nat.le_of_eq rfl) (hb hby at_9) (fun _ _ => ⟨rfl, e0, (by exact Nat.le_of_ble_eq_true rfl), (by exact Nat.le_of_ble_eq_true rfl)⟩)
    dsimp only [Pt.U, Pt.locs, Pt.cells, Pt.slots] at X1 l1 y1 z1 st1 hQ1
    subst l1 y1 z1
    obtain ⟨rfl, Nq1, eq1⟩ := hQ1
    have N1 := Fr.app N0 Nq1
    refine Go.st st1 ?_
    show Go p e below s _ _ _ (T1.setTop (mkF m 12 #[.val (.int kk), .val (.int vv), .val (.int (0 : Int32)), .unset, .unset, .unset, .unset, .unset] [(.ref (fpick (0 : Int32) a_PRODUCE a_FETCH a_LIST_OFFSETS a_METADATA a_OFFSET_COMMIT a_OFFSET_FETCH a_FIND_COORDINATOR a_JOIN_GROUP a_HEARTBEAT a_LEAVE_GROUP a_SYNC_GROUP a_DESCRIBE_GROUPS a_LIST_GROUPS a_API_VERSIONS))]))
    show Go p e below s _ _ _ (T1.setTop (mkF m 12 #[.val (.int kk), .val (.int vv), .val (.int (0 : Int32)), .unset, .unset, .unset, .unset, .unset] [(.ref a_PRODUCE)]))
    refine Go.st (fun _ k' => XS.astoreN X1.here hx rfl (hb hby at_12) rfl rfl (l' := #[.val (.int kk), .val (.int vv), .val (.int (0 : Int32)), .val (.ref a_PRODUCE), .unset, .unset, .unset, .unset]) rfl k') ?_
    show Go p e below s _ _ _ (T1.setTop (mkF m 13 #[.val (.int kk), .val (.int vv), .val (.int (0 : Int32)), .val (.ref a_PRODUCE), .unset, .unset, .unset, .unset] []))
    refine Go.st (fun _ k' => XS.iloadN X1.here hx rfl (hb hby at_13) rfl k') ?_
    show Go p e below s _ _ _ (T1.setTop (mkF m 14 #[.val (.int kk), .val (.int vv), .val (.int (0 : Int32)), .val (.ref a_PRODUCE), .unset, .unset, .unset, .unset] [(.int vv)]))
    refine Go.st (fun _ k' => XS.i2s X1.here hx rfl (hb hby at_14) rfl k') ?_
    show Go p e below s _ _ _ (T1.setTop (mkF m 15 #[.val (.int kk), .val (.int vv), .val (.int (0 : Int32)), .val (.ref a_PRODUCE), .unset, .unset, .unset, .unset] [(.int (vv.toInt16.toInt32))]))
    refine Go.st (fun _ k' => XS.istore X1.here hx rfl (hb hby at_15) rfl (l' := #[.val (.int kk), .val (.int vv), .val (.int (0 : Int32)), .val (.ref a_PRODUCE), .val (.int (vv.toInt16.toInt32)), .unset, .unset, .unset]) rfl k') ?_
    show Go p e below s _ _ _ (T1.setTop (mkF m 17 #[.val (.int kk), .val (.int vv), .val (.int (0 : Int32)), .val (.ref a_PRODUCE), .val (.int (vv.toInt16.toInt32)), .unset, .unset, .unset] []))
    refine Go.st (fun _ k' => XS.iloadN X1.here hx rfl (hb hby at_17) rfl k') ?_
    show Go p e below s _ _ _ (T1.setTop (mkF m 18 #[.val (.int kk), .val (.int vv), .val (.int (0 : Int32)), .val (.ref a_PRODUCE), .val (.int (vv.toInt16.toInt32)), .unset, .unset, .unset] [(.int (0 : Int32))]))
    obtain ⟨_, _, ⟨T2, L2, k2, n2⟩, -, X2, ⟨Lc2, hQ2, l2, y2, z2⟩, st2⟩ := Jvm.LawKit.callS X1 hx (y := (⟨"com/example/tenure_of_partitions/tenureofpartitions/ApiKeyServesPinLaw", "lo", "(I)I"⟩ : MethodName)) hown (mvT hZ (wdx hw 8 rfl)) (mvT hZ (wdx hw 9 rfl)) (mvT hZ (wdx hw 3 rfl)) (mvT hZ (wdx hw 10 rfl)) (by decide) (backOf (W := 0) (rm2 l Z a0 hw [] (0 : Int32) h0 n0 O0 ) hZ (wdx hw 10 rfl) (wdx hw 3 rfl) (by decide) (by decide)) (g := (mkF m 18 #[.val (.int kk), .val (.int vv), .val (.int (0 : Int32)), .val (.ref a_PRODUCE), .val (.int (vv.toInt16.toInt32)), .unset, .unset, .unset] [(.int (0 : Int32))])) rfl (by rw [hml]; rfl) (argsL := [(.int (0 : Int32))]) (rest := []) (lenOf pd__I_I rfl) rfl (by show 2 * 0 + _ ≤ _; exact Nat.le_of_eq rfl) (hb hby at_18) (fun _ _ => ⟨rfl, eq1, (by exact Nat.le_of_ble_eq_true rfl), (by exact Nat.le_of_ble_eq_true rfl)⟩)
    dsimp only [Pt.U, Pt.locs, Pt.cells, Pt.slots] at X2 l2 y2 z2 st2 hQ2
    subst l2 y2 z2
    obtain ⟨rfl, Nq2, eq2⟩ := hQ2
    have N2 := Fr.app N1 Nq2
    refine Go.st st2 ?_
    show Go p e below s _ _ _ (T2.setTop (mkF m 21 #[.val (.int kk), .val (.int vv), .val (.int (0 : Int32)), .val (.ref a_PRODUCE), .val (.int (vv.toInt16.toInt32)), .unset, .unset, .unset] [(.int (flo (0 : Int32)))]))
    show Go p e below s _ _ _ (T2.setTop (mkF m 21 #[.val (.int kk), .val (.int vv), .val (.int (0 : Int32)), .val (.ref a_PRODUCE), .val (.int (vv.toInt16.toInt32)), .unset, .unset, .unset] [(.int (3 : Int32))]))
    refine Go.st (fun _ k' => XS.istore X2.here hx rfl (hb hby at_21) rfl (l' := #[.val (.int kk), .val (.int vv), .val (.int (0 : Int32)), .val (.ref a_PRODUCE), .val (.int (vv.toInt16.toInt32)), .val (.int (3 : Int32)), .unset, .unset]) rfl k') ?_
    show Go p e below s _ _ _ (T2.setTop (mkF m 23 #[.val (.int kk), .val (.int vv), .val (.int (0 : Int32)), .val (.ref a_PRODUCE), .val (.int (vv.toInt16.toInt32)), .val (.int (3 : Int32)), .unset, .unset] []))
    refine Go.st (fun _ k' => XS.iloadN X2.here hx rfl (hb hby at_23) rfl k') ?_
    show Go p e below s _ _ _ (T2.setTop (mkF m 24 #[.val (.int kk), .val (.int vv), .val (.int (0 : Int32)), .val (.ref a_PRODUCE), .val (.int (vv.toInt16.toInt32)), .val (.int (3 : Int32)), .unset, .unset] [(.int (0 : Int32))]))
    obtain ⟨_, _, ⟨T3, L3, k3, n3⟩, -, X3, ⟨Lc3, hQ3, l3, y3, z3⟩, st3⟩ := Jvm.LawKit.callS X2 hx (y := (⟨"com/example/tenure_of_partitions/tenureofpartitions/ApiKeyServesPinLaw", "hi", "(I)I"⟩ : MethodName)) hown (mvT hZ (wdx hw 11 rfl)) (mvT hZ (wdx hw 12 rfl)) (mvT hZ (wdx hw 3 rfl)) (mvT hZ (wdx hw 13 rfl)) (by decide) (backOf (W := 0) (rm3 l Z a0 hw [] (0 : Int32) h0 n0 O0 ) hZ (wdx hw 13 rfl) (wdx hw 3 rfl) (by decide) (by decide)) (g := (mkF m 24 #[.val (.int kk), .val (.int vv), .val (.int (0 : Int32)), .val (.ref a_PRODUCE), .val (.int (vv.toInt16.toInt32)), .val (.int (3 : Int32)), .unset, .unset] [(.int (0 : Int32))])) rfl (by rw [hml]; rfl) (argsL := [(.int (0 : Int32))]) (rest := []) (lenOf pd__I_I rfl) rfl (by show 2 * 0 + _ ≤ _; exact Nat.le_of_eq rfl) (hb hby at_24) (fun _ _ => ⟨rfl, eq2, (by exact Nat.le_of_ble_eq_true rfl), (by exact Nat.le_of_ble_eq_true rfl)⟩)
    dsimp only [Pt.U, Pt.locs, Pt.cells, Pt.slots] at X3 l3 y3 z3 st3 hQ3
    subst l3 y3 z3
    obtain ⟨rfl, Nq3, eq3⟩ := hQ3
    have N3 := Fr.app N2 Nq3
    refine Go.st st3 ?_
    show Go p e below s _ _ _ (T3.setTop (mkF m 27 #[.val (.int kk), .val (.int vv), .val (.int (0 : Int32)), .val (.ref a_PRODUCE), .val (.int (vv.toInt16.toInt32)), .val (.int (3 : Int32)), .unset, .unset] [(.int (fhi (0 : Int32)))]))
    show Go p e below s _ _ _ (T3.setTop (mkF m 27 #[.val (.int kk), .val (.int vv), .val (.int (0 : Int32)), .val (.ref a_PRODUCE), .val (.int (vv.toInt16.toInt32)), .val (.int (3 : Int32)), .unset, .unset] [(.int (3 : Int32))]))
    refine Go.st (fun _ k' => XS.istore X3.here hx rfl (hb hby at_27) rfl (l' := #[.val (.int kk), .val (.int vv), .val (.int (0 : Int32)), .val (.ref a_PRODUCE), .val (.int (vv.toInt16.toInt32)), .val (.int (3 : Int32)), .val (.int (3 : Int32)), .unset]) rfl k') ?_
    show Go p e below s _ _ _ (T3.setTop (mkF m 29 #[.val (.int kk), .val (.int vv), .val (.int (0 : Int32)), .val (.ref a_PRODUCE), .val (.int (vv.toInt16.toInt32)), .val (.int (3 : Int32)), .val (.int (3 : Int32)), .unset] []))
    refine Go.st (fun _ k' => XS.iload X3.here hx rfl (hb hby at_29) rfl k') ?_
    show Go p e below s _ _ _ (T3.setTop (mkF m 31 #[.val (.int kk), .val (.int vv), .val (.int (0 : Int32)), .val (.ref a_PRODUCE), .val (.int (vv.toInt16.toInt32)), .val (.int (3 : Int32)), .val (.int (3 : Int32)), .unset] [(.int (vv.toInt16.toInt32))]))
    refine Go.st (fun _ k' => XS.iload X3.here hx rfl (hb hby at_31) rfl k') ?_
    show Go p e below s _ _ _ (T3.setTop (mkF m 33 #[.val (.int kk), .val (.int vv), .val (.int (0 : Int32)), .val (.ref a_PRODUCE), .val (.int (vv.toInt16.toInt32)), .val (.int (3 : Int32)), .val (.int (3 : Int32)), .unset] [(.int (3 : Int32)), (.int (vv.toInt16.toInt32))]))
    by_cases hc4 : (vv.toInt16.toInt32) < (3 : Int32)
    · refine Go.st (fun _ k' => XS.icmpYes X3.here hx rfl (pc0 := 33) (pc' := 47) rfl (hb hby at_33) rfl (XT.ii_lt_t hc4) (by decide) (by decide) k') ?_
      show Go p e below s _ _ _ (T3.setTop (mkF m 47 #[.val (.int kk), .val (.int vv), .val (.int (0 : Int32)), .val (.ref a_PRODUCE), .val (.int (vv.toInt16.toInt32)), .val (.int (3 : Int32)), .val (.int (3 : Int32)), .unset] []))
      refine Go.st (fun _ k' => XS.iconst X3.here hx rfl (hb hby at_47) k') ?_
      show Go p e below s _ _ _ (T3.setTop (mkF m 48 #[.val (.int kk), .val (.int vv), .val (.int (0 : Int32)), .val (.ref a_PRODUCE), .val (.int (vv.toInt16.toInt32)), .val (.int (3 : Int32)), .val (.int (3 : Int32)), .unset] [(.int (0 : Int32))]))
      refine Go.st (fun _ k' => XS.istore X3.here hx rfl (hb hby at_48) rfl (l' := #[.val (.int kk), .val (.int vv), .val (.int (0 : Int32)), .val (.ref a_PRODUCE), .val (.int (vv.toInt16.toInt32)), .val (.int (3 : Int32)), .val (.int (3 : Int32)), .val (.int (0 : Int32))]) rfl k') ?_
      show Go p e below s _ _ _ (T3.setTop (mkF m 50 #[.val (.int kk), .val (.int vv), .val (.int (0 : Int32)), .val (.ref a_PRODUCE), .val (.int (vv.toInt16.toInt32)), .val (.int (3 : Int32)), .val (.int (3 : Int32)), .val (.int (0 : Int32))] []))
      refine Go.st (fun _ k' => XS.aloadN X3.here hx rfl (hb hby at_50) rfl rfl k') ?_
      show Go p e below s _ _ _ (T3.setTop (mkF m 51 #[.val (.int kk), .val (.int vv), .val (.int (0 : Int32)), .val (.ref a_PRODUCE), .val (.int (vv.toInt16.toInt32)), .val (.int (3 : Int32)), .val (.int (3 : Int32)), .val (.int (0 : Int32))] [(.ref a_PRODUCE)]))
      refine Go.st (fun _ k' => XS.iload X3.here hx rfl (hb hby at_51) rfl k') ?_
      show Go p e below s _ _ _ (T3.setTop (mkF m 53 #[.val (.int kk), .val (.int vv), .val (.int (0 : Int32)), .val (.ref a_PRODUCE), .val (.int (vv.toInt16.toInt32)), .val (.int (3 : Int32)), .val (.int (3 : Int32)), .val (.int (0 : Int32))] [(.int (vv.toInt16.toInt32)), (.ref a_PRODUCE)]))
      obtain ⟨cq5, kq5, q5a, q5b, q5c⟩ := isOf hZ eq3 E_PRODUCE
      obtain ⟨_, _, ⟨T5, L5, k5, n5⟩, -, X5, ⟨Lc5, hQ5, l5, y5, z5⟩, st5⟩ := X3.virtualBack hx (y := (⟨"com/example/tenure_of_partitions/tenureofpartitions/ApiKey", "serves", "(S)Z"⟩ : MethodName)) (z := (⟨"com/example/tenure_of_partitions/tenureofpartitions/ApiKey", "serves", "(S)Z"⟩ : MethodName)) hown (mvT hZ (wdx hw 14 rfl)) (mvT hZ (wdx hw 15 rfl)) (notFace_of_selects (args := #[]) (mvT hZ (wdx hw 17 rfl))) (mvT hZ (wdx hw 17 rfl)) (mvT hZ (wdx hw 16 rfl)) (by decide) (backOf (W := 0) (rm4 l Z a0 hw [] a_PRODUCE (vv.toInt16.toInt32) (3 : Int32) (3 : Int32) h0 n0 O0 F_PRODUCE_minVersion F_PRODUCE_maxVersion) hZ (wdx hw 18 rfl) (wdx hw 6 rfl) (by decide) (by decide)) q5a q5c (g := (mkF m 53 #[.val (.int kk), .val (.int vv), .val (.int (0 : Int32)), .val (.ref a_PRODUCE), .val (.int (vv.toInt16.toInt32)), .val (.int (3 : Int32)), .val (.int (3 : Int32)), .val (.int (0 : Int32))] [(.int (vv.toInt16.toInt32)), (.ref a_PRODUCE)])) rfl (by rw [hml]; rfl) (Steps.refl _) (argsL := [(.int (vv.toInt16.toInt32))]) (rest := []) (lenOf pd__S_Z rfl) rfl (by show 2 * 0 + _ ≤ _; exact Nat.le_of_eq rfl) (hb hby at_53) (fun _ _ => ⟨rfl, eq3, (by exact Nat.le_of_ble_eq_true rfl), (by exact Nat.le_of_ble_eq_true rfl)⟩)
      dsimp only [Pt.U, Pt.locs, Pt.cells, Pt.slots] at X5 l5 y5 z5 st5 hQ5
      subst l5 y5 z5
      obtain ⟨rfl, Nq5, eq5⟩ := hQ5
      have N5 := Fr.app N3 Nq5
      refine Go.tr st5 ?_
      show Go p e below s _ _ _ (T5.setTop (mkF m 56 #[.val (.int kk), .val (.int vv), .val (.int (0 : Int32)), .val (.ref a_PRODUCE), .val (.int (vv.toInt16.toInt32)), .val (.int (3 : Int32)), .val (.int (3 : Int32)), .val (.int (0 : Int32))] [(.int (if (vv.toInt16.toInt32) < (3 : Int32) then (0 : Int32) else if (3 : Int32) < (vv.toInt16.toInt32) then 0 else 1))]))
      refine Go.st (fun _ k' => XS.iload X5.here hx rfl (hb hby at_56) rfl k') ?_
      show Go p e below s _ _ _ (T5.setTop (mkF m 58 #[.val (.int kk), .val (.int vv), .val (.int (0 : Int32)), .val (.ref a_PRODUCE), .val (.int (vv.toInt16.toInt32)), .val (.int (3 : Int32)), .val (.int (3 : Int32)), .val (.int (0 : Int32))] [(.int (0 : Int32)), (.int (if (vv.toInt16.toInt32) < (3 : Int32) then (0 : Int32) else if (3 : Int32) < (vv.toInt16.toInt32) then 0 else 1))]))
      by_cases hc6 : (if (vv.toInt16.toInt32) < (3 : Int32) then (0 : Int32) else if (3 : Int32) < (vv.toInt16.toInt32) then 0 else 1) = (0 : Int32)
      · refine Go.st (fun _ k' => XS.icmpNo X5.here hx rfl (hb hby at_58) rfl (XT.ii_ne_f hc6) k') ?_
        show Go p e below s _ _ _ (T5.setTop (mkF m 61 #[.val (.int kk), .val (.int vv), .val (.int (0 : Int32)), .val (.ref a_PRODUCE), .val (.int (vv.toInt16.toInt32)), .val (.int (3 : Int32)), .val (.int (3 : Int32)), .val (.int (0 : Int32))] []))
        refine Go.st (fun _ k' => XS.iconst X5.here hx rfl (hb hby at_61) k') ?_
        show Go p e below s _ _ _ (T5.setTop (mkF m 62 #[.val (.int kk), .val (.int vv), .val (.int (0 : Int32)), .val (.ref a_PRODUCE), .val (.int (vv.toInt16.toInt32)), .val (.int (3 : Int32)), .val (.int (3 : Int32)), .val (.int (0 : Int32))] [(.int (1 : Int32))]))
        refine Go.st (fun _ k' => XS.goto X5.here hx rfl (pc0 := 62) (pc' := 66) rfl (hb hby at_62) (by decide) (by decide) k') ?_
        show Go p e below s _ _ _ (T5.setTop (mkF m 66 #[.val (.int kk), .val (.int vv), .val (.int (0 : Int32)), .val (.ref a_PRODUCE), .val (.int (vv.toInt16.toInt32)), .val (.int (3 : Int32)), .val (.int (3 : Int32)), .val (.int (0 : Int32))] [(.int (1 : Int32))]))
        refine Go.retB X5 hx hlk (t := .boolean) Bd.returns (by simp) (hb hby at_66) (by decide) (by decide) eq5 ?_
        exact ⟨rfl, N5, trivial⟩
      · refine Go.st (fun _ k' => XS.icmpYes X5.here hx rfl (pc0 := 58) (pc' := 65) rfl (hb hby at_58) rfl (XT.ii_ne_t hc6) (by decide) (by decide) k') ?_
        show Go p e below s _ _ _ (T5.setTop (mkF m 65 #[.val (.int kk), .val (.int vv), .val (.int (0 : Int32)), .val (.ref a_PRODUCE), .val (.int (vv.toInt16.toInt32)), .val (.int (3 : Int32)), .val (.int (3 : Int32)), .val (.int (0 : Int32))] []))
        refine Go.st (fun _ k' => XS.iconst X5.here hx rfl (hb hby at_65) k') ?_
        show Go p e below s _ _ _ (T5.setTop (mkF m 66 #[.val (.int kk), .val (.int vv), .val (.int (0 : Int32)), .val (.ref a_PRODUCE), .val (.int (vv.toInt16.toInt32)), .val (.int (3 : Int32)), .val (.int (3 : Int32)), .val (.int (0 : Int32))] [(.int (0 : Int32))]))
        refine Go.retB X5 hx hlk (t := .boolean) Bd.returns (by simp) (hb hby at_66) (by decide) (by decide) eq5 ?_
        exact absurd (by simp [hc4]) hc6
    · refine Go.st (fun _ k' => XS.icmpNo X3.here hx rfl (hb hby at_33) rfl (XT.ii_lt_f hc4) k') ?_
      show Go p e below s _ _ _ (T3.setTop (mkF m 36 #[.val (.int kk), .val (.int vv), .val (.int (0 : Int32)), .val (.ref a_PRODUCE), .val (.int (vv.toInt16.toInt32)), .val (.int (3 : Int32)), .val (.int (3 : Int32)), .unset] []))
      refine Go.st (fun _ k' => XS.iload X3.here hx rfl (hb hby at_36) rfl k') ?_
      show Go p e below s _ _ _ (T3.setTop (mkF m 38 #[.val (.int kk), .val (.int vv), .val (.int (0 : Int32)), .val (.ref a_PRODUCE), .val (.int (vv.toInt16.toInt32)), .val (.int (3 : Int32)), .val (.int (3 : Int32)), .unset] [(.int (vv.toInt16.toInt32))]))
      refine Go.st (fun _ k' => XS.iload X3.here hx rfl (hb hby at_38) rfl k') ?_
      show Go p e below s _ _ _ (T3.setTop (mkF m 40 #[.val (.int kk), .val (.int vv), .val (.int (0 : Int32)), .val (.ref a_PRODUCE), .val (.int (vv.toInt16.toInt32)), .val (.int (3 : Int32)), .val (.int (3 : Int32)), .unset] [(.int (3 : Int32)), (.int (vv.toInt16.toInt32))]))
      by_cases hc7 : (3 : Int32) < (vv.toInt16.toInt32)
      · refine Go.st (fun _ k' => XS.icmpYes X3.here hx rfl (pc0 := 40) (pc' := 47) rfl (hb hby at_40) rfl (XT.ii_gt_t hc7) (by decide) (by decide) k') ?_
        show Go p e below s _ _ _ (T3.setTop (mkF m 47 #[.val (.int kk), .val (.int vv), .val (.int (0 : Int32)), .val (.ref a_PRODUCE), .val (.int (vv.toInt16.toInt32)), .val (.int (3 : Int32)), .val (.int (3 : Int32)), .unset] []))
        refine Go.st (fun _ k' => XS.iconst X3.here hx rfl (hb hby at_47) k') ?_
        show Go p e below s _ _ _ (T3.setTop (mkF m 48 #[.val (.int kk), .val (.int vv), .val (.int (0 : Int32)), .val (.ref a_PRODUCE), .val (.int (vv.toInt16.toInt32)), .val (.int (3 : Int32)), .val (.int (3 : Int32)), .unset] [(.int (0 : Int32))]))
        refine Go.st (fun _ k' => XS.istore X3.here hx rfl (hb hby at_48) rfl (l' := #[.val (.int kk), .val (.int vv), .val (.int (0 : Int32)), .val (.ref a_PRODUCE), .val (.int (vv.toInt16.toInt32)), .val (.int (3 : Int32)), .val (.int (3 : Int32)), .val (.int (0 : Int32))]) rfl k') ?_
        show Go p e below s _ _ _ (T3.setTop (mkF m 50 #[.val (.int kk), .val (.int vv), .val (.int (0 : Int32)), .val (.ref a_PRODUCE), .val (.int (vv.toInt16.toInt32)), .val (.int (3 : Int32)), .val (.int (3 : Int32)), .val (.int (0 : Int32))] []))
        refine Go.st (fun _ k' => XS.aloadN X3.here hx rfl (hb hby at_50) rfl rfl k') ?_
        show Go p e below s _ _ _ (T3.setTop (mkF m 51 #[.val (.int kk), .val (.int vv), .val (.int (0 : Int32)), .val (.ref a_PRODUCE), .val (.int (vv.toInt16.toInt32)), .val (.int (3 : Int32)), .val (.int (3 : Int32)), .val (.int (0 : Int32))] [(.ref a_PRODUCE)]))
        refine Go.st (fun _ k' => XS.iload X3.here hx rfl (hb hby at_51) rfl k') ?_
        show Go p e below s _ _ _ (T3.setTop (mkF m 53 #[.val (.int kk), .val (.int vv), .val (.int (0 : Int32)), .val (.ref a_PRODUCE), .val (.int (vv.toInt16.toInt32)), .val (.int (3 : Int32)), .val (.int (3 : Int32)), .val (.int (0 : Int32))] [(.int (vv.toInt16.toInt32)), (.ref a_PRODUCE)]))
        obtain ⟨cq8, kq8, q8a, q8b, q8c⟩ := isOf hZ eq3 E_PRODUCE
        obtain ⟨_, _, ⟨T8, L8, k8, n8⟩, -, X8, ⟨Lc8, hQ8, l8, y8, z8⟩, st8⟩ := X3.virtualBack hx (y := (⟨"com/example/tenure_of_partitions/tenureofpartitions/ApiKey", "serves", "(S)Z"⟩ : MethodName)) (z := (⟨"com/example/tenure_of_partitions/tenureofpartitions/ApiKey", "serves", "(S)Z"⟩ : MethodName)) hown (mvT hZ (wdx hw 14 rfl)) (mvT hZ (wdx hw 15 rfl)) (notFace_of_selects (args := #[]) (mvT hZ (wdx hw 17 rfl))) (mvT hZ (wdx hw 17 rfl)) (mvT hZ (wdx hw 16 rfl)) (by decide) (backOf (W := 0) (rm4 l Z a0 hw [] a_PRODUCE (vv.toInt16.toInt32) (3 : Int32) (3 : Int32) h0 n0 O0 F_PRODUCE_minVersion F_PRODUCE_maxVersion) hZ (wdx hw 18 rfl) (wdx hw 6 rfl) (by decide) (by decide)) q8a q8c (g := (mkF m 53 #[.val (.int kk), .val (.int vv), .val (.int (0 : Int32)), .val (.ref a_PRODUCE), .val (.int (vv.toInt16.toInt32)), .val (.int (3 : Int32)), .val (.int (3 : Int32)), .val (.int (0 : Int32))] [(.int (vv.toInt16.toInt32)), (.ref a_PRODUCE)])) rfl (by rw [hml]; rfl) (Steps.refl _) (argsL := [(.int (vv.toInt16.toInt32))]) (rest := []) (lenOf pd__S_Z rfl) rfl (by show 2 * 0 + _ ≤ _; exact Nat.le_of_eq rfl) (hb hby at_53) (fun _ _ => ⟨rfl, eq3, (by exact Nat.le_of_ble_eq_true rfl), (by exact Nat.le_of_ble_eq_true rfl)⟩)
        dsimp only [Pt.U, Pt.locs, Pt.cells, Pt.slots] at X8 l8 y8 z8 st8 hQ8
        subst l8 y8 z8
        obtain ⟨rfl, Nq8, eq8⟩ := hQ8
        have N8 := Fr.app N3 Nq8
        refine Go.tr st8 ?_
        show Go p e below s _ _ _ (T8.setTop (mkF m 56 #[.val (.int kk), .val (.int vv), .val (.int (0 : Int32)), .val (.ref a_PRODUCE), .val (.int (vv.toInt16.toInt32)), .val (.int (3 : Int32)), .val (.int (3 : Int32)), .val (.int (0 : Int32))] [(.int (if (vv.toInt16.toInt32) < (3 : Int32) then (0 : Int32) else if (3 : Int32) < (vv.toInt16.toInt32) then 0 else 1))]))
        refine Go.st (fun _ k' => XS.iload X8.here hx rfl (hb hby at_56) rfl k') ?_
        show Go p e below s _ _ _ (T8.setTop (mkF m 58 #[.val (.int kk), .val (.int vv), .val (.int (0 : Int32)), .val (.ref a_PRODUCE), .val (.int (vv.toInt16.toInt32)), .val (.int (3 : Int32)), .val (.int (3 : Int32)), .val (.int (0 : Int32))] [(.int (0 : Int32)), (.int (if (vv.toInt16.toInt32) < (3 : Int32) then (0 : Int32) else if (3 : Int32) < (vv.toInt16.toInt32) then 0 else 1))]))
        by_cases hc9 : (if (vv.toInt16.toInt32) < (3 : Int32) then (0 : Int32) else if (3 : Int32) < (vv.toInt16.toInt32) then 0 else 1) = (0 : Int32)
        · refine Go.st (fun _ k' => XS.icmpNo X8.here hx rfl (hb hby at_58) rfl (XT.ii_ne_f hc9) k') ?_
          show Go p e below s _ _ _ (T8.setTop (mkF m 61 #[.val (.int kk), .val (.int vv), .val (.int (0 : Int32)), .val (.ref a_PRODUCE), .val (.int (vv.toInt16.toInt32)), .val (.int (3 : Int32)), .val (.int (3 : Int32)), .val (.int (0 : Int32))] []))
          refine Go.st (fun _ k' => XS.iconst X8.here hx rfl (hb hby at_61) k') ?_
          show Go p e below s _ _ _ (T8.setTop (mkF m 62 #[.val (.int kk), .val (.int vv), .val (.int (0 : Int32)), .val (.ref a_PRODUCE), .val (.int (vv.toInt16.toInt32)), .val (.int (3 : Int32)), .val (.int (3 : Int32)), .val (.int (0 : Int32))] [(.int (1 : Int32))]))
          refine Go.st (fun _ k' => XS.goto X8.here hx rfl (pc0 := 62) (pc' := 66) rfl (hb hby at_62) (by decide) (by decide) k') ?_
          show Go p e below s _ _ _ (T8.setTop (mkF m 66 #[.val (.int kk), .val (.int vv), .val (.int (0 : Int32)), .val (.ref a_PRODUCE), .val (.int (vv.toInt16.toInt32)), .val (.int (3 : Int32)), .val (.int (3 : Int32)), .val (.int (0 : Int32))] [(.int (1 : Int32))]))
          refine Go.retB X8 hx hlk (t := .boolean) Bd.returns (by simp) (hb hby at_66) (by decide) (by decide) eq8 ?_
          exact ⟨rfl, N8, trivial⟩
        · refine Go.st (fun _ k' => XS.icmpYes X8.here hx rfl (pc0 := 58) (pc' := 65) rfl (hb hby at_58) rfl (XT.ii_ne_t hc9) (by decide) (by decide) k') ?_
          show Go p e below s _ _ _ (T8.setTop (mkF m 65 #[.val (.int kk), .val (.int vv), .val (.int (0 : Int32)), .val (.ref a_PRODUCE), .val (.int (vv.toInt16.toInt32)), .val (.int (3 : Int32)), .val (.int (3 : Int32)), .val (.int (0 : Int32))] []))
          refine Go.st (fun _ k' => XS.iconst X8.here hx rfl (hb hby at_65) k') ?_
          show Go p e below s _ _ _ (T8.setTop (mkF m 66 #[.val (.int kk), .val (.int vv), .val (.int (0 : Int32)), .val (.ref a_PRODUCE), .val (.int (vv.toInt16.toInt32)), .val (.int (3 : Int32)), .val (.int (3 : Int32)), .val (.int (0 : Int32))] [(.int (0 : Int32))]))
          refine Go.retB X8 hx hlk (t := .boolean) Bd.returns (by simp) (hb hby at_66) (by decide) (by decide) eq8 ?_
          exact absurd (by simp [hc4, hc7]) hc9
      · refine Go.st (fun _ k' => XS.icmpNo X3.here hx rfl (hb hby at_40) rfl (XT.ii_gt_f hc7) k') ?_
        show Go p e below s _ _ _ (T3.setTop (mkF m 43 #[.val (.int kk), .val (.int vv), .val (.int (0 : Int32)), .val (.ref a_PRODUCE), .val (.int (vv.toInt16.toInt32)), .val (.int (3 : Int32)), .val (.int (3 : Int32)), .unset] []))
        refine Go.st (fun _ k' => XS.iconst X3.here hx rfl (hb hby at_43) k') ?_
        show Go p e below s _ _ _ (T3.setTop (mkF m 44 #[.val (.int kk), .val (.int vv), .val (.int (0 : Int32)), .val (.ref a_PRODUCE), .val (.int (vv.toInt16.toInt32)), .val (.int (3 : Int32)), .val (.int (3 : Int32)), .unset] [(.int (1 : Int32))]))
        refine Go.st (fun _ k' => XS.goto X3.here hx rfl (pc0 := 44) (pc' := 48) rfl (hb hby at_44) (by decide) (by decide) k') ?_
        show Go p e below s _ _ _ (T3.setTop (mkF m 48 #[.val (.int kk), .val (.int vv), .val (.int (0 : Int32)), .val (.ref a_PRODUCE), .val (.int (vv.toInt16.toInt32)), .val (.int (3 : Int32)), .val (.int (3 : Int32)), .unset] [(.int (1 : Int32))]))
        refine Go.st (fun _ k' => XS.istore X3.here hx rfl (hb hby at_48) rfl (l' := #[.val (.int kk), .val (.int vv), .val (.int (0 : Int32)), .val (.ref a_PRODUCE), .val (.int (vv.toInt16.toInt32)), .val (.int (3 : Int32)), .val (.int (3 : Int32)), .val (.int (1 : Int32))]) rfl k') ?_
        show Go p e below s _ _ _ (T3.setTop (mkF m 50 #[.val (.int kk), .val (.int vv), .val (.int (0 : Int32)), .val (.ref a_PRODUCE), .val (.int (vv.toInt16.toInt32)), .val (.int (3 : Int32)), .val (.int (3 : Int32)), .val (.int (1 : Int32))] []))
        refine Go.st (fun _ k' => XS.aloadN X3.here hx rfl (hb hby at_50) rfl rfl k') ?_
        show Go p e below s _ _ _ (T3.setTop (mkF m 51 #[.val (.int kk), .val (.int vv), .val (.int (0 : Int32)), .val (.ref a_PRODUCE), .val (.int (vv.toInt16.toInt32)), .val (.int (3 : Int32)), .val (.int (3 : Int32)), .val (.int (1 : Int32))] [(.ref a_PRODUCE)]))
        refine Go.st (fun _ k' => XS.iload X3.here hx rfl (hb hby at_51) rfl k') ?_
        show Go p e below s _ _ _ (T3.setTop (mkF m 53 #[.val (.int kk), .val (.int vv), .val (.int (0 : Int32)), .val (.ref a_PRODUCE), .val (.int (vv.toInt16.toInt32)), .val (.int (3 : Int32)), .val (.int (3 : Int32)), .val (.int (1 : Int32))] [(.int (vv.toInt16.toInt32)), (.ref a_PRODUCE)]))
        obtain ⟨cq10, kq10, q10a, q10b, q10c⟩ := isOf hZ eq3 E_PRODUCE
        obtain ⟨_, _, ⟨T10, L10, k10, n10⟩, -, X10, ⟨Lc10, hQ10, l10, y10, z10⟩, st10⟩ := X3.virtualBack hx (y := (⟨"com/example/tenure_of_partitions/tenureofpartitions/ApiKey", "serves", "(S)Z"⟩ : MethodName)) (z := (⟨"com/example/tenure_of_partitions/tenureofpartitions/ApiKey", "serves", "(S)Z"⟩ : MethodName)) hown (mvT hZ (wdx hw 14 rfl)) (mvT hZ (wdx hw 15 rfl)) (notFace_of_selects (args := #[]) (mvT hZ (wdx hw 17 rfl))) (mvT hZ (wdx hw 17 rfl)) (mvT hZ (wdx hw 16 rfl)) (by decide) (backOf (W := 0) (rm4 l Z a0 hw [] a_PRODUCE (vv.toInt16.toInt32) (3 : Int32) (3 : Int32) h0 n0 O0 F_PRODUCE_minVersion F_PRODUCE_maxVersion) hZ (wdx hw 18 rfl) (wdx hw 6 rfl) (by decide) (by decide)) q10a q10c (g := (mkF m 53 #[.val (.int kk), .val (.int vv), .val (.int (0 : Int32)), .val (.ref a_PRODUCE), .val (.int (vv.toInt16.toInt32)), .val (.int (3 : Int32)), .val (.int (3 : Int32)), .val (.int (1 : Int32))] [(.int (vv.toInt16.toInt32)), (.ref a_PRODUCE)])) rfl (by rw [hml]; rfl) (Steps.refl _) (argsL := [(.int (vv.toInt16.toInt32))]) (rest := []) (lenOf pd__S_Z rfl) rfl (by show 2 * 0 + _ ≤ _; exact Nat.le_of_eq rfl) (hb hby at_53) (fun _ _ => ⟨rfl, eq3, (by exact Nat.le_of_ble_eq_true rfl), (by exact Nat.le_of_ble_eq_true rfl)⟩)
        dsimp only [Pt.U, Pt.locs, Pt.cells, Pt.slots] at X10 l10 y10 z10 st10 hQ10
        subst l10 y10 z10
        obtain ⟨rfl, Nq10, eq10⟩ := hQ10
        have N10 := Fr.app N3 Nq10
        refine Go.tr st10 ?_
        show Go p e below s _ _ _ (T10.setTop (mkF m 56 #[.val (.int kk), .val (.int vv), .val (.int (0 : Int32)), .val (.ref a_PRODUCE), .val (.int (vv.toInt16.toInt32)), .val (.int (3 : Int32)), .val (.int (3 : Int32)), .val (.int (1 : Int32))] [(.int (if (vv.toInt16.toInt32) < (3 : Int32) then (0 : Int32) else if (3 : Int32) < (vv.toInt16.toInt32) then 0 else 1))]))
        refine Go.st (fun _ k' => XS.iload X10.here hx rfl (hb hby at_56) rfl k') ?_
        show Go p e below s _ _ _ (T10.setTop (mkF m 58 #[.val (.int kk), .val (.int vv), .val (.int (0 : Int32)), .val (.ref a_PRODUCE), .val (.int (vv.toInt16.toInt32)), .val (.int (3 : Int32)), .val (.int (3 : Int32)), .val (.int (1 : Int32))] [(.int (1 : Int32)), (.int (if (vv.toInt16.toInt32) < (3 : Int32) then (0 : Int32) else if (3 : Int32) < (vv.toInt16.toInt32) then 0 else 1))]))
        by_cases hc11 : (if (vv.toInt16.toInt32) < (3 : Int32) then (0 : Int32) else if (3 : Int32) < (vv.toInt16.toInt32) then 0 else 1) = (1 : Int32)
        · refine Go.st (fun _ k' => XS.icmpNo X10.here hx rfl (hb hby at_58) rfl (XT.ii_ne_f hc11) k') ?_
          show Go p e below s _ _ _ (T10.setTop (mkF m 61 #[.val (.int kk), .val (.int vv), .val (.int (0 : Int32)), .val (.ref a_PRODUCE), .val (.int (vv.toInt16.toInt32)), .val (.int (3 : Int32)), .val (.int (3 : Int32)), .val (.int (1 : Int32))] []))
          refine Go.st (fun _ k' => XS.iconst X10.here hx rfl (hb hby at_61) k') ?_
          show Go p e below s _ _ _ (T10.setTop (mkF m 62 #[.val (.int kk), .val (.int vv), .val (.int (0 : Int32)), .val (.ref a_PRODUCE), .val (.int (vv.toInt16.toInt32)), .val (.int (3 : Int32)), .val (.int (3 : Int32)), .val (.int (1 : Int32))] [(.int (1 : Int32))]))
          refine Go.st (fun _ k' => XS.goto X10.here hx rfl (pc0 := 62) (pc' := 66) rfl (hb hby at_62) (by decide) (by decide) k') ?_
          show Go p e below s _ _ _ (T10.setTop (mkF m 66 #[.val (.int kk), .val (.int vv), .val (.int (0 : Int32)), .val (.ref a_PRODUCE), .val (.int (vv.toInt16.toInt32)), .val (.int (3 : Int32)), .val (.int (3 : Int32)), .val (.int (1 : Int32))] [(.int (1 : Int32))]))
          refine Go.retB X10 hx hlk (t := .boolean) Bd.returns (by simp) (hb hby at_66) (by decide) (by decide) eq10 ?_
          exact ⟨rfl, N10, trivial⟩
        · refine Go.st (fun _ k' => XS.icmpYes X10.here hx rfl (pc0 := 58) (pc' := 65) rfl (hb hby at_58) rfl (XT.ii_ne_t hc11) (by decide) (by decide) k') ?_
          show Go p e below s _ _ _ (T10.setTop (mkF m 65 #[.val (.int kk), .val (.int vv), .val (.int (0 : Int32)), .val (.ref a_PRODUCE), .val (.int (vv.toInt16.toInt32)), .val (.int (3 : Int32)), .val (.int (3 : Int32)), .val (.int (1 : Int32))] []))
          refine Go.st (fun _ k' => XS.iconst X10.here hx rfl (hb hby at_65) k') ?_
          show Go p e below s _ _ _ (T10.setTop (mkF m 66 #[.val (.int kk), .val (.int vv), .val (.int (0 : Int32)), .val (.ref a_PRODUCE), .val (.int (vv.toInt16.toInt32)), .val (.int (3 : Int32)), .val (.int (3 : Int32)), .val (.int (1 : Int32))] [(.int (0 : Int32))]))
          refine Go.retB X10 hx hlk (t := .boolean) Bd.returns (by simp) (hb hby at_66) (by decide) (by decide) eq10 ?_
          exact absurd (by simp [hc4, hc7]) hc11
  · rw [hi]
    show Go p e below s _ _ _ (s₁.setTop (mkF m 8 #[.val (.int kk), .val (.int vv), .val (.int (1 : Int32)), .unset, .unset, .unset, .unset, .unset] []))
    refine Go.st (fun _ k' => XS.iloadN X0.here hx rfl (hb hby at_8) rfl k') ?_
    show Go p e below s _ _ _ (s₁.setTop (mkF m 9 #[.val (.int kk), .val (.int vv), .val (.int (1 : Int32)), .unset, .unset, .unset, .unset, .unset] [(.int (1 : Int32))]))
    obtain ⟨_, _, ⟨T12, L12, k12, n12⟩, -, X12, ⟨Lc12, hQ12, l12, y12, z12⟩, st12⟩ := Jvm.LawKit.callS X0 hx (y := (⟨"com/example/tenure_of_partitions/tenureofpartitions/ApiKeyServesPinLaw", "pick", "(I)Lcom/example/tenure_of_partitions/tenureofpartitions/ApiKey;"⟩ : MethodName)) hown (mvT hZ (wdx hw 1 rfl)) (mvT hZ (wdx hw 2 rfl)) (mvT hZ (wdx hw 3 rfl)) (mvT hZ (wdx hw 4 rfl)) (by decide) (backOf (W := 0) (rm1 l Z a0 hw [] (1 : Int32) a_PRODUCE a_FETCH a_LIST_OFFSETS a_METADATA a_OFFSET_COMMIT a_OFFSET_FETCH a_FIND_COORDINATOR a_JOIN_GROUP a_HEARTBEAT a_LEAVE_GROUP a_SYNC_GROUP a_DESCRIBE_GROUPS a_LIST_GROUPS a_API_VERSIONS h0 n0 O0 S_PRODUCE S_FETCH S_LIST_OFFSETS S_METADATA S_OFFSET_COMMIT S_OFFSET_FETCH S_FIND_COORDINATOR S_JOIN_GROUP S_HEARTBEAT S_LEAVE_GROUP S_SYNC_GROUP S_DESCRIBE_GROUPS S_LIST_GROUPS S_API_VERSIONS) hZ (wdx hw 4 rfl) (wdx hw 3 rfl) (by decide) (by decide)) (g := (mkF m 9 #[.val (.int kk), .val (.int vv), .val (.int (1 : Int32)), .unset, .unset, .unset, .unset, .unset] [(.int (1 : Int32))])) rfl (by rw [hml]; rfl) (argsL := [(.int (1 : Int32))]) (rest := []) (lenOf pd__I_Lcom_example_tenure_of_partitions_tenureofpartitions_ApiKey_ rfl) rfl (by show 2 * 0 + _ ≤ _; exact Nat.le_of_eq rfl) (hb hby at_9) (fun _ _ => ⟨rfl, e0, (by exact Nat.le_of_ble_eq_true rfl), (by exact Nat.le_of_ble_eq_true rfl)⟩)
    dsimp only [Pt.U, Pt.locs, Pt.cells, Pt.slots] at X12 l12 y12 z12 st12 hQ12
    subst l12 y12 z12
    obtain ⟨rfl, Nq12, eq12⟩ := hQ12
    have N12 := Fr.app N0 Nq12
    refine Go.st st12 ?_
    show Go p e below s _ _ _ (T12.setTop (mkF m 12 #[.val (.int kk), .val (.int vv), .val (.int (1 : Int32)), .unset, .unset, .unset, .unset, .unset] [(.ref (fpick (1 : Int32) a_PRODUCE a_FETCH a_LIST_OFFSETS a_METADATA a_OFFSET_COMMIT a_OFFSET_FETCH a_FIND_COORDINATOR a_JOIN_GROUP a_HEARTBEAT a_LEAVE_GROUP a_SYNC_GROUP a_DESCRIBE_GROUPS a_LIST_GROUPS a_API_VERSIONS))]))
    show Go p e below s _ _ _ (T12.setTop (mkF m 12 #[.val (.int kk), .val (.int vv), .val (.int (1 : Int32)), .unset, .unset, .unset, .unset, .unset] [(.ref a_FETCH)]))
    refine Go.st (fun _ k' => XS.astoreN X12.here hx rfl (hb hby at_12) rfl rfl (l' := #[.val (.int kk), .val (.int vv), .val (.int (1 : Int32)), .val (.ref a_FETCH), .unset, .unset, .unset, .unset]) rfl k') ?_
    show Go p e below s _ _ _ (T12.setTop (mkF m 13 #[.val (.int kk), .val (.int vv), .val (.int (1 : Int32)), .val (.ref a_FETCH), .unset, .unset, .unset, .unset] []))
    refine Go.st (fun _ k' => XS.iloadN X12.here hx rfl (hb hby at_13) rfl k') ?_
    show Go p e below s _ _ _ (T12.setTop (mkF m 14 #[.val (.int kk), .val (.int vv), .val (.int (1 : Int32)), .val (.ref a_FETCH), .unset, .unset, .unset, .unset] [(.int vv)]))
    refine Go.st (fun _ k' => XS.i2s X12.here hx rfl (hb hby at_14) rfl k') ?_
    show Go p e below s _ _ _ (T12.setTop (mkF m 15 #[.val (.int kk), .val (.int vv), .val (.int (1 : Int32)), .val (.ref a_FETCH), .unset, .unset, .unset, .unset] [(.int (vv.toInt16.toInt32))]))
    refine Go.st (fun _ k' => XS.istore X12.here hx rfl (hb hby at_15) rfl (l' := #[.val (.int kk), .val (.int vv), .val (.int (1 : Int32)), .val (.ref a_FETCH), .val (.int (vv.toInt16.toInt32)), .unset, .unset, .unset]) rfl k') ?_
    show Go p e below s _ _ _ (T12.setTop (mkF m 17 #[.val (.int kk), .val (.int vv), .val (.int (1 : Int32)), .val (.ref a_FETCH), .val (.int (vv.toInt16.toInt32)), .unset, .unset, .unset] []))
    refine Go.st (fun _ k' => XS.iloadN X12.here hx rfl (hb hby at_17) rfl k') ?_
    show Go p e below s _ _ _ (T12.setTop (mkF m 18 #[.val (.int kk), .val (.int vv), .val (.int (1 : Int32)), .val (.ref a_FETCH), .val (.int (vv.toInt16.toInt32)), .unset, .unset, .unset] [(.int (1 : Int32))]))
    obtain ⟨_, _, ⟨T13, L13, k13, n13⟩, -, X13, ⟨Lc13, hQ13, l13, y13, z13⟩, st13⟩ := Jvm.LawKit.callS X12 hx (y := (⟨"com/example/tenure_of_partitions/tenureofpartitions/ApiKeyServesPinLaw", "lo", "(I)I"⟩ : MethodName)) hown (mvT hZ (wdx hw 8 rfl)) (mvT hZ (wdx hw 9 rfl)) (mvT hZ (wdx hw 3 rfl)) (mvT hZ (wdx hw 10 rfl)) (by decide) (backOf (W := 0) (rm2 l Z a0 hw [] (1 : Int32) h0 n0 O0 ) hZ (wdx hw 10 rfl) (wdx hw 3 rfl) (by decide) (by decide)) (g := (mkF m 18 #[.val (.int kk), .val (.int vv), .val (.int (1 : Int32)), .val (.ref a_FETCH), .val (.int (vv.toInt16.toInt32)), .unset, .unset, .unset] [(.int (1 : Int32))])) rfl (by rw [hml]; rfl) (argsL := [(.int (1 : Int32))]) (rest := []) (lenOf pd__I_I rfl) rfl (by show 2 * 0 + _ ≤ _; exact Nat.le_of_eq rfl) (hb hby at_18) (fun _ _ => ⟨rfl, eq12, (by exact Nat.le_of_ble_eq_true rfl), (by exact Nat.le_of_ble_eq_true rfl)⟩)
    dsimp only [Pt.U, Pt.locs, Pt.cells, Pt.slots] at X13 l13 y13 z13 st13 hQ13
    subst l13 y13 z13
    obtain ⟨rfl, Nq13, eq13⟩ := hQ13
    have N13 := Fr.app N12 Nq13
    refine Go.st st13 ?_
    show Go p e below s _ _ _ (T13.setTop (mkF m 21 #[.val (.int kk), .val (.int vv), .val (.int (1 : Int32)), .val (.ref a_FETCH), .val (.int (vv.toInt16.toInt32)), .unset, .unset, .unset] [(.int (flo (1 : Int32)))]))
    show Go p e below s _ _ _ (T13.setTop (mkF m 21 #[.val (.int kk), .val (.int vv), .val (.int (1 : Int32)), .val (.ref a_FETCH), .val (.int (vv.toInt16.toInt32)), .unset, .unset, .unset] [(.int (4 : Int32))]))
    refine Go.st (fun _ k' => XS.istore X13.here hx rfl (hb hby at_21) rfl (l' := #[.val (.int kk), .val (.int vv), .val (.int (1 : Int32)), .val (.ref a_FETCH), .val (.int (vv.toInt16.toInt32)), .val (.int (4 : Int32)), .unset, .unset]) rfl k') ?_
    show Go p e below s _ _ _ (T13.setTop (mkF m 23 #[.val (.int kk), .val (.int vv), .val (.int (1 : Int32)), .val (.ref a_FETCH), .val (.int (vv.toInt16.toInt32)), .val (.int (4 : Int32)), .unset, .unset] []))
    refine Go.st (fun _ k' => XS.iloadN X13.here hx rfl (hb hby at_23) rfl k') ?_
    show Go p e below s _ _ _ (T13.setTop (mkF m 24 #[.val (.int kk), .val (.int vv), .val (.int (1 : Int32)), .val (.ref a_FETCH), .val (.int (vv.toInt16.toInt32)), .val (.int (4 : Int32)), .unset, .unset] [(.int (1 : Int32))]))
    obtain ⟨_, _, ⟨T14, L14, k14, n14⟩, -, X14, ⟨Lc14, hQ14, l14, y14, z14⟩, st14⟩ := Jvm.LawKit.callS X13 hx (y := (⟨"com/example/tenure_of_partitions/tenureofpartitions/ApiKeyServesPinLaw", "hi", "(I)I"⟩ : MethodName)) hown (mvT hZ (wdx hw 11 rfl)) (mvT hZ (wdx hw 12 rfl)) (mvT hZ (wdx hw 3 rfl)) (mvT hZ (wdx hw 13 rfl)) (by decide) (backOf (W := 0) (rm3 l Z a0 hw [] (1 : Int32) h0 n0 O0 ) hZ (wdx hw 13 rfl) (wdx hw 3 rfl) (by decide) (by decide)) (g := (mkF m 24 #[.val (.int kk), .val (.int vv), .val (.int (1 : Int32)), .val (.ref a_FETCH), .val (.int (vv.toInt16.toInt32)), .val (.int (4 : Int32)), .unset, .unset] [(.int (1 : Int32))])) rfl (by rw [hml]; rfl) (argsL := [(.int (1 : Int32))]) (rest := []) (lenOf pd__I_I rfl) rfl (by show 2 * 0 + _ ≤ _; exact Nat.le_of_eq rfl) (hb hby at_24) (fun _ _ => ⟨rfl, eq13, (by exact Nat.le_of_ble_eq_true rfl), (by exact Nat.le_of_ble_eq_true rfl)⟩)
    dsimp only [Pt.U, Pt.locs, Pt.cells, Pt.slots] at X14 l14 y14 z14 st14 hQ14
    subst l14 y14 z14
    obtain ⟨rfl, Nq14, eq14⟩ := hQ14
    have N14 := Fr.app N13 Nq14
    refine Go.st st14 ?_
    show Go p e below s _ _ _ (T14.setTop (mkF m 27 #[.val (.int kk), .val (.int vv), .val (.int (1 : Int32)), .val (.ref a_FETCH), .val (.int (vv.toInt16.toInt32)), .val (.int (4 : Int32)), .unset, .unset] [(.int (fhi (1 : Int32)))]))
    show Go p e below s _ _ _ (T14.setTop (mkF m 27 #[.val (.int kk), .val (.int vv), .val (.int (1 : Int32)), .val (.ref a_FETCH), .val (.int (vv.toInt16.toInt32)), .val (.int (4 : Int32)), .unset, .unset] [(.int (11 : Int32))]))
    refine Go.st (fun _ k' => XS.istore X14.here hx rfl (hb hby at_27) rfl (l' := #[.val (.int kk), .val (.int vv), .val (.int (1 : Int32)), .val (.ref a_FETCH), .val (.int (vv.toInt16.toInt32)), .val (.int (4 : Int32)), .val (.int (11 : Int32)), .unset]) rfl k') ?_
    show Go p e below s _ _ _ (T14.setTop (mkF m 29 #[.val (.int kk), .val (.int vv), .val (.int (1 : Int32)), .val (.ref a_FETCH), .val (.int (vv.toInt16.toInt32)), .val (.int (4 : Int32)), .val (.int (11 : Int32)), .unset] []))
    refine Go.st (fun _ k' => XS.iload X14.here hx rfl (hb hby at_29) rfl k') ?_
    show Go p e below s _ _ _ (T14.setTop (mkF m 31 #[.val (.int kk), .val (.int vv), .val (.int (1 : Int32)), .val (.ref a_FETCH), .val (.int (vv.toInt16.toInt32)), .val (.int (4 : Int32)), .val (.int (11 : Int32)), .unset] [(.int (vv.toInt16.toInt32))]))
    refine Go.st (fun _ k' => XS.iload X14.here hx rfl (hb hby at_31) rfl k') ?_
    show Go p e below s _ _ _ (T14.setTop (mkF m 33 #[.val (.int kk), .val (.int vv), .val (.int (1 : Int32)), .val (.ref a_FETCH), .val (.int (vv.toInt16.toInt32)), .val (.int (4 : Int32)), .val (.int (11 : Int32)), .unset] [(.int (4 : Int32)), (.int (vv.toInt16.toInt32))]))
    by_cases hc15 : (vv.toInt16.toInt32) < (4 : Int32)
    · refine Go.st (fun _ k' => XS.icmpYes X14.here hx rfl (pc0 := 33) (pc' := 47) rfl (hb hby at_33) rfl (XT.ii_lt_t hc15) (by decide) (by decide) k') ?_
      show Go p e below s _ _ _ (T14.setTop (mkF m 47 #[.val (.int kk), .val (.int vv), .val (.int (1 : Int32)), .val (.ref a_FETCH), .val (.int (vv.toInt16.toInt32)), .val (.int (4 : Int32)), .val (.int (11 : Int32)), .unset] []))
      refine Go.st (fun _ k' => XS.iconst X14.here hx rfl (hb hby at_47) k') ?_
      show Go p e below s _ _ _ (T14.setTop (mkF m 48 #[.val (.int kk), .val (.int vv), .val (.int (1 : Int32)), .val (.ref a_FETCH), .val (.int (vv.toInt16.toInt32)), .val (.int (4 : Int32)), .val (.int (11 : Int32)), .unset] [(.int (0 : Int32))]))
      refine Go.st (fun _ k' => XS.istore X14.here hx rfl (hb hby at_48) rfl (l' := #[.val (.int kk), .val (.int vv), .val (.int (1 : Int32)), .val (.ref a_FETCH), .val (.int (vv.toInt16.toInt32)), .val (.int (4 : Int32)), .val (.int (11 : Int32)), .val (.int (0 : Int32))]) rfl k') ?_
      show Go p e below s _ _ _ (T14.setTop (mkF m 50 #[.val (.int kk), .val (.int vv), .val (.int (1 : Int32)), .val (.ref a_FETCH), .val (.int (vv.toInt16.toInt32)), .val (.int (4 : Int32)), .val (.int (11 : Int32)), .val (.int (0 : Int32))] []))
      refine Go.st (fun _ k' => XS.aloadN X14.here hx rfl (hb hby at_50) rfl rfl k') ?_
      show Go p e below s _ _ _ (T14.setTop (mkF m 51 #[.val (.int kk), .val (.int vv), .val (.int (1 : Int32)), .val (.ref a_FETCH), .val (.int (vv.toInt16.toInt32)), .val (.int (4 : Int32)), .val (.int (11 : Int32)), .val (.int (0 : Int32))] [(.ref a_FETCH)]))
      refine Go.st (fun _ k' => XS.iload X14.here hx rfl (hb hby at_51) rfl k') ?_
      show Go p e below s _ _ _ (T14.setTop (mkF m 53 #[.val (.int kk), .val (.int vv), .val (.int (1 : Int32)), .val (.ref a_FETCH), .val (.int (vv.toInt16.toInt32)), .val (.int (4 : Int32)), .val (.int (11 : Int32)), .val (.int (0 : Int32))] [(.int (vv.toInt16.toInt32)), (.ref a_FETCH)]))
      obtain ⟨cq16, kq16, q16a, q16b, q16c⟩ := isOf hZ eq14 E_FETCH
      obtain ⟨_, _, ⟨T16, L16, k16, n16⟩, -, X16, ⟨Lc16, hQ16, l16, y16, z16⟩, st16⟩ := X14.virtualBack hx (y := (⟨"com/example/tenure_of_partitions/tenureofpartitions/ApiKey", "serves", "(S)Z"⟩ : MethodName)) (z := (⟨"com/example/tenure_of_partitions/tenureofpartitions/ApiKey", "serves", "(S)Z"⟩ : MethodName)) hown (mvT hZ (wdx hw 14 rfl)) (mvT hZ (wdx hw 15 rfl)) (notFace_of_selects (args := #[]) (mvT hZ (wdx hw 17 rfl))) (mvT hZ (wdx hw 17 rfl)) (mvT hZ (wdx hw 16 rfl)) (by decide) (backOf (W := 0) (rm4 l Z a0 hw [] a_FETCH (vv.toInt16.toInt32) (4 : Int32) (11 : Int32) h0 n0 O0 F_FETCH_minVersion F_FETCH_maxVersion) hZ (wdx hw 18 rfl) (wdx hw 6 rfl) (by decide) (by decide)) q16a q16c (g := (mkF m 53 #[.val (.int kk), .val (.int vv), .val (.int (1 : Int32)), .val (.ref a_FETCH), .val (.int (vv.toInt16.toInt32)), .val (.int (4 : Int32)), .val (.int (11 : Int32)), .val (.int (0 : Int32))] [(.int (vv.toInt16.toInt32)), (.ref a_FETCH)])) rfl (by rw [hml]; rfl) (Steps.refl _) (argsL := [(.int (vv.toInt16.toInt32))]) (rest := []) (lenOf pd__S_Z rfl) rfl (by show 2 * 0 + _ ≤ _; exact Nat.le_of_eq rfl) (hb hby at_53) (fun _ _ => ⟨rfl, eq14, (by exact Nat.le_of_ble_eq_true rfl), (by exact Nat.le_of_ble_eq_true rfl)⟩)
      dsimp only [Pt.U, Pt.locs, Pt.cells, Pt.slots] at X16 l16 y16 z16 st16 hQ16
      subst l16 y16 z16
      obtain ⟨rfl, Nq16, eq16⟩ := hQ16
      have N16 := Fr.app N14 Nq16
      refine Go.tr st16 ?_
      show Go p e below s _ _ _ (T16.setTop (mkF m 56 #[.val (.int kk), .val (.int vv), .val (.int (1 : Int32)), .val (.ref a_FETCH), .val (.int (vv.toInt16.toInt32)), .val (.int (4 : Int32)), .val (.int (11 : Int32)), .val (.int (0 : Int32))] [(.int (if (vv.toInt16.toInt32) < (4 : Int32) then (0 : Int32) else if (11 : Int32) < (vv.toInt16.toInt32) then 0 else 1))]))
      refine Go.st (fun _ k' => XS.iload X16.here hx rfl (hb hby at_56) rfl k') ?_
      show Go p e below s _ _ _ (T16.setTop (mkF m 58 #[.val (.int kk), .val (.int vv), .val (.int (1 : Int32)), .val (.ref a_FETCH), .val (.int (vv.toInt16.toInt32)), .val (.int (4 : Int32)), .val (.int (11 : Int32)), .val (.int (0 : Int32))] [(.int (0 : Int32)), (.int (if (vv.toInt16.toInt32) < (4 : Int32) then (0 : Int32) else if (11 : Int32) < (vv.toInt16.toInt32) then 0 else 1))]))
      by_cases hc17 : (if (vv.toInt16.toInt32) < (4 : Int32) then (0 : Int32) else if (11 : Int32) < (vv.toInt16.toInt32) then 0 else 1) = (0 : Int32)
      · refine Go.st (fun _ k' => XS.icmpNo X16.here hx rfl (hb hby at_58) rfl (XT.ii_ne_f hc17) k') ?_
        show Go p e below s _ _ _ (T16.setTop (mkF m 61 #[.val (.int kk), .val (.int vv), .val (.int (1 : Int32)), .val (.ref a_FETCH), .val (.int (vv.toInt16.toInt32)), .val (.int (4 : Int32)), .val (.int (11 : Int32)), .val (.int (0 : Int32))] []))
        refine Go.st (fun _ k' => XS.iconst X16.here hx rfl (hb hby at_61) k') ?_
        show Go p e below s _ _ _ (T16.setTop (mkF m 62 #[.val (.int kk), .val (.int vv), .val (.int (1 : Int32)), .val (.ref a_FETCH), .val (.int (vv.toInt16.toInt32)), .val (.int (4 : Int32)), .val (.int (11 : Int32)), .val (.int (0 : Int32))] [(.int (1 : Int32))]))
        refine Go.st (fun _ k' => XS.goto X16.here hx rfl (pc0 := 62) (pc' := 66) rfl (hb hby at_62) (by decide) (by decide) k') ?_
        show Go p e below s _ _ _ (T16.setTop (mkF m 66 #[.val (.int kk), .val (.int vv), .val (.int (1 : Int32)), .val (.ref a_FETCH), .val (.int (vv.toInt16.toInt32)), .val (.int (4 : Int32)), .val (.int (11 : Int32)), .val (.int (0 : Int32))] [(.int (1 : Int32))]))
        refine Go.retB X16 hx hlk (t := .boolean) Bd.returns (by simp) (hb hby at_66) (by decide) (by decide) eq16 ?_
        exact ⟨rfl, N16, trivial⟩
      · refine Go.st (fun _ k' => XS.icmpYes X16.here hx rfl (pc0 := 58) (pc' := 65) rfl (hb hby at_58) rfl (XT.ii_ne_t hc17) (by decide) (by decide) k') ?_
        show Go p e below s _ _ _ (T16.setTop (mkF m 65 #[.val (.int kk), .val (.int vv), .val (.int (1 : Int32)), .val (.ref a_FETCH), .val (.int (vv.toInt16.toInt32)), .val (.int (4 : Int32)), .val (.int (11 : Int32)), .val (.int (0 : Int32))] []))
        refine Go.st (fun _ k' => XS.iconst X16.here hx rfl (hb hby at_65) k') ?_
        show Go p e below s _ _ _ (T16.setTop (mkF m 66 #[.val (.int kk), .val (.int vv), .val (.int (1 : Int32)), .val (.ref a_FETCH), .val (.int (vv.toInt16.toInt32)), .val (.int (4 : Int32)), .val (.int (11 : Int32)), .val (.int (0 : Int32))] [(.int (0 : Int32))]))
        refine Go.retB X16 hx hlk (t := .boolean) Bd.returns (by simp) (hb hby at_66) (by decide) (by decide) eq16 ?_
        exact absurd (by simp [hc15]) hc17
    · refine Go.st (fun _ k' => XS.icmpNo X14.here hx rfl (hb hby at_33) rfl (XT.ii_lt_f hc15) k') ?_
      show Go p e below s _ _ _ (T14.setTop (mkF m 36 #[.val (.int kk), .val (.int vv), .val (.int (1 : Int32)), .val (.ref a_FETCH), .val (.int (vv.toInt16.toInt32)), .val (.int (4 : Int32)), .val (.int (11 : Int32)), .unset] []))
      refine Go.st (fun _ k' => XS.iload X14.here hx rfl (hb hby at_36) rfl k') ?_
      show Go p e below s _ _ _ (T14.setTop (mkF m 38 #[.val (.int kk), .val (.int vv), .val (.int (1 : Int32)), .val (.ref a_FETCH), .val (.int (vv.toInt16.toInt32)), .val (.int (4 : Int32)), .val (.int (11 : Int32)), .unset] [(.int (vv.toInt16.toInt32))]))
      refine Go.st (fun _ k' => XS.iload X14.here hx rfl (hb hby at_38) rfl k') ?_
      show Go p e below s _ _ _ (T14.setTop (mkF m 40 #[.val (.int kk), .val (.int vv), .val (.int (1 : Int32)), .val (.ref a_FETCH), .val (.int (vv.toInt16.toInt32)), .val (.int (4 : Int32)), .val (.int (11 : Int32)), .unset] [(.int (11 : Int32)), (.int (vv.toInt16.toInt32))]))
      by_cases hc18 : (11 : Int32) < (vv.toInt16.toInt32)
      · refine Go.st (fun _ k' => XS.icmpYes X14.here hx rfl (pc0 := 40) (pc' := 47) rfl (hb hby at_40) rfl (XT.ii_gt_t hc18) (by decide) (by decide) k') ?_
        show Go p e below s _ _ _ (T14.setTop (mkF m 47 #[.val (.int kk), .val (.int vv), .val (.int (1 : Int32)), .val (.ref a_FETCH), .val (.int (vv.toInt16.toInt32)), .val (.int (4 : Int32)), .val (.int (11 : Int32)), .unset] []))
        refine Go.st (fun _ k' => XS.iconst X14.here hx rfl (hb hby at_47) k') ?_
        show Go p e below s _ _ _ (T14.setTop (mkF m 48 #[.val (.int kk), .val (.int vv), .val (.int (1 : Int32)), .val (.ref a_FETCH), .val (.int (vv.toInt16.toInt32)), .val (.int (4 : Int32)), .val (.int (11 : Int32)), .unset] [(.int (0 : Int32))]))
        refine Go.st (fun _ k' => XS.istore X14.here hx rfl (hb hby at_48) rfl (l' := #[.val (.int kk), .val (.int vv), .val (.int (1 : Int32)), .val (.ref a_FETCH), .val (.int (vv.toInt16.toInt32)), .val (.int (4 : Int32)), .val (.int (11 : Int32)), .val (.int (0 : Int32))]) rfl k') ?_
        show Go p e below s _ _ _ (T14.setTop (mkF m 50 #[.val (.int kk), .val (.int vv), .val (.int (1 : Int32)), .val (.ref a_FETCH), .val (.int (vv.toInt16.toInt32)), .val (.int (4 : Int32)), .val (.int (11 : Int32)), .val (.int (0 : Int32))] []))
        refine Go.st (fun _ k' => XS.aloadN X14.here hx rfl (hb hby at_50) rfl rfl k') ?_
        show Go p e below s _ _ _ (T14.setTop (mkF m 51 #[.val (.int kk), .val (.int vv), .val (.int (1 : Int32)), .val (.ref a_FETCH), .val (.int (vv.toInt16.toInt32)), .val (.int (4 : Int32)), .val (.int (11 : Int32)), .val (.int (0 : Int32))] [(.ref a_FETCH)]))
        refine Go.st (fun _ k' => XS.iload X14.here hx rfl (hb hby at_51) rfl k') ?_
        show Go p e below s _ _ _ (T14.setTop (mkF m 53 #[.val (.int kk), .val (.int vv), .val (.int (1 : Int32)), .val (.ref a_FETCH), .val (.int (vv.toInt16.toInt32)), .val (.int (4 : Int32)), .val (.int (11 : Int32)), .val (.int (0 : Int32))] [(.int (vv.toInt16.toInt32)), (.ref a_FETCH)]))
        obtain ⟨cq19, kq19, q19a, q19b, q19c⟩ := isOf hZ eq14 E_FETCH
        obtain ⟨_, _, ⟨T19, L19, k19, n19⟩, -, X19, ⟨Lc19, hQ19, l19, y19, z19⟩, st19⟩ := X14.virtualBack hx (y := (⟨"com/example/tenure_of_partitions/tenureofpartitions/ApiKey", "serves", "(S)Z"⟩ : MethodName)) (z := (⟨"com/example/tenure_of_partitions/tenureofpartitions/ApiKey", "serves", "(S)Z"⟩ : MethodName)) hown (mvT hZ (wdx hw 14 rfl)) (mvT hZ (wdx hw 15 rfl)) (notFace_of_selects (args := #[]) (mvT hZ (wdx hw 17 rfl))) (mvT hZ (wdx hw 17 rfl)) (mvT hZ (wdx hw 16 rfl)) (by decide) (backOf (W := 0) (rm4 l Z a0 hw [] a_FETCH (vv.toInt16.toInt32) (4 : Int32) (11 : Int32) h0 n0 O0 F_FETCH_minVersion F_FETCH_maxVersion) hZ (wdx hw 18 rfl) (wdx hw 6 rfl) (by decide) (by decide)) q19a q19c (g := (mkF m 53 #[.val (.int kk), .val (.int vv), .val (.int (1 : Int32)), .val (.ref a_FETCH), .val (.int (vv.toInt16.toInt32)), .val (.int (4 : Int32)), .val (.int (11 : Int32)), .val (.int (0 : Int32))] [(.int (vv.toInt16.toInt32)), (.ref a_FETCH)])) rfl (by rw [hml]; rfl) (Steps.refl _) (argsL := [(.int (vv.toInt16.toInt32))]) (rest := []) (lenOf pd__S_Z rfl) rfl (by show 2 * 0 + _ ≤ _; exact Nat.le_of_eq rfl) (hb hby at_53) (fun _ _ => ⟨rfl, eq14, (by exact Nat.le_of_ble_eq_true rfl), (by exact Nat.le_of_ble_eq_true rfl)⟩)
        dsimp only [Pt.U, Pt.locs, Pt.cells, Pt.slots] at X19 l19 y19 z19 st19 hQ19
        subst l19 y19 z19
        obtain ⟨rfl, Nq19, eq19⟩ := hQ19
        have N19 := Fr.app N14 Nq19
        refine Go.tr st19 ?_
        show Go p e below s _ _ _ (T19.setTop (mkF m 56 #[.val (.int kk), .val (.int vv), .val (.int (1 : Int32)), .val (.ref a_FETCH), .val (.int (vv.toInt16.toInt32)), .val (.int (4 : Int32)), .val (.int (11 : Int32)), .val (.int (0 : Int32))] [(.int (if (vv.toInt16.toInt32) < (4 : Int32) then (0 : Int32) else if (11 : Int32) < (vv.toInt16.toInt32) then 0 else 1))]))
        refine Go.st (fun _ k' => XS.iload X19.here hx rfl (hb hby at_56) rfl k') ?_
        show Go p e below s _ _ _ (T19.setTop (mkF m 58 #[.val (.int kk), .val (.int vv), .val (.int (1 : Int32)), .val (.ref a_FETCH), .val (.int (vv.toInt16.toInt32)), .val (.int (4 : Int32)), .val (.int (11 : Int32)), .val (.int (0 : Int32))] [(.int (0 : Int32)), (.int (if (vv.toInt16.toInt32) < (4 : Int32) then (0 : Int32) else if (11 : Int32) < (vv.toInt16.toInt32) then 0 else 1))]))
        by_cases hc20 : (if (vv.toInt16.toInt32) < (4 : Int32) then (0 : Int32) else if (11 : Int32) < (vv.toInt16.toInt32) then 0 else 1) = (0 : Int32)
        · refine Go.st (fun _ k' => XS.icmpNo X19.here hx rfl (hb hby at_58) rfl (XT.ii_ne_f hc20) k') ?_
          show Go p e below s _ _ _ (T19.setTop (mkF m 61 #[.val (.int kk), .val (.int vv), .val (.int (1 : Int32)), .val (.ref a_FETCH), .val (.int (vv.toInt16.toInt32)), .val (.int (4 : Int32)), .val (.int (11 : Int32)), .val (.int (0 : Int32))] []))
          refine Go.st (fun _ k' => XS.iconst X19.here hx rfl (hb hby at_61) k') ?_
          show Go p e below s _ _ _ (T19.setTop (mkF m 62 #[.val (.int kk), .val (.int vv), .val (.int (1 : Int32)), .val (.ref a_FETCH), .val (.int (vv.toInt16.toInt32)), .val (.int (4 : Int32)), .val (.int (11 : Int32)), .val (.int (0 : Int32))] [(.int (1 : Int32))]))
          refine Go.st (fun _ k' => XS.goto X19.here hx rfl (pc0 := 62) (pc' := 66) rfl (hb hby at_62) (by decide) (by decide) k') ?_
          show Go p e below s _ _ _ (T19.setTop (mkF m 66 #[.val (.int kk), .val (.int vv), .val (.int (1 : Int32)), .val (.ref a_FETCH), .val (.int (vv.toInt16.toInt32)), .val (.int (4 : Int32)), .val (.int (11 : Int32)), .val (.int (0 : Int32))] [(.int (1 : Int32))]))
          refine Go.retB X19 hx hlk (t := .boolean) Bd.returns (by simp) (hb hby at_66) (by decide) (by decide) eq19 ?_
          exact ⟨rfl, N19, trivial⟩
        · refine Go.st (fun _ k' => XS.icmpYes X19.here hx rfl (pc0 := 58) (pc' := 65) rfl (hb hby at_58) rfl (XT.ii_ne_t hc20) (by decide) (by decide) k') ?_
          show Go p e below s _ _ _ (T19.setTop (mkF m 65 #[.val (.int kk), .val (.int vv), .val (.int (1 : Int32)), .val (.ref a_FETCH), .val (.int (vv.toInt16.toInt32)), .val (.int (4 : Int32)), .val (.int (11 : Int32)), .val (.int (0 : Int32))] []))
          refine Go.st (fun _ k' => XS.iconst X19.here hx rfl (hb hby at_65) k') ?_
          show Go p e below s _ _ _ (T19.setTop (mkF m 66 #[.val (.int kk), .val (.int vv), .val (.int (1 : Int32)), .val (.ref a_FETCH), .val (.int (vv.toInt16.toInt32)), .val (.int (4 : Int32)), .val (.int (11 : Int32)), .val (.int (0 : Int32))] [(.int (0 : Int32))]))
          refine Go.retB X19 hx hlk (t := .boolean) Bd.returns (by simp) (hb hby at_66) (by decide) (by decide) eq19 ?_
          exact absurd (by simp [hc15, hc18]) hc20
      · refine Go.st (fun _ k' => XS.icmpNo X14.here hx rfl (hb hby at_40) rfl (XT.ii_gt_f hc18) k') ?_
        show Go p e below s _ _ _ (T14.setTop (mkF m 43 #[.val (.int kk), .val (.int vv), .val (.int (1 : Int32)), .val (.ref a_FETCH), .val (.int (vv.toInt16.toInt32)), .val (.int (4 : Int32)), .val (.int (11 : Int32)), .unset] []))
        refine Go.st (fun _ k' => XS.iconst X14.here hx rfl (hb hby at_43) k') ?_
        show Go p e below s _ _ _ (T14.setTop (mkF m 44 #[.val (.int kk), .val (.int vv), .val (.int (1 : Int32)), .val (.ref a_FETCH), .val (.int (vv.toInt16.toInt32)), .val (.int (4 : Int32)), .val (.int (11 : Int32)), .unset] [(.int (1 : Int32))]))
        refine Go.st (fun _ k' => XS.goto X14.here hx rfl (pc0 := 44) (pc' := 48) rfl (hb hby at_44) (by decide) (by decide) k') ?_
        show Go p e below s _ _ _ (T14.setTop (mkF m 48 #[.val (.int kk), .val (.int vv), .val (.int (1 : Int32)), .val (.ref a_FETCH), .val (.int (vv.toInt16.toInt32)), .val (.int (4 : Int32)), .val (.int (11 : Int32)), .unset] [(.int (1 : Int32))]))
        refine Go.st (fun _ k' => XS.istore X14.here hx rfl (hb hby at_48) rfl (l' := #[.val (.int kk), .val (.int vv), .val (.int (1 : Int32)), .val (.ref a_FETCH), .val (.int (vv.toInt16.toInt32)), .val (.int (4 : Int32)), .val (.int (11 : Int32)), .val (.int (1 : Int32))]) rfl k') ?_
        show Go p e below s _ _ _ (T14.setTop (mkF m 50 #[.val (.int kk), .val (.int vv), .val (.int (1 : Int32)), .val (.ref a_FETCH), .val (.int (vv.toInt16.toInt32)), .val (.int (4 : Int32)), .val (.int (11 : Int32)), .val (.int (1 : Int32))] []))
        refine Go.st (fun _ k' => XS.aloadN X14.here hx rfl (hb hby at_50) rfl rfl k') ?_
        show Go p e below s _ _ _ (T14.setTop (mkF m 51 #[.val (.int kk), .val (.int vv), .val (.int (1 : Int32)), .val (.ref a_FETCH), .val (.int (vv.toInt16.toInt32)), .val (.int (4 : Int32)), .val (.int (11 : Int32)), .val (.int (1 : Int32))] [(.ref a_FETCH)]))
        refine Go.st (fun _ k' => XS.iload X14.here hx rfl (hb hby at_51) rfl k') ?_
        show Go p e below s _ _ _ (T14.setTop (mkF m 53 #[.val (.int kk), .val (.int vv), .val (.int (1 : Int32)), .val (.ref a_FETCH), .val (.int (vv.toInt16.toInt32)), .val (.int (4 : Int32)), .val (.int (11 : Int32)), .val (.int (1 : Int32))] [(.int (vv.toInt16.toInt32)), (.ref a_FETCH)]))
        obtain ⟨cq21, kq21, q21a, q21b, q21c⟩ := isOf hZ eq14 E_FETCH
        obtain ⟨_, _, ⟨T21, L21, k21, n21⟩, -, X21, ⟨Lc21, hQ21, l21, y21, z21⟩, st21⟩ := X14.virtualBack hx (y := (⟨"com/example/tenure_of_partitions/tenureofpartitions/ApiKey", "serves", "(S)Z"⟩ : MethodName)) (z := (⟨"com/example/tenure_of_partitions/tenureofpartitions/ApiKey", "serves", "(S)Z"⟩ : MethodName)) hown (mvT hZ (wdx hw 14 rfl)) (mvT hZ (wdx hw 15 rfl)) (notFace_of_selects (args := #[]) (mvT hZ (wdx hw 17 rfl))) (mvT hZ (wdx hw 17 rfl)) (mvT hZ (wdx hw 16 rfl)) (by decide) (backOf (W := 0) (rm4 l Z a0 hw [] a_FETCH (vv.toInt16.toInt32) (4 : Int32) (11 : Int32) h0 n0 O0 F_FETCH_minVersion F_FETCH_maxVersion) hZ (wdx hw 18 rfl) (wdx hw 6 rfl) (by decide) (by decide)) q21a q21c (g := (mkF m 53 #[.val (.int kk), .val (.int vv), .val (.int (1 : Int32)), .val (.ref a_FETCH), .val (.int (vv.toInt16.toInt32)), .val (.int (4 : Int32)), .val (.int (11 : Int32)), .val (.int (1 : Int32))] [(.int (vv.toInt16.toInt32)), (.ref a_FETCH)])) rfl (by rw [hml]; rfl) (Steps.refl _) (argsL := [(.int (vv.toInt16.toInt32))]) (rest := []) (lenOf pd__S_Z rfl) rfl (by show 2 * 0 + _ ≤ _; exact Nat.le_of_eq rfl) (hb hby at_53) (fun _ _ => ⟨rfl, eq14, (by exact Nat.le_of_ble_eq_true rfl), (by exact Nat.le_of_ble_eq_true rfl)⟩)
        dsimp only [Pt.U, Pt.locs, Pt.cells, Pt.slots] at X21 l21 y21 z21 st21 hQ21
        subst l21 y21 z21
        obtain ⟨rfl, Nq21, eq21⟩ := hQ21
        have N21 := Fr.app N14 Nq21
        refine Go.tr st21 ?_
        show Go p e below s _ _ _ (T21.setTop (mkF m 56 #[.val (.int kk), .val (.int vv), .val (.int (1 : Int32)), .val (.ref a_FETCH), .val (.int (vv.toInt16.toInt32)), .val (.int (4 : Int32)), .val (.int (11 : Int32)), .val (.int (1 : Int32))] [(.int (if (vv.toInt16.toInt32) < (4 : Int32) then (0 : Int32) else if (11 : Int32) < (vv.toInt16.toInt32) then 0 else 1))]))
        refine Go.st (fun _ k' => XS.iload X21.here hx rfl (hb hby at_56) rfl k') ?_
        show Go p e below s _ _ _ (T21.setTop (mkF m 58 #[.val (.int kk), .val (.int vv), .val (.int (1 : Int32)), .val (.ref a_FETCH), .val (.int (vv.toInt16.toInt32)), .val (.int (4 : Int32)), .val (.int (11 : Int32)), .val (.int (1 : Int32))] [(.int (1 : Int32)), (.int (if (vv.toInt16.toInt32) < (4 : Int32) then (0 : Int32) else if (11 : Int32) < (vv.toInt16.toInt32) then 0 else 1))]))
        by_cases hc22 : (if (vv.toInt16.toInt32) < (4 : Int32) then (0 : Int32) else if (11 : Int32) < (vv.toInt16.toInt32) then 0 else 1) = (1 : Int32)
        · refine Go.st (fun _ k' => XS.icmpNo X21.here hx rfl (hb hby at_58) rfl (XT.ii_ne_f hc22) k') ?_
          show Go p e below s _ _ _ (T21.setTop (mkF m 61 #[.val (.int kk), .val (.int vv), .val (.int (1 : Int32)), .val (.ref a_FETCH), .val (.int (vv.toInt16.toInt32)), .val (.int (4 : Int32)), .val (.int (11 : Int32)), .val (.int (1 : Int32))] []))
          refine Go.st (fun _ k' => XS.iconst X21.here hx rfl (hb hby at_61) k') ?_
          show Go p e below s _ _ _ (T21.setTop (mkF m 62 #[.val (.int kk), .val (.int vv), .val (.int (1 : Int32)), .val (.ref a_FETCH), .val (.int (vv.toInt16.toInt32)), .val (.int (4 : Int32)), .val (.int (11 : Int32)), .val (.int (1 : Int32))] [(.int (1 : Int32))]))
          refine Go.st (fun _ k' => XS.goto X21.here hx rfl (pc0 := 62) (pc' := 66) rfl (hb hby at_62) (by decide) (by decide) k') ?_
          show Go p e below s _ _ _ (T21.setTop (mkF m 66 #[.val (.int kk), .val (.int vv), .val (.int (1 : Int32)), .val (.ref a_FETCH), .val (.int (vv.toInt16.toInt32)), .val (.int (4 : Int32)), .val (.int (11 : Int32)), .val (.int (1 : Int32))] [(.int (1 : Int32))]))
          refine Go.retB X21 hx hlk (t := .boolean) Bd.returns (by simp) (hb hby at_66) (by decide) (by decide) eq21 ?_
          exact ⟨rfl, N21, trivial⟩
        · refine Go.st (fun _ k' => XS.icmpYes X21.here hx rfl (pc0 := 58) (pc' := 65) rfl (hb hby at_58) rfl (XT.ii_ne_t hc22) (by decide) (by decide) k') ?_
          show Go p e below s _ _ _ (T21.setTop (mkF m 65 #[.val (.int kk), .val (.int vv), .val (.int (1 : Int32)), .val (.ref a_FETCH), .val (.int (vv.toInt16.toInt32)), .val (.int (4 : Int32)), .val (.int (11 : Int32)), .val (.int (1 : Int32))] []))
          refine Go.st (fun _ k' => XS.iconst X21.here hx rfl (hb hby at_65) k') ?_
          show Go p e below s _ _ _ (T21.setTop (mkF m 66 #[.val (.int kk), .val (.int vv), .val (.int (1 : Int32)), .val (.ref a_FETCH), .val (.int (vv.toInt16.toInt32)), .val (.int (4 : Int32)), .val (.int (11 : Int32)), .val (.int (1 : Int32))] [(.int (0 : Int32))]))
          refine Go.retB X21 hx hlk (t := .boolean) Bd.returns (by simp) (hb hby at_66) (by decide) (by decide) eq21 ?_
          exact absurd (by simp [hc15, hc18]) hc22
  · rw [hi]
    show Go p e below s _ _ _ (s₁.setTop (mkF m 8 #[.val (.int kk), .val (.int vv), .val (.int (2 : Int32)), .unset, .unset, .unset, .unset, .unset] []))
    refine Go.st (fun _ k' => XS.iloadN X0.here hx rfl (hb hby at_8) rfl k') ?_
    show Go p e below s _ _ _ (s₁.setTop (mkF m 9 #[.val (.int kk), .val (.int vv), .val (.int (2 : Int32)), .unset, .unset, .unset, .unset, .unset] [(.int (2 : Int32))]))
    obtain ⟨_, _, ⟨T23, L23, k23, n23⟩, -, X23, ⟨Lc23, hQ23, l23, y23, z23⟩, st23⟩ := Jvm.LawKit.callS X0 hx (y := (⟨"com/example/tenure_of_partitions/tenureofpartitions/ApiKeyServesPinLaw", "pick", "(I)Lcom/example/tenure_of_partitions/tenureofpartitions/ApiKey;"⟩ : MethodName)) hown (mvT hZ (wdx hw 1 rfl)) (mvT hZ (wdx hw 2 rfl)) (mvT hZ (wdx hw 3 rfl)) (mvT hZ (wdx hw 4 rfl)) (by decide) (backOf (W := 0) (rm1 l Z a0 hw [] (2 : Int32) a_PRODUCE a_FETCH a_LIST_OFFSETS a_METADATA a_OFFSET_COMMIT a_OFFSET_FETCH a_FIND_COORDINATOR a_JOIN_GROUP a_HEARTBEAT a_LEAVE_GROUP a_SYNC_GROUP a_DESCRIBE_GROUPS a_LIST_GROUPS a_API_VERSIONS h0 n0 O0 S_PRODUCE S_FETCH S_LIST_OFFSETS S_METADATA S_OFFSET_COMMIT S_OFFSET_FETCH S_FIND_COORDINATOR S_JOIN_GROUP S_HEARTBEAT S_LEAVE_GROUP S_SYNC_GROUP S_DESCRIBE_GROUPS S_LIST_GROUPS S_API_VERSIONS) hZ (wdx hw 4 rfl) (wdx hw 3 rfl) (by decide) (by decide)) (g := (mkF m 9 #[.val (.int kk), .val (.int vv), .val (.int (2 : Int32)), .unset, .unset, .unset, .unset, .unset] [(.int (2 : Int32))])) rfl (by rw [hml]; rfl) (argsL := [(.int (2 : Int32))]) (rest := []) (lenOf pd__I_Lcom_example_tenure_of_partitions_tenureofpartitions_ApiKey_ rfl) rfl (by show 2 * 0 + _ ≤ _; exact Nat.le_of_eq rfl) (hb hby at_9) (fun _ _ => ⟨rfl, e0, (by exact Nat.le_of_ble_eq_true rfl), (by exact Nat.le_of_ble_eq_true rfl)⟩)
    dsimp only [Pt.U, Pt.locs, Pt.cells, Pt.slots] at X23 l23 y23 z23 st23 hQ23
    subst l23 y23 z23
    obtain ⟨rfl, Nq23, eq23⟩ := hQ23
    have N23 := Fr.app N0 Nq23
    refine Go.st st23 ?_
    show Go p e below s _ _ _ (T23.setTop (mkF m 12 #[.val (.int kk), .val (.int vv), .val (.int (2 : Int32)), .unset, .unset, .unset, .unset, .unset] [(.ref (fpick (2 : Int32) a_PRODUCE a_FETCH a_LIST_OFFSETS a_METADATA a_OFFSET_COMMIT a_OFFSET_FETCH a_FIND_COORDINATOR a_JOIN_GROUP a_HEARTBEAT a_LEAVE_GROUP a_SYNC_GROUP a_DESCRIBE_GROUPS a_LIST_GROUPS a_API_VERSIONS))]))
    show Go p e below s _ _ _ (T23.setTop (mkF m 12 #[.val (.int kk), .val (.int vv), .val (.int (2 : Int32)), .unset, .unset, .unset, .unset, .unset] [(.ref a_LIST_OFFSETS)]))
    refine Go.st (fun _ k' => XS.astoreN X23.here hx rfl (hb hby at_12) rfl rfl (l' := #[.val (.int kk), .val (.int vv), .val (.int (2 : Int32)), .val (.ref a_LIST_OFFSETS), .unset, .unset, .unset, .unset]) rfl k') ?_
    show Go p e below s _ _ _ (T23.setTop (mkF m 13 #[.val (.int kk), .val (.int vv), .val (.int (2 : Int32)), .val (.ref a_LIST_OFFSETS), .unset, .unset, .unset, .unset] []))
    refine Go.st (fun _ k' => XS.iloadN X23.here hx rfl (hb hby at_13) rfl k') ?_
    show Go p e below s _ _ _ (T23.setTop (mkF m 14 #[.val (.int kk), .val (.int vv), .val (.int (2 : Int32)), .val (.ref a_LIST_OFFSETS), .unset, .unset, .unset, .unset] [(.int vv)]))
    refine Go.st (fun _ k' => XS.i2s X23.here hx rfl (hb hby at_14) rfl k') ?_
    show Go p e below s _ _ _ (T23.setTop (mkF m 15 #[.val (.int kk), .val (.int vv), .val (.int (2 : Int32)), .val (.ref a_LIST_OFFSETS), .unset, .unset, .unset, .unset] [(.int (vv.toInt16.toInt32))]))
    refine Go.st (fun _ k' => XS.istore X23.here hx rfl (hb hby at_15) rfl (l' := #[.val (.int kk), .val (.int vv), .val (.int (2 : Int32)), .val (.ref a_LIST_OFFSETS), .val (.int (vv.toInt16.toInt32)), .unset, .unset, .unset]) rfl k') ?_
    show Go p e below s _ _ _ (T23.setTop (mkF m 17 #[.val (.int kk), .val (.int vv), .val (.int (2 : Int32)), .val (.ref a_LIST_OFFSETS), .val (.int (vv.toInt16.toInt32)), .unset, .unset, .unset] []))
    refine Go.st (fun _ k' => XS.iloadN X23.here hx rfl (hb hby at_17) rfl k') ?_
    show Go p e below s _ _ _ (T23.setTop (mkF m 18 #[.val (.int kk), .val (.int vv), .val (.int (2 : Int32)), .val (.ref a_LIST_OFFSETS), .val (.int (vv.toInt16.toInt32)), .unset, .unset, .unset] [(.int (2 : Int32))]))
    obtain ⟨_, _, ⟨T24, L24, k24, n24⟩, -, X24, ⟨Lc24, hQ24, l24, y24, z24⟩, st24⟩ := Jvm.LawKit.callS X23 hx (y := (⟨"com/example/tenure_of_partitions/tenureofpartitions/ApiKeyServesPinLaw", "lo", "(I)I"⟩ : MethodName)) hown (mvT hZ (wdx hw 8 rfl)) (mvT hZ (wdx hw 9 rfl)) (mvT hZ (wdx hw 3 rfl)) (mvT hZ (wdx hw 10 rfl)) (by decide) (backOf (W := 0) (rm2 l Z a0 hw [] (2 : Int32) h0 n0 O0 ) hZ (wdx hw 10 rfl) (wdx hw 3 rfl) (by decide) (by decide)) (g := (mkF m 18 #[.val (.int kk), .val (.int vv), .val (.int (2 : Int32)), .val (.ref a_LIST_OFFSETS), .val (.int (vv.toInt16.toInt32)), .unset, .unset, .unset] [(.int (2 : Int32))])) rfl (by rw [hml]; rfl) (argsL := [(.int (2 : Int32))]) (rest := []) (lenOf pd__I_I rfl) rfl (by show 2 * 0 + _ ≤ _; exact Nat.le_of_eq rfl) (hb hby at_18) (fun _ _ => ⟨rfl, eq23, (by exact Nat.le_of_ble_eq_true rfl), (by exact Nat.le_of_ble_eq_true rfl)⟩)
    dsimp only [Pt.U, Pt.locs, Pt.cells, Pt.slots] at X24 l24 y24 z24 st24 hQ24
    subst l24 y24 z24
    obtain ⟨rfl, Nq24, eq24⟩ := hQ24
    have N24 := Fr.app N23 Nq24
    refine Go.st st24 ?_
    show Go p e below s _ _ _ (T24.setTop (mkF m 21 #[.val (.int kk), .val (.int vv), .val (.int (2 : Int32)), .val (.ref a_LIST_OFFSETS), .val (.int (vv.toInt16.toInt32)), .unset, .unset, .unset] [(.int (flo (2 : Int32)))]))
    show Go p e below s _ _ _ (T24.setTop (mkF m 21 #[.val (.int kk), .val (.int vv), .val (.int (2 : Int32)), .val (.ref a_LIST_OFFSETS), .val (.int (vv.toInt16.toInt32)), .unset, .unset, .unset] [(.int (1 : Int32))]))
    refine Go.st (fun _ k' => XS.istore X24.here hx rfl (hb hby at_21) rfl (l' := #[.val (.int kk), .val (.int vv), .val (.int (2 : Int32)), .val (.ref a_LIST_OFFSETS), .val (.int (vv.toInt16.toInt32)), .val (.int (1 : Int32)), .unset, .unset]) rfl k') ?_
    show Go p e below s _ _ _ (T24.setTop (mkF m 23 #[.val (.int kk), .val (.int vv), .val (.int (2 : Int32)), .val (.ref a_LIST_OFFSETS), .val (.int (vv.toInt16.toInt32)), .val (.int (1 : Int32)), .unset, .unset] []))
    refine Go.st (fun _ k' => XS.iloadN X24.here hx rfl (hb hby at_23) rfl k') ?_
    show Go p e below s _ _ _ (T24.setTop (mkF m 24 #[.val (.int kk), .val (.int vv), .val (.int (2 : Int32)), .val (.ref a_LIST_OFFSETS), .val (.int (vv.toInt16.toInt32)), .val (.int (1 : Int32)), .unset, .unset] [(.int (2 : Int32))]))
    obtain ⟨_, _, ⟨T25, L25, k25, n25⟩, -, X25, ⟨Lc25, hQ25, l25, y25, z25⟩, st25⟩ := Jvm.LawKit.callS X24 hx (y := (⟨"com/example/tenure_of_partitions/tenureofpartitions/ApiKeyServesPinLaw", "hi", "(I)I"⟩ : MethodName)) hown (mvT hZ (wdx hw 11 rfl)) (mvT hZ (wdx hw 12 rfl)) (mvT hZ (wdx hw 3 rfl)) (mvT hZ (wdx hw 13 rfl)) (by decide) (backOf (W := 0) (rm3 l Z a0 hw [] (2 : Int32) h0 n0 O0 ) hZ (wdx hw 13 rfl) (wdx hw 3 rfl) (by decide) (by decide)) (g := (mkF m 24 #[.val (.int kk), .val (.int vv), .val (.int (2 : Int32)), .val (.ref a_LIST_OFFSETS), .val (.int (vv.toInt16.toInt32)), .val (.int (1 : Int32)), .unset, .unset] [(.int (2 : Int32))])) rfl (by rw [hml]; rfl) (argsL := [(.int (2 : Int32))]) (rest := []) (lenOf pd__I_I rfl) rfl (by show 2 * 0 + _ ≤ _; exact Nat.le_of_eq rfl) (hb hby at_24) (fun _ _ => ⟨rfl, eq24, (by exact Nat.le_of_ble_eq_true rfl), (by exact Nat.le_of_ble_eq_true rfl)⟩)
    dsimp only [Pt.U, Pt.locs, Pt.cells, Pt.slots] at X25 l25 y25 z25 st25 hQ25
    subst l25 y25 z25
    obtain ⟨rfl, Nq25, eq25⟩ := hQ25
    have N25 := Fr.app N24 Nq25
    refine Go.st st25 ?_
    show Go p e below s _ _ _ (T25.setTop (mkF m 27 #[.val (.int kk), .val (.int vv), .val (.int (2 : Int32)), .val (.ref a_LIST_OFFSETS), .val (.int (vv.toInt16.toInt32)), .val (.int (1 : Int32)), .unset, .unset] [(.int (fhi (2 : Int32)))]))
    show Go p e below s _ _ _ (T25.setTop (mkF m 27 #[.val (.int kk), .val (.int vv), .val (.int (2 : Int32)), .val (.ref a_LIST_OFFSETS), .val (.int (vv.toInt16.toInt32)), .val (.int (1 : Int32)), .unset, .unset] [(.int (2 : Int32))]))
    refine Go.st (fun _ k' => XS.istore X25.here hx rfl (hb hby at_27) rfl (l' := #[.val (.int kk), .val (.int vv), .val (.int (2 : Int32)), .val (.ref a_LIST_OFFSETS), .val (.int (vv.toInt16.toInt32)), .val (.int (1 : Int32)), .val (.int (2 : Int32)), .unset]) rfl k') ?_
    show Go p e below s _ _ _ (T25.setTop (mkF m 29 #[.val (.int kk), .val (.int vv), .val (.int (2 : Int32)), .val (.ref a_LIST_OFFSETS), .val (.int (vv.toInt16.toInt32)), .val (.int (1 : Int32)), .val (.int (2 : Int32)), .unset] []))
    refine Go.st (fun _ k' => XS.iload X25.here hx rfl (hb hby at_29) rfl k') ?_
    show Go p e below s _ _ _ (T25.setTop (mkF m 31 #[.val (.int kk), .val (.int vv), .val (.int (2 : Int32)), .val (.ref a_LIST_OFFSETS), .val (.int (vv.toInt16.toInt32)), .val (.int (1 : Int32)), .val (.int (2 : Int32)), .unset] [(.int (vv.toInt16.toInt32))]))
    refine Go.st (fun _ k' => XS.iload X25.here hx rfl (hb hby at_31) rfl k') ?_
    show Go p e below s _ _ _ (T25.setTop (mkF m 33 #[.val (.int kk), .val (.int vv), .val (.int (2 : Int32)), .val (.ref a_LIST_OFFSETS), .val (.int (vv.toInt16.toInt32)), .val (.int (1 : Int32)), .val (.int (2 : Int32)), .unset] [(.int (1 : Int32)), (.int (vv.toInt16.toInt32))]))
    by_cases hc26 : (vv.toInt16.toInt32) < (1 : Int32)
    · refine Go.st (fun _ k' => XS.icmpYes X25.here hx rfl (pc0 := 33) (pc' := 47) rfl (hb hby at_33) rfl (XT.ii_lt_t hc26) (by decide) (by decide) k') ?_
      show Go p e below s _ _ _ (T25.setTop (mkF m 47 #[.val (.int kk), .val (.int vv), .val (.int (2 : Int32)), .val (.ref a_LIST_OFFSETS), .val (.int (vv.toInt16.toInt32)), .val (.int (1 : Int32)), .val (.int (2 : Int32)), .unset] []))
      refine Go.st (fun _ k' => XS.iconst X25.here hx rfl (hb hby at_47) k') ?_
      show Go p e below s _ _ _ (T25.setTop (mkF m 48 #[.val (.int kk), .val (.int vv), .val (.int (2 : Int32)), .val (.ref a_LIST_OFFSETS), .val (.int (vv.toInt16.toInt32)), .val (.int (1 : Int32)), .val (.int (2 : Int32)), .unset] [(.int (0 : Int32))]))
      refine Go.st (fun _ k' => XS.istore X25.here hx rfl (hb hby at_48) rfl (l' := #[.val (.int kk), .val (.int vv), .val (.int (2 : Int32)), .val (.ref a_LIST_OFFSETS), .val (.int (vv.toInt16.toInt32)), .val (.int (1 : Int32)), .val (.int (2 : Int32)), .val (.int (0 : Int32))]) rfl k') ?_
      show Go p e below s _ _ _ (T25.setTop (mkF m 50 #[.val (.int kk), .val (.int vv), .val (.int (2 : Int32)), .val (.ref a_LIST_OFFSETS), .val (.int (vv.toInt16.toInt32)), .val (.int (1 : Int32)), .val (.int (2 : Int32)), .val (.int (0 : Int32))] []))
      refine Go.st (fun _ k' => XS.aloadN X25.here hx rfl (hb hby at_50) rfl rfl k') ?_
      show Go p e below s _ _ _ (T25.setTop (mkF m 51 #[.val (.int kk), .val (.int vv), .val (.int (2 : Int32)), .val (.ref a_LIST_OFFSETS), .val (.int (vv.toInt16.toInt32)), .val (.int (1 : Int32)), .val (.int (2 : Int32)), .val (.int (0 : Int32))] [(.ref a_LIST_OFFSETS)]))
      refine Go.st (fun _ k' => XS.iload X25.here hx rfl (hb hby at_51) rfl k') ?_
      show Go p e below s _ _ _ (T25.setTop (mkF m 53 #[.val (.int kk), .val (.int vv), .val (.int (2 : Int32)), .val (.ref a_LIST_OFFSETS), .val (.int (vv.toInt16.toInt32)), .val (.int (1 : Int32)), .val (.int (2 : Int32)), .val (.int (0 : Int32))] [(.int (vv.toInt16.toInt32)), (.ref a_LIST_OFFSETS)]))
      obtain ⟨cq27, kq27, q27a, q27b, q27c⟩ := isOf hZ eq25 E_LIST_OFFSETS
      obtain ⟨_, _, ⟨T27, L27, k27, n27⟩, -, X27, ⟨Lc27, hQ27, l27, y27, z27⟩, st27⟩ := X25.virtualBack hx (y := (⟨"com/example/tenure_of_partitions/tenureofpartitions/ApiKey", "serves", "(S)Z"⟩ : MethodName)) (z := (⟨"com/example/tenure_of_partitions/tenureofpartitions/ApiKey", "serves", "(S)Z"⟩ : MethodName)) hown (mvT hZ (wdx hw 14 rfl)) (mvT hZ (wdx hw 15 rfl)) (notFace_of_selects (args := #[]) (mvT hZ (wdx hw 17 rfl))) (mvT hZ (wdx hw 17 rfl)) (mvT hZ (wdx hw 16 rfl)) (by decide) (backOf (W := 0) (rm4 l Z a0 hw [] a_LIST_OFFSETS (vv.toInt16.toInt32) (1 : Int32) (2 : Int32) h0 n0 O0 F_LIST_OFFSETS_minVersion F_LIST_OFFSETS_maxVersion) hZ (wdx hw 18 rfl) (wdx hw 6 rfl) (by decide) (by decide)) q27a q27c (g := (mkF m 53 #[.val (.int kk), .val (.int vv), .val (.int (2 : Int32)), .val (.ref a_LIST_OFFSETS), .val (.int (vv.toInt16.toInt32)), .val (.int (1 : Int32)), .val (.int (2 : Int32)), .val (.int (0 : Int32))] [(.int (vv.toInt16.toInt32)), (.ref a_LIST_OFFSETS)])) rfl (by rw [hml]; rfl) (Steps.refl _) (argsL := [(.int (vv.toInt16.toInt32))]) (rest := []) (lenOf pd__S_Z rfl) rfl (by show 2 * 0 + _ ≤ _; exact Nat.le_of_eq rfl) (hb hby at_53) (fun _ _ => ⟨rfl, eq25, (by exact Nat.le_of_ble_eq_true rfl), (by exact Nat.le_of_ble_eq_true rfl)⟩)
      dsimp only [Pt.U, Pt.locs, Pt.cells, Pt.slots] at X27 l27 y27 z27 st27 hQ27
      subst l27 y27 z27
      obtain ⟨rfl, Nq27, eq27⟩ := hQ27
      have N27 := Fr.app N25 Nq27
      refine Go.tr st27 ?_
      show Go p e below s _ _ _ (T27.setTop (mkF m 56 #[.val (.int kk), .val (.int vv), .val (.int (2 : Int32)), .val (.ref a_LIST_OFFSETS), .val (.int (vv.toInt16.toInt32)), .val (.int (1 : Int32)), .val (.int (2 : Int32)), .val (.int (0 : Int32))] [(.int (if (vv.toInt16.toInt32) < (1 : Int32) then (0 : Int32) else if (2 : Int32) < (vv.toInt16.toInt32) then 0 else 1))]))
      refine Go.st (fun _ k' => XS.iload X27.here hx rfl (hb hby at_56) rfl k') ?_
      show Go p e below s _ _ _ (T27.setTop (mkF m 58 #[.val (.int kk), .val (.int vv), .val (.int (2 : Int32)), .val (.ref a_LIST_OFFSETS), .val (.int (vv.toInt16.toInt32)), .val (.int (1 : Int32)), .val (.int (2 : Int32)), .val (.int (0 : Int32))] [(.int (0 : Int32)), (.int (if (vv.toInt16.toInt32) < (1 : Int32) then (0 : Int32) else if (2 : Int32) < (vv.toInt16.toInt32) then 0 else 1))]))
      by_cases hc28 : (if (vv.toInt16.toInt32) < (1 : Int32) then (0 : Int32) else if (2 : Int32) < (vv.toInt16.toInt32) then 0 else 1) = (0 : Int32)
      · refine Go.st (fun _ k' => XS.icmpNo X27.here hx rfl (hb hby at_58) rfl (XT.ii_ne_f hc28) k') ?_
        show Go p e below s _ _ _ (T27.setTop (mkF m 61 #[.val (.int kk), .val (.int vv), .val (.int (2 : Int32)), .val (.ref a_LIST_OFFSETS), .val (.int (vv.toInt16.toInt32)), .val (.int (1 : Int32)), .val (.int (2 : Int32)), .val (.int (0 : Int32))] []))
        refine Go.st (fun _ k' => XS.iconst X27.here hx rfl (hb hby at_61) k') ?_
        show Go p e below s _ _ _ (T27.setTop (mkF m 62 #[.val (.int kk), .val (.int vv), .val (.int (2 : Int32)), .val (.ref a_LIST_OFFSETS), .val (.int (vv.toInt16.toInt32)), .val (.int (1 : Int32)), .val (.int (2 : Int32)), .val (.int (0 : Int32))] [(.int (1 : Int32))]))
        refine Go.st (fun _ k' => XS.goto X27.here hx rfl (pc0 := 62) (pc' := 66) rfl (hb hby at_62) (by decide) (by decide) k') ?_
        show Go p e below s _ _ _ (T27.setTop (mkF m 66 #[.val (.int kk), .val (.int vv), .val (.int (2 : Int32)), .val (.ref a_LIST_OFFSETS), .val (.int (vv.toInt16.toInt32)), .val (.int (1 : Int32)), .val (.int (2 : Int32)), .val (.int (0 : Int32))] [(.int (1 : Int32))]))
        refine Go.retB X27 hx hlk (t := .boolean) Bd.returns (by simp) (hb hby at_66) (by decide) (by decide) eq27 ?_
        exact ⟨rfl, N27, trivial⟩
      · refine Go.st (fun _ k' => XS.icmpYes X27.here hx rfl (pc0 := 58) (pc' := 65) rfl (hb hby at_58) rfl (XT.ii_ne_t hc28) (by decide) (by decide) k') ?_
        show Go p e below s _ _ _ (T27.setTop (mkF m 65 #[.val (.int kk), .val (.int vv), .val (.int (2 : Int32)), .val (.ref a_LIST_OFFSETS), .val (.int (vv.toInt16.toInt32)), .val (.int (1 : Int32)), .val (.int (2 : Int32)), .val (.int (0 : Int32))] []))
        refine Go.st (fun _ k' => XS.iconst X27.here hx rfl (hb hby at_65) k') ?_
        show Go p e below s _ _ _ (T27.setTop (mkF m 66 #[.val (.int kk), .val (.int vv), .val (.int (2 : Int32)), .val (.ref a_LIST_OFFSETS), .val (.int (vv.toInt16.toInt32)), .val (.int (1 : Int32)), .val (.int (2 : Int32)), .val (.int (0 : Int32))] [(.int (0 : Int32))]))
        refine Go.retB X27 hx hlk (t := .boolean) Bd.returns (by simp) (hb hby at_66) (by decide) (by decide) eq27 ?_
        exact absurd (by simp [hc26]) hc28
    · refine Go.st (fun _ k' => XS.icmpNo X25.here hx rfl (hb hby at_33) rfl (XT.ii_lt_f hc26) k') ?_
      show Go p e below s _ _ _ (T25.setTop (mkF m 36 #[.val (.int kk), .val (.int vv), .val (.int (2 : Int32)), .val (.ref a_LIST_OFFSETS), .val (.int (vv.toInt16.toInt32)), .val (.int (1 : Int32)), .val (.int (2 : Int32)), .unset] []))
      refine Go.st (fun _ k' => XS.iload X25.here hx rfl (hb hby at_36) rfl k') ?_
      show Go p e below s _ _ _ (T25.setTop (mkF m 38 #[.val (.int kk), .val (.int vv), .val (.int (2 : Int32)), .val (.ref a_LIST_OFFSETS), .val (.int (vv.toInt16.toInt32)), .val (.int (1 : Int32)), .val (.int (2 : Int32)), .unset] [(.int (vv.toInt16.toInt32))]))
      refine Go.st (fun _ k' => XS.iload X25.here hx rfl (hb hby at_38) rfl k') ?_
      show Go p e below s _ _ _ (T25.setTop (mkF m 40 #[.val (.int kk), .val (.int vv), .val (.int (2 : Int32)), .val (.ref a_LIST_OFFSETS), .val (.int (vv.toInt16.toInt32)), .val (.int (1 : Int32)), .val (.int (2 : Int32)), .unset] [(.int (2 : Int32)), (.int (vv.toInt16.toInt32))]))
      by_cases hc29 : (2 : Int32) < (vv.toInt16.toInt32)
      · refine Go.st (fun _ k' => XS.icmpYes X25.here hx rfl (pc0 := 40) (pc' := 47) rfl (hb hby at_40) rfl (XT.ii_gt_t hc29) (by decide) (by decide) k') ?_
        show Go p e below s _ _ _ (T25.setTop (mkF m 47 #[.val (.int kk), .val (.int vv), .val (.int (2 : Int32)), .val (.ref a_LIST_OFFSETS), .val (.int (vv.toInt16.toInt32)), .val (.int (1 : Int32)), .val (.int (2 : Int32)), .unset] []))
        refine Go.st (fun _ k' => XS.iconst X25.here hx rfl (hb hby at_47) k') ?_
        show Go p e below s _ _ _ (T25.setTop (mkF m 48 #[.val (.int kk), .val (.int vv), .val (.int (2 : Int32)), .val (.ref a_LIST_OFFSETS), .val (.int (vv.toInt16.toInt32)), .val (.int (1 : Int32)), .val (.int (2 : Int32)), .unset] [(.int (0 : Int32))]))
        refine Go.st (fun _ k' => XS.istore X25.here hx rfl (hb hby at_48) rfl (l' := #[.val (.int kk), .val (.int vv), .val (.int (2 : Int32)), .val (.ref a_LIST_OFFSETS), .val (.int (vv.toInt16.toInt32)), .val (.int (1 : Int32)), .val (.int (2 : Int32)), .val (.int (0 : Int32))]) rfl k') ?_
        show Go p e below s _ _ _ (T25.setTop (mkF m 50 #[.val (.int kk), .val (.int vv), .val (.int (2 : Int32)), .val (.ref a_LIST_OFFSETS), .val (.int (vv.toInt16.toInt32)), .val (.int (1 : Int32)), .val (.int (2 : Int32)), .val (.int (0 : Int32))] []))
        refine Go.st (fun _ k' => XS.aloadN X25.here hx rfl (hb hby at_50) rfl rfl k') ?_
        show Go p e below s _ _ _ (T25.setTop (mkF m 51 #[.val (.int kk), .val (.int vv), .val (.int (2 : Int32)), .val (.ref a_LIST_OFFSETS), .val (.int (vv.toInt16.toInt32)), .val (.int (1 : Int32)), .val (.int (2 : Int32)), .val (.int (0 : Int32))] [(.ref a_LIST_OFFSETS)]))
        refine Go.st (fun _ k' => XS.iload X25.here hx rfl (hb hby at_51) rfl k') ?_
        show Go p e below s _ _ _ (T25.setTop (mkF m 53 #[.val (.int kk), .val (.int vv), .val (.int (2 : Int32)), .val (.ref a_LIST_OFFSETS), .val (.int (vv.toInt16.toInt32)), .val (.int (1 : Int32)), .val (.int (2 : Int32)), .val (.int (0 : Int32))] [(.int (vv.toInt16.toInt32)), (.ref a_LIST_OFFSETS)]))
        obtain ⟨cq30, kq30, q30a, q30b, q30c⟩ := isOf hZ eq25 E_LIST_OFFSETS
        obtain ⟨_, _, ⟨T30, L30, k30, n30⟩, -, X30, ⟨Lc30, hQ30, l30, y30, z30⟩, st30⟩ := X25.virtualBack hx (y := (⟨"com/example/tenure_of_partitions/tenureofpartitions/ApiKey", "serves", "(S)Z"⟩ : MethodName)) (z := (⟨"com/example/tenure_of_partitions/tenureofpartitions/ApiKey", "serves", "(S)Z"⟩ : MethodName)) hown (mvT hZ (wdx hw 14 rfl)) (mvT hZ (wdx hw 15 rfl)) (notFace_of_selects (args := #[]) (mvT hZ (wdx hw 17 rfl))) (mvT hZ (wdx hw 17 rfl)) (mvT hZ (wdx hw 16 rfl)) (by decide) (backOf (W := 0) (rm4 l Z a0 hw [] a_LIST_OFFSETS (vv.toInt16.toInt32) (1 : Int32) (2 : Int32) h0 n0 O0 F_LIST_OFFSETS_minVersion F_LIST_OFFSETS_maxVersion) hZ (wdx hw 18 rfl) (wdx hw 6 rfl) (by decide) (by decide)) q30a q30c (g := (mkF m 53 #[.val (.int kk), .val (.int vv), .val (.int (2 : Int32)), .val (.ref a_LIST_OFFSETS), .val (.int (vv.toInt16.toInt32)), .val (.int (1 : Int32)), .val (.int (2 : Int32)), .val (.int (0 : Int32))] [(.int (vv.toInt16.toInt32)), (.ref a_LIST_OFFSETS)])) rfl (by rw [hml]; rfl) (Steps.refl _) (argsL := [(.int (vv.toInt16.toInt32))]) (rest := []) (lenOf pd__S_Z rfl) rfl (by show 2 * 0 + _ ≤ _; exact Nat.le_of_eq rfl) (hb hby at_53) (fun _ _ => ⟨rfl, eq25, (by exact Nat.le_of_ble_eq_true rfl), (by exact Nat.le_of_ble_eq_true rfl)⟩)
        dsimp only [Pt.U, Pt.locs, Pt.cells, Pt.slots] at X30 l30 y30 z30 st30 hQ30
        subst l30 y30 z30
        obtain ⟨rfl, Nq30, eq30⟩ := hQ30
        have N30 := Fr.app N25 Nq30
        refine Go.tr st30 ?_
        show Go p e below s _ _ _ (T30.setTop (mkF m 56 #[.val (.int kk), .val (.int vv), .val (.int (2 : Int32)), .val (.ref a_LIST_OFFSETS), .val (.int (vv.toInt16.toInt32)), .val (.int (1 : Int32)), .val (.int (2 : Int32)), .val (.int (0 : Int32))] [(.int (if (vv.toInt16.toInt32) < (1 : Int32) then (0 : Int32) else if (2 : Int32) < (vv.toInt16.toInt32) then 0 else 1))]))
        refine Go.st (fun _ k' => XS.iload X30.here hx rfl (hb hby at_56) rfl k') ?_
        show Go p e below s _ _ _ (T30.setTop (mkF m 58 #[.val (.int kk), .val (.int vv), .val (.int (2 : Int32)), .val (.ref a_LIST_OFFSETS), .val (.int (vv.toInt16.toInt32)), .val (.int (1 : Int32)), .val (.int (2 : Int32)), .val (.int (0 : Int32))] [(.int (0 : Int32)), (.int (if (vv.toInt16.toInt32) < (1 : Int32) then (0 : Int32) else if (2 : Int32) < (vv.toInt16.toInt32) then 0 else 1))]))
        by_cases hc31 : (if (vv.toInt16.toInt32) < (1 : Int32) then (0 : Int32) else if (2 : Int32) < (vv.toInt16.toInt32) then 0 else 1) = (0 : Int32)
        · refine Go.st (fun _ k' => XS.icmpNo X30.here hx rfl (hb hby at_58) rfl (XT.ii_ne_f hc31) k') ?_
          show Go p e below s _ _ _ (T30.setTop (mkF m 61 #[.val (.int kk), .val (.int vv), .val (.int (2 : Int32)), .val (.ref a_LIST_OFFSETS), .val (.int (vv.toInt16.toInt32)), .val (.int (1 : Int32)), .val (.int (2 : Int32)), .val (.int (0 : Int32))] []))
          refine Go.st (fun _ k' => XS.iconst X30.here hx rfl (hb hby at_61) k') ?_
          show Go p e below s _ _ _ (T30.setTop (mkF m 62 #[.val (.int kk), .val (.int vv), .val (.int (2 : Int32)), .val (.ref a_LIST_OFFSETS), .val (.int (vv.toInt16.toInt32)), .val (.int (1 : Int32)), .val (.int (2 : Int32)), .val (.int (0 : Int32))] [(.int (1 : Int32))]))
          refine Go.st (fun _ k' => XS.goto X30.here hx rfl (pc0 := 62) (pc' := 66) rfl (hb hby at_62) (by decide) (by decide) k') ?_
          show Go p e below s _ _ _ (T30.setTop (mkF m 66 #[.val (.int kk), .val (.int vv), .val (.int (2 : Int32)), .val (.ref a_LIST_OFFSETS), .val (.int (vv.toInt16.toInt32)), .val (.int (1 : Int32)), .val (.int (2 : Int32)), .val (.int (0 : Int32))] [(.int (1 : Int32))]))
          refine Go.retB X30 hx hlk (t := .boolean) Bd.returns (by simp) (hb hby at_66) (by decide) (by decide) eq30 ?_
          exact ⟨rfl, N30, trivial⟩
        · refine Go.st (fun _ k' => XS.icmpYes X30.here hx rfl (pc0 := 58) (pc' := 65) rfl (hb hby at_58) rfl (XT.ii_ne_t hc31) (by decide) (by decide) k') ?_
          show Go p e below s _ _ _ (T30.setTop (mkF m 65 #[.val (.int kk), .val (.int vv), .val (.int (2 : Int32)), .val (.ref a_LIST_OFFSETS), .val (.int (vv.toInt16.toInt32)), .val (.int (1 : Int32)), .val (.int (2 : Int32)), .val (.int (0 : Int32))] []))
          refine Go.st (fun _ k' => XS.iconst X30.here hx rfl (hb hby at_65) k') ?_
          show Go p e below s _ _ _ (T30.setTop (mkF m 66 #[.val (.int kk), .val (.int vv), .val (.int (2 : Int32)), .val (.ref a_LIST_OFFSETS), .val (.int (vv.toInt16.toInt32)), .val (.int (1 : Int32)), .val (.int (2 : Int32)), .val (.int (0 : Int32))] [(.int (0 : Int32))]))
          refine Go.retB X30 hx hlk (t := .boolean) Bd.returns (by simp) (hb hby at_66) (by decide) (by decide) eq30 ?_
          exact absurd (by simp [hc26, hc29]) hc31
      · refine Go.st (fun _ k' => XS.icmpNo X25.here hx rfl (hb hby at_40) rfl (XT.ii_gt_f hc29) k') ?_
        show Go p e below s _ _ _ (T25.setTop (mkF m 43 #[.val (.int kk), .val (.int vv), .val (.int (2 : Int32)), .val (.ref a_LIST_OFFSETS), .val (.int (vv.toInt16.toInt32)), .val (.int (1 : Int32)), .val (.int (2 : Int32)), .unset] []))
        refine Go.st (fun _ k' => XS.iconst X25.here hx rfl (hb hby at_43) k') ?_
        show Go p e below s _ _ _ (T25.setTop (mkF m 44 #[.val (.int kk), .val (.int vv), .val (.int (2 : Int32)), .val (.ref a_LIST_OFFSETS), .val (.int (vv.toInt16.toInt32)), .val (.int (1 : Int32)), .val (.int (2 : Int32)), .unset] [(.int (1 : Int32))]))
        refine Go.st (fun _ k' => XS.goto X25.here hx rfl (pc0 := 44) (pc' := 48) rfl (hb hby at_44) (by decide) (by decide) k') ?_
        show Go p e below s _ _ _ (T25.setTop (mkF m 48 #[.val (.int kk), .val (.int vv), .val (.int (2 : Int32)), .val (.ref a_LIST_OFFSETS), .val (.int (vv.toInt16.toInt32)), .val (.int (1 : Int32)), .val (.int (2 : Int32)), .unset] [(.int (1 : Int32))]))
        refine Go.st (fun _ k' => XS.istore X25.here hx rfl (hb hby at_48) rfl (l' := #[.val (.int kk), .val (.int vv), .val (.int (2 : Int32)), .val (.ref a_LIST_OFFSETS), .val (.int (vv.toInt16.toInt32)), .val (.int (1 : Int32)), .val (.int (2 : Int32)), .val (.int (1 : Int32))]) rfl k') ?_
        show Go p e below s _ _ _ (T25.setTop (mkF m 50 #[.val (.int kk), .val (.int vv), .val (.int (2 : Int32)), .val (.ref a_LIST_OFFSETS), .val (.int (vv.toInt16.toInt32)), .val (.int (1 : Int32)), .val (.int (2 : Int32)), .val (.int (1 : Int32))] []))
        refine Go.st (fun _ k' => XS.aloadN X25.here hx rfl (hb hby at_50) rfl rfl k') ?_
        show Go p e below s _ _ _ (T25.setTop (mkF m 51 #[.val (.int kk), .val (.int vv), .val (.int (2 : Int32)), .val (.ref a_LIST_OFFSETS), .val (.int (vv.toInt16.toInt32)), .val (.int (1 : Int32)), .val (.int (2 : Int32)), .val (.int (1 : Int32))] [(.ref a_LIST_OFFSETS)]))
        refine Go.st (fun _ k' => XS.iload X25.here hx rfl (hb hby at_51) rfl k') ?_
        show Go p e below s _ _ _ (T25.setTop (mkF m 53 #[.val (.int kk), .val (.int vv), .val (.int (2 : Int32)), .val (.ref a_LIST_OFFSETS), .val (.int (vv.toInt16.toInt32)), .val (.int (1 : Int32)), .val (.int (2 : Int32)), .val (.int (1 : Int32))] [(.int (vv.toInt16.toInt32)), (.ref a_LIST_OFFSETS)]))
        obtain ⟨cq32, kq32, q32a, q32b, q32c⟩ := isOf hZ eq25 E_LIST_OFFSETS
        obtain ⟨_, _, ⟨T32, L32, k32, n32⟩, -, X32, ⟨Lc32, hQ32, l32, y32, z32⟩, st32⟩ := X25.virtualBack hx (y := (⟨"com/example/tenure_of_partitions/tenureofpartitions/ApiKey", "serves", "(S)Z"⟩ : MethodName)) (z := (⟨"com/example/tenure_of_partitions/tenureofpartitions/ApiKey", "serves", "(S)Z"⟩ : MethodName)) hown (mvT hZ (wdx hw 14 rfl)) (mvT hZ (wdx hw 15 rfl)) (notFace_of_selects (args := #[]) (mvT hZ (wdx hw 17 rfl))) (mvT hZ (wdx hw 17 rfl)) (mvT hZ (wdx hw 16 rfl)) (by decide) (backOf (W := 0) (rm4 l Z a0 hw [] a_LIST_OFFSETS (vv.toInt16.toInt32) (1 : Int32) (2 : Int32) h0 n0 O0 F_LIST_OFFSETS_minVersion F_LIST_OFFSETS_maxVersion) hZ (wdx hw 18 rfl) (wdx hw 6 rfl) (by decide) (by decide)) q32a q32c (g := (mkF m 53 #[.val (.int kk), .val (.int vv), .val (.int (2 : Int32)), .val (.ref a_LIST_OFFSETS), .val (.int (vv.toInt16.toInt32)), .val (.int (1 : Int32)), .val (.int (2 : Int32)), .val (.int (1 : Int32))] [(.int (vv.toInt16.toInt32)), (.ref a_LIST_OFFSETS)])) rfl (by rw [hml]; rfl) (Steps.refl _) (argsL := [(.int (vv.toInt16.toInt32))]) (rest := []) (lenOf pd__S_Z rfl) rfl (by show 2 * 0 + _ ≤ _; exact Nat.le_of_eq rfl) (hb hby at_53) (fun _ _ => ⟨rfl, eq25, (by exact Nat.le_of_ble_eq_true rfl), (by exact Nat.le_of_ble_eq_true rfl)⟩)
        dsimp only [Pt.U, Pt.locs, Pt.cells, Pt.slots] at X32 l32 y32 z32 st32 hQ32
        subst l32 y32 z32
        obtain ⟨rfl, Nq32, eq32⟩ := hQ32
        have N32 := Fr.app N25 Nq32
        refine Go.tr st32 ?_
        show Go p e below s _ _ _ (T32.setTop (mkF m 56 #[.val (.int kk), .val (.int vv), .val (.int (2 : Int32)), .val (.ref a_LIST_OFFSETS), .val (.int (vv.toInt16.toInt32)), .val (.int (1 : Int32)), .val (.int (2 : Int32)), .val (.int (1 : Int32))] [(.int (if (vv.toInt16.toInt32) < (1 : Int32) then (0 : Int32) else if (2 : Int32) < (vv.toInt16.toInt32) then 0 else 1))]))
        refine Go.st (fun _ k' => XS.iload X32.here hx rfl (hb hby at_56) rfl k') ?_
        show Go p e below s _ _ _ (T32.setTop (mkF m 58 #[.val (.int kk), .val (.int vv), .val (.int (2 : Int32)), .val (.ref a_LIST_OFFSETS), .val (.int (vv.toInt16.toInt32)), .val (.int (1 : Int32)), .val (.int (2 : Int32)), .val (.int (1 : Int32))] [(.int (1 : Int32)), (.int (if (vv.toInt16.toInt32) < (1 : Int32) then (0 : Int32) else if (2 : Int32) < (vv.toInt16.toInt32) then 0 else 1))]))
        by_cases hc33 : (if (vv.toInt16.toInt32) < (1 : Int32) then (0 : Int32) else if (2 : Int32) < (vv.toInt16.toInt32) then 0 else 1) = (1 : Int32)
        · refine Go.st (fun _ k' => XS.icmpNo X32.here hx rfl (hb hby at_58) rfl (XT.ii_ne_f hc33) k') ?_
          show Go p e below s _ _ _ (T32.setTop (mkF m 61 #[.val (.int kk), .val (.int vv), .val (.int (2 : Int32)), .val (.ref a_LIST_OFFSETS), .val (.int (vv.toInt16.toInt32)), .val (.int (1 : Int32)), .val (.int (2 : Int32)), .val (.int (1 : Int32))] []))
          refine Go.st (fun _ k' => XS.iconst X32.here hx rfl (hb hby at_61) k') ?_
          show Go p e below s _ _ _ (T32.setTop (mkF m 62 #[.val (.int kk), .val (.int vv), .val (.int (2 : Int32)), .val (.ref a_LIST_OFFSETS), .val (.int (vv.toInt16.toInt32)), .val (.int (1 : Int32)), .val (.int (2 : Int32)), .val (.int (1 : Int32))] [(.int (1 : Int32))]))
          refine Go.st (fun _ k' => XS.goto X32.here hx rfl (pc0 := 62) (pc' := 66) rfl (hb hby at_62) (by decide) (by decide) k') ?_
          show Go p e below s _ _ _ (T32.setTop (mkF m 66 #[.val (.int kk), .val (.int vv), .val (.int (2 : Int32)), .val (.ref a_LIST_OFFSETS), .val (.int (vv.toInt16.toInt32)), .val (.int (1 : Int32)), .val (.int (2 : Int32)), .val (.int (1 : Int32))] [(.int (1 : Int32))]))
          refine Go.retB X32 hx hlk (t := .boolean) Bd.returns (by simp) (hb hby at_66) (by decide) (by decide) eq32 ?_
          exact ⟨rfl, N32, trivial⟩
        · refine Go.st (fun _ k' => XS.icmpYes X32.here hx rfl (pc0 := 58) (pc' := 65) rfl (hb hby at_58) rfl (XT.ii_ne_t hc33) (by decide) (by decide) k') ?_
          show Go p e below s _ _ _ (T32.setTop (mkF m 65 #[.val (.int kk), .val (.int vv), .val (.int (2 : Int32)), .val (.ref a_LIST_OFFSETS), .val (.int (vv.toInt16.toInt32)), .val (.int (1 : Int32)), .val (.int (2 : Int32)), .val (.int (1 : Int32))] []))
          refine Go.st (fun _ k' => XS.iconst X32.here hx rfl (hb hby at_65) k') ?_
          show Go p e below s _ _ _ (T32.setTop (mkF m 66 #[.val (.int kk), .val (.int vv), .val (.int (2 : Int32)), .val (.ref a_LIST_OFFSETS), .val (.int (vv.toInt16.toInt32)), .val (.int (1 : Int32)), .val (.int (2 : Int32)), .val (.int (1 : Int32))] [(.int (0 : Int32))]))
          refine Go.retB X32 hx hlk (t := .boolean) Bd.returns (by simp) (hb hby at_66) (by decide) (by decide) eq32 ?_
          exact absurd (by simp [hc26, hc29]) hc33
  · rw [hi]
    show Go p e below s _ _ _ (s₁.setTop (mkF m 8 #[.val (.int kk), .val (.int vv), .val (.int (3 : Int32)), .unset, .unset, .unset, .unset, .unset] []))
    refine Go.st (fun _ k' => XS.iloadN X0.here hx rfl (hb hby at_8) rfl k') ?_
    show Go p e below s _ _ _ (s₁.setTop (mkF m 9 #[.val (.int kk), .val (.int vv), .val (.int (3 : Int32)), .unset, .unset, .unset, .unset, .unset] [(.int (3 : Int32))]))
    obtain ⟨_, _, ⟨T34, L34, k34, n34⟩, -, X34, ⟨Lc34, hQ34, l34, y34, z34⟩, st34⟩ := Jvm.LawKit.callS X0 hx (y := (⟨"com/example/tenure_of_partitions/tenureofpartitions/ApiKeyServesPinLaw", "pick", "(I)Lcom/example/tenure_of_partitions/tenureofpartitions/ApiKey;"⟩ : MethodName)) hown (mvT hZ (wdx hw 1 rfl)) (mvT hZ (wdx hw 2 rfl)) (mvT hZ (wdx hw 3 rfl)) (mvT hZ (wdx hw 4 rfl)) (by decide) (backOf (W := 0) (rm1 l Z a0 hw [] (3 : Int32) a_PRODUCE a_FETCH a_LIST_OFFSETS a_METADATA a_OFFSET_COMMIT a_OFFSET_FETCH a_FIND_COORDINATOR a_JOIN_GROUP a_HEARTBEAT a_LEAVE_GROUP a_SYNC_GROUP a_DESCRIBE_GROUPS a_LIST_GROUPS a_API_VERSIONS h0 n0 O0 S_PRODUCE S_FETCH S_LIST_OFFSETS S_METADATA S_OFFSET_COMMIT S_OFFSET_FETCH S_FIND_COORDINATOR S_JOIN_GROUP S_HEARTBEAT S_LEAVE_GROUP S_SYNC_GROUP S_DESCRIBE_GROUPS S_LIST_GROUPS S_API_VERSIONS) hZ (wdx hw 4 rfl) (wdx hw 3 rfl) (by decide) (by decide)) (g := (mkF m 9 #[.val (.int kk), .val (.int vv), .val (.int (3 : Int32)), .unset, .unset, .unset, .unset, .unset] [(.int (3 : Int32))])) rfl (by rw [hml]; rfl) (argsL := [(.int (3 : Int32))]) (rest := []) (lenOf pd__I_Lcom_example_tenure_of_partitions_tenureofpartitions_ApiKey_ rfl) rfl (by show 2 * 0 + _ ≤ _; exact Nat.le_of_eq rfl) (hb hby at_9) (fun _ _ => ⟨rfl, e0, (by exact Nat.le_of_ble_eq_true rfl), (by exact Nat.le_of_ble_eq_true rfl)⟩)
    dsimp only [Pt.U, Pt.locs, Pt.cells, Pt.slots] at X34 l34 y34 z34 st34 hQ34
    subst l34 y34 z34
    obtain ⟨rfl, Nq34, eq34⟩ := hQ34
    have N34 := Fr.app N0 Nq34
    refine Go.st st34 ?_
    show Go p e below s _ _ _ (T34.setTop (mkF m 12 #[.val (.int kk), .val (.int vv), .val (.int (3 : Int32)), .unset, .unset, .unset, .unset, .unset] [(.ref (fpick (3 : Int32) a_PRODUCE a_FETCH a_LIST_OFFSETS a_METADATA a_OFFSET_COMMIT a_OFFSET_FETCH a_FIND_COORDINATOR a_JOIN_GROUP a_HEARTBEAT a_LEAVE_GROUP a_SYNC_GROUP a_DESCRIBE_GROUPS a_LIST_GROUPS a_API_VERSIONS))]))
    show Go p e below s _ _ _ (T34.setTop (mkF m 12 #[.val (.int kk), .val (.int vv), .val (.int (3 : Int32)), .unset, .unset, .unset, .unset, .unset] [(.ref a_METADATA)]))
    refine Go.st (fun _ k' => XS.astoreN X34.here hx rfl (hb hby at_12) rfl rfl (l' := #[.val (.int kk), .val (.int vv), .val (.int (3 : Int32)), .val (.ref a_METADATA), .unset, .unset, .unset, .unset]) rfl k') ?_
    show Go p e below s _ _ _ (T34.setTop (mkF m 13 #[.val (.int kk), .val (.int vv), .val (.int (3 : Int32)), .val (.ref a_METADATA), .unset, .unset, .unset, .unset] []))
    refine Go.st (fun _ k' => XS.iloadN X34.here hx rfl (hb hby at_13) rfl k') ?_
    show Go p e below s _ _ _ (T34.setTop (mkF m 14 #[.val (.int kk), .val (.int vv), .val (.int (3 : Int32)), .val (.ref a_METADATA), .unset, .unset, .unset, .unset] [(.int vv)]))
    refine Go.st (fun _ k' => XS.i2s X34.here hx rfl (hb hby at_14) rfl k') ?_
    show Go p e below s _ _ _ (T34.setTop (mkF m 15 #[.val (.int kk), .val (.int vv), .val (.int (3 : Int32)), .val (.ref a_METADATA), .unset, .unset, .unset, .unset] [(.int (vv.toInt16.toInt32))]))
    refine Go.st (fun _ k' => XS.istore X34.here hx rfl (hb hby at_15) rfl (l' := #[.val (.int kk), .val (.int vv), .val (.int (3 : Int32)), .val (.ref a_METADATA), .val (.int (vv.toInt16.toInt32)), .unset, .unset, .unset]) rfl k') ?_
    show Go p e below s _ _ _ (T34.setTop (mkF m 17 #[.val (.int kk), .val (.int vv), .val (.int (3 : Int32)), .val (.ref a_METADATA), .val (.int (vv.toInt16.toInt32)), .unset, .unset, .unset] []))
    refine Go.st (fun _ k' => XS.iloadN X34.here hx rfl (hb hby at_17) rfl k') ?_
    show Go p e below s _ _ _ (T34.setTop (mkF m 18 #[.val (.int kk), .val (.int vv), .val (.int (3 : Int32)), .val (.ref a_METADATA), .val (.int (vv.toInt16.toInt32)), .unset, .unset, .unset] [(.int (3 : Int32))]))
    obtain ⟨_, _, ⟨T35, L35, k35, n35⟩, -, X35, ⟨Lc35, hQ35, l35, y35, z35⟩, st35⟩ := Jvm.LawKit.callS X34 hx (y := (⟨"com/example/tenure_of_partitions/tenureofpartitions/ApiKeyServesPinLaw", "lo", "(I)I"⟩ : MethodName)) hown (mvT hZ (wdx hw 8 rfl)) (mvT hZ (wdx hw 9 rfl)) (mvT hZ (wdx hw 3 rfl)) (mvT hZ (wdx hw 10 rfl)) (by decide) (backOf (W := 0) (rm2 l Z a0 hw [] (3 : Int32) h0 n0 O0 ) hZ (wdx hw 10 rfl) (wdx hw 3 rfl) (by decide) (by decide)) (g := (mkF m 18 #[.val (.int kk), .val (.int vv), .val (.int (3 : Int32)), .val (.ref a_METADATA), .val (.int (vv.toInt16.toInt32)), .unset, .unset, .unset] [(.int (3 : Int32))])) rfl (by rw [hml]; rfl) (argsL := [(.int (3 : Int32))]) (rest := []) (lenOf pd__I_I rfl) rfl (by show 2 * 0 + _ ≤ _; exact Nat.le_of_eq rfl) (hb hby at_18) (fun _ _ => ⟨rfl, eq34, (by exact Nat.le_of_ble_eq_true rfl), (by exact Nat.le_of_ble_eq_true rfl)⟩)
    dsimp only [Pt.U, Pt.locs, Pt.cells, Pt.slots] at X35 l35 y35 z35 st35 hQ35
    subst l35 y35 z35
    obtain ⟨rfl, Nq35, eq35⟩ := hQ35
    have N35 := Fr.app N34 Nq35
    refine Go.st st35 ?_
    show Go p e below s _ _ _ (T35.setTop (mkF m 21 #[.val (.int kk), .val (.int vv), .val (.int (3 : Int32)), .val (.ref a_METADATA), .val (.int (vv.toInt16.toInt32)), .unset, .unset, .unset] [(.int (flo (3 : Int32)))]))
    show Go p e below s _ _ _ (T35.setTop (mkF m 21 #[.val (.int kk), .val (.int vv), .val (.int (3 : Int32)), .val (.ref a_METADATA), .val (.int (vv.toInt16.toInt32)), .unset, .unset, .unset] [(.int (0 : Int32))]))
    refine Go.st (fun _ k' => XS.istore X35.here hx rfl (hb hby at_21) rfl (l' := #[.val (.int kk), .val (.int vv), .val (.int (3 : Int32)), .val (.ref a_METADATA), .val (.int (vv.toInt16.toInt32)), .val (.int (0 : Int32)), .unset, .unset]) rfl k') ?_
    show Go p e below s _ _ _ (T35.setTop (mkF m 23 #[.val (.int kk), .val (.int vv), .val (.int (3 : Int32)), .val (.ref a_METADATA), .val (.int (vv.toInt16.toInt32)), .val (.int (0 : Int32)), .unset, .unset] []))
    refine Go.st (fun _ k' => XS.iloadN X35.here hx rfl (hb hby at_23) rfl k') ?_
    show Go p e below s _ _ _ (T35.setTop (mkF m 24 #[.val (.int kk), .val (.int vv), .val (.int (3 : Int32)), .val (.ref a_METADATA), .val (.int (vv.toInt16.toInt32)), .val (.int (0 : Int32)), .unset, .unset] [(.int (3 : Int32))]))
    obtain ⟨_, _, ⟨T36, L36, k36, n36⟩, -, X36, ⟨Lc36, hQ36, l36, y36, z36⟩, st36⟩ := Jvm.LawKit.callS X35 hx (y := (⟨"com/example/tenure_of_partitions/tenureofpartitions/ApiKeyServesPinLaw", "hi", "(I)I"⟩ : MethodName)) hown (mvT hZ (wdx hw 11 rfl)) (mvT hZ (wdx hw 12 rfl)) (mvT hZ (wdx hw 3 rfl)) (mvT hZ (wdx hw 13 rfl)) (by decide) (backOf (W := 0) (rm3 l Z a0 hw [] (3 : Int32) h0 n0 O0 ) hZ (wdx hw 13 rfl) (wdx hw 3 rfl) (by decide) (by decide)) (g := (mkF m 24 #[.val (.int kk), .val (.int vv), .val (.int (3 : Int32)), .val (.ref a_METADATA), .val (.int (vv.toInt16.toInt32)), .val (.int (0 : Int32)), .unset, .unset] [(.int (3 : Int32))])) rfl (by rw [hml]; rfl) (argsL := [(.int (3 : Int32))]) (rest := []) (lenOf pd__I_I rfl) rfl (by show 2 * 0 + _ ≤ _; exact Nat.le_of_eq rfl) (hb hby at_24) (fun _ _ => ⟨rfl, eq35, (by exact Nat.le_of_ble_eq_true rfl), (by exact Nat.le_of_ble_eq_true rfl)⟩)
    dsimp only [Pt.U, Pt.locs, Pt.cells, Pt.slots] at X36 l36 y36 z36 st36 hQ36
    subst l36 y36 z36
    obtain ⟨rfl, Nq36, eq36⟩ := hQ36
    have N36 := Fr.app N35 Nq36
    refine Go.st st36 ?_
    show Go p e below s _ _ _ (T36.setTop (mkF m 27 #[.val (.int kk), .val (.int vv), .val (.int (3 : Int32)), .val (.ref a_METADATA), .val (.int (vv.toInt16.toInt32)), .val (.int (0 : Int32)), .unset, .unset] [(.int (fhi (3 : Int32)))]))
    show Go p e below s _ _ _ (T36.setTop (mkF m 27 #[.val (.int kk), .val (.int vv), .val (.int (3 : Int32)), .val (.ref a_METADATA), .val (.int (vv.toInt16.toInt32)), .val (.int (0 : Int32)), .unset, .unset] [(.int (4 : Int32))]))
    refine Go.st (fun _ k' => XS.istore X36.here hx rfl (hb hby at_27) rfl (l' := #[.val (.int kk), .val (.int vv), .val (.int (3 : Int32)), .val (.ref a_METADATA), .val (.int (vv.toInt16.toInt32)), .val (.int (0 : Int32)), .val (.int (4 : Int32)), .unset]) rfl k') ?_
    show Go p e below s _ _ _ (T36.setTop (mkF m 29 #[.val (.int kk), .val (.int vv), .val (.int (3 : Int32)), .val (.ref a_METADATA), .val (.int (vv.toInt16.toInt32)), .val (.int (0 : Int32)), .val (.int (4 : Int32)), .unset] []))
    refine Go.st (fun _ k' => XS.iload X36.here hx rfl (hb hby at_29) rfl k') ?_
    show Go p e below s _ _ _ (T36.setTop (mkF m 31 #[.val (.int kk), .val (.int vv), .val (.int (3 : Int32)), .val (.ref a_METADATA), .val (.int (vv.toInt16.toInt32)), .val (.int (0 : Int32)), .val (.int (4 : Int32)), .unset] [(.int (vv.toInt16.toInt32))]))
    refine Go.st (fun _ k' => XS.iload X36.here hx rfl (hb hby at_31) rfl k') ?_
    show Go p e below s _ _ _ (T36.setTop (mkF m 33 #[.val (.int kk), .val (.int vv), .val (.int (3 : Int32)), .val (.ref a_METADATA), .val (.int (vv.toInt16.toInt32)), .val (.int (0 : Int32)), .val (.int (4 : Int32)), .unset] [(.int (0 : Int32)), (.int (vv.toInt16.toInt32))]))
    by_cases hc37 : (vv.toInt16.toInt32) < (0 : Int32)
    · refine Go.st (fun _ k' => XS.icmpYes X36.here hx rfl (pc0 := 33) (pc' := 47) rfl (hb hby at_33) rfl (XT.ii_lt_t hc37) (by decide) (by decide) k') ?_
      show Go p e below s _ _ _ (T36.setTop (mkF m 47 #[.val (.int kk), .val (.int vv), .val (.int (3 : Int32)), .val (.ref a_METADATA), .val (.int (vv.toInt16.toInt32)), .val (.int (0 : Int32)), .val (.int (4 : Int32)), .unset] []))
      refine Go.st (fun _ k' => XS.iconst X36.here hx rfl (hb hby at_47) k') ?_
      show Go p e below s _ _ _ (T36.setTop (mkF m 48 #[.val (.int kk), .val (.int vv), .val (.int (3 : Int32)), .val (.ref a_METADATA), .val (.int (vv.toInt16.toInt32)), .val (.int (0 : Int32)), .val (.int (4 : Int32)), .unset] [(.int (0 : Int32))]))
      refine Go.st (fun _ k' => XS.istore X36.here hx rfl (hb hby at_48) rfl (l' := #[.val (.int kk), .val (.int vv), .val (.int (3 : Int32)), .val (.ref a_METADATA), .val (.int (vv.toInt16.toInt32)), .val (.int (0 : Int32)), .val (.int (4 : Int32)), .val (.int (0 : Int32))]) rfl k') ?_
      show Go p e below s _ _ _ (T36.setTop (mkF m 50 #[.val (.int kk), .val (.int vv), .val (.int (3 : Int32)), .val (.ref a_METADATA), .val (.int (vv.toInt16.toInt32)), .val (.int (0 : Int32)), .val (.int (4 : Int32)), .val (.int (0 : Int32))] []))
      refine Go.st (fun _ k' => XS.aloadN X36.here hx rfl (hb hby at_50) rfl rfl k') ?_
      show Go p e below s _ _ _ (T36.setTop (mkF m 51 #[.val (.int kk), .val (.int vv), .val (.int (3 : Int32)), .val (.ref a_METADATA), .val (.int (vv.toInt16.toInt32)), .val (.int (0 : Int32)), .val (.int (4 : Int32)), .val (.int (0 : Int32))] [(.ref a_METADATA)]))
      refine Go.st (fun _ k' => XS.iload X36.here hx rfl (hb hby at_51) rfl k') ?_
      show Go p e below s _ _ _ (T36.setTop (mkF m 53 #[.val (.int kk), .val (.int vv), .val (.int (3 : Int32)), .val (.ref a_METADATA), .val (.int (vv.toInt16.toInt32)), .val (.int (0 : Int32)), .val (.int (4 : Int32)), .val (.int (0 : Int32))] [(.int (vv.toInt16.toInt32)), (.ref a_METADATA)]))
      obtain ⟨cq38, kq38, q38a, q38b, q38c⟩ := isOf hZ eq36 E_METADATA
      obtain ⟨_, _, ⟨T38, L38, k38, n38⟩, -, X38, ⟨Lc38, hQ38, l38, y38, z38⟩, st38⟩ := X36.virtualBack hx (y := (⟨"com/example/tenure_of_partitions/tenureofpartitions/ApiKey", "serves", "(S)Z"⟩ : MethodName)) (z := (⟨"com/example/tenure_of_partitions/tenureofpartitions/ApiKey", "serves", "(S)Z"⟩ : MethodName)) hown (mvT hZ (wdx hw 14 rfl)) (mvT hZ (wdx hw 15 rfl)) (notFace_of_selects (args := #[]) (mvT hZ (wdx hw 17 rfl))) (mvT hZ (wdx hw 17 rfl)) (mvT hZ (wdx hw 16 rfl)) (by decide) (backOf (W := 0) (rm4 l Z a0 hw [] a_METADATA (vv.toInt16.toInt32) (0 : Int32) (4 : Int32) h0 n0 O0 F_METADATA_minVersion F_METADATA_maxVersion) hZ (wdx hw 18 rfl) (wdx hw 6 rfl) (by decide) (by decide)) q38a q38c (g := (mkF m 53 #[.val (.int kk), .val (.int vv), .val (.int (3 : Int32)), .val (.ref a_METADATA), .val (.int (vv.toInt16.toInt32)), .val (.int (0 : Int32)), .val (.int (4 : Int32)), .val (.int (0 : Int32))] [(.int (vv.toInt16.toInt32)), (.ref a_METADATA)])) rfl (by rw [hml]; rfl) (Steps.refl _) (argsL := [(.int (vv.toInt16.toInt32))]) (rest := []) (lenOf pd__S_Z rfl) rfl (by show 2 * 0 + _ ≤ _; exact Nat.le_of_eq rfl) (hb hby at_53) (fun _ _ => ⟨rfl, eq36, (by exact Nat.le_of_ble_eq_true rfl), (by exact Nat.le_of_ble_eq_true rfl)⟩)
      dsimp only [Pt.U, Pt.locs, Pt.cells, Pt.slots] at X38 l38 y38 z38 st38 hQ38
      subst l38 y38 z38
      obtain ⟨rfl, Nq38, eq38⟩ := hQ38
      have N38 := Fr.app N36 Nq38
      refine Go.tr st38 ?_
      show Go p e below s _ _ _ (T38.setTop (mkF m 56 #[.val (.int kk), .val (.int vv), .val (.int (3 : Int32)), .val (.ref a_METADATA), .val (.int (vv.toInt16.toInt32)), .val (.int (0 : Int32)), .val (.int (4 : Int32)), .val (.int (0 : Int32))] [(.int (if (vv.toInt16.toInt32) < (0 : Int32) then (0 : Int32) else if (4 : Int32) < (vv.toInt16.toInt32) then 0 else 1))]))
      refine Go.st (fun _ k' => XS.iload X38.here hx rfl (hb hby at_56) rfl k') ?_
      show Go p e below s _ _ _ (T38.setTop (mkF m 58 #[.val (.int kk), .val (.int vv), .val (.int (3 : Int32)), .val (.ref a_METADATA), .val (.int (vv.toInt16.toInt32)), .val (.int (0 : Int32)), .val (.int (4 : Int32)), .val (.int (0 : Int32))] [(.int (0 : Int32)), (.int (if (vv.toInt16.toInt32) < (0 : Int32) then (0 : Int32) else if (4 : Int32) < (vv.toInt16.toInt32) then 0 else 1))]))
      by_cases hc39 : (if (vv.toInt16.toInt32) < (0 : Int32) then (0 : Int32) else if (4 : Int32) < (vv.toInt16.toInt32) then 0 else 1) = (0 : Int32)
      · refine Go.st (fun _ k' => XS.icmpNo X38.here hx rfl (hb hby at_58) rfl (XT.ii_ne_f hc39) k') ?_
        show Go p e below s _ _ _ (T38.setTop (mkF m 61 #[.val (.int kk), .val (.int vv), .val (.int (3 : Int32)), .val (.ref a_METADATA), .val (.int (vv.toInt16.toInt32)), .val (.int (0 : Int32)), .val (.int (4 : Int32)), .val (.int (0 : Int32))] []))
        refine Go.st (fun _ k' => XS.iconst X38.here hx rfl (hb hby at_61) k') ?_
        show Go p e below s _ _ _ (T38.setTop (mkF m 62 #[.val (.int kk), .val (.int vv), .val (.int (3 : Int32)), .val (.ref a_METADATA), .val (.int (vv.toInt16.toInt32)), .val (.int (0 : Int32)), .val (.int (4 : Int32)), .val (.int (0 : Int32))] [(.int (1 : Int32))]))
        refine Go.st (fun _ k' => XS.goto X38.here hx rfl (pc0 := 62) (pc' := 66) rfl (hb hby at_62) (by decide) (by decide) k') ?_
        show Go p e below s _ _ _ (T38.setTop (mkF m 66 #[.val (.int kk), .val (.int vv), .val (.int (3 : Int32)), .val (.ref a_METADATA), .val (.int (vv.toInt16.toInt32)), .val (.int (0 : Int32)), .val (.int (4 : Int32)), .val (.int (0 : Int32))] [(.int (1 : Int32))]))
        refine Go.retB X38 hx hlk (t := .boolean) Bd.returns (by simp) (hb hby at_66) (by decide) (by decide) eq38 ?_
        exact ⟨rfl, N38, trivial⟩
      · refine Go.st (fun _ k' => XS.icmpYes X38.here hx rfl (pc0 := 58) (pc' := 65) rfl (hb hby at_58) rfl (XT.ii_ne_t hc39) (by decide) (by decide) k') ?_
        show Go p e below s _ _ _ (T38.setTop (mkF m 65 #[.val (.int kk), .val (.int vv), .val (.int (3 : Int32)), .val (.ref a_METADATA), .val (.int (vv.toInt16.toInt32)), .val (.int (0 : Int32)), .val (.int (4 : Int32)), .val (.int (0 : Int32))] []))
        refine Go.st (fun _ k' => XS.iconst X38.here hx rfl (hb hby at_65) k') ?_
        show Go p e below s _ _ _ (T38.setTop (mkF m 66 #[.val (.int kk), .val (.int vv), .val (.int (3 : Int32)), .val (.ref a_METADATA), .val (.int (vv.toInt16.toInt32)), .val (.int (0 : Int32)), .val (.int (4 : Int32)), .val (.int (0 : Int32))] [(.int (0 : Int32))]))
        refine Go.retB X38 hx hlk (t := .boolean) Bd.returns (by simp) (hb hby at_66) (by decide) (by decide) eq38 ?_
        exact absurd (by simp [hc37]) hc39
    · refine Go.st (fun _ k' => XS.icmpNo X36.here hx rfl (hb hby at_33) rfl (XT.ii_lt_f hc37) k') ?_
      show Go p e below s _ _ _ (T36.setTop (mkF m 36 #[.val (.int kk), .val (.int vv), .val (.int (3 : Int32)), .val (.ref a_METADATA), .val (.int (vv.toInt16.toInt32)), .val (.int (0 : Int32)), .val (.int (4 : Int32)), .unset] []))
      refine Go.st (fun _ k' => XS.iload X36.here hx rfl (hb hby at_36) rfl k') ?_
      show Go p e below s _ _ _ (T36.setTop (mkF m 38 #[.val (.int kk), .val (.int vv), .val (.int (3 : Int32)), .val (.ref a_METADATA), .val (.int (vv.toInt16.toInt32)), .val (.int (0 : Int32)), .val (.int (4 : Int32)), .unset] [(.int (vv.toInt16.toInt32))]))
      refine Go.st (fun _ k' => XS.iload X36.here hx rfl (hb hby at_38) rfl k') ?_
      show Go p e below s _ _ _ (T36.setTop (mkF m 40 #[.val (.int kk), .val (.int vv), .val (.int (3 : Int32)), .val (.ref a_METADATA), .val (.int (vv.toInt16.toInt32)), .val (.int (0 : Int32)), .val (.int (4 : Int32)), .unset] [(.int (4 : Int32)), (.int (vv.toInt16.toInt32))]))
      by_cases hc40 : (4 : Int32) < (vv.toInt16.toInt32)
      · refine Go.st (fun _ k' => XS.icmpYes X36.here hx rfl (pc0 := 40) (pc' := 47) rfl (hb hby at_40) rfl (XT.ii_gt_t hc40) (by decide) (by decide) k') ?_
        show Go p e below s _ _ _ (T36.setTop (mkF m 47 #[.val (.int kk), .val (.int vv), .val (.int (3 : Int32)), .val (.ref a_METADATA), .val (.int (vv.toInt16.toInt32)), .val (.int (0 : Int32)), .val (.int (4 : Int32)), .unset] []))
        refine Go.st (fun _ k' => XS.iconst X36.here hx rfl (hb hby at_47) k') ?_
        show Go p e below s _ _ _ (T36.setTop (mkF m 48 #[.val (.int kk), .val (.int vv), .val (.int (3 : Int32)), .val (.ref a_METADATA), .val (.int (vv.toInt16.toInt32)), .val (.int (0 : Int32)), .val (.int (4 : Int32)), .unset] [(.int (0 : Int32))]))
        refine Go.st (fun _ k' => XS.istore X36.here hx rfl (hb hby at_48) rfl (l' := #[.val (.int kk), .val (.int vv), .val (.int (3 : Int32)), .val (.ref a_METADATA), .val (.int (vv.toInt16.toInt32)), .val (.int (0 : Int32)), .val (.int (4 : Int32)), .val (.int (0 : Int32))]) rfl k') ?_
        show Go p e below s _ _ _ (T36.setTop (mkF m 50 #[.val (.int kk), .val (.int vv), .val (.int (3 : Int32)), .val (.ref a_METADATA), .val (.int (vv.toInt16.toInt32)), .val (.int (0 : Int32)), .val (.int (4 : Int32)), .val (.int (0 : Int32))] []))
        refine Go.st (fun _ k' => XS.aloadN X36.here hx rfl (hb hby at_50) rfl rfl k') ?_
        show Go p e below s _ _ _ (T36.setTop (mkF m 51 #[.val (.int kk), .val (.int vv), .val (.int (3 : Int32)), .val (.ref a_METADATA), .val (.int (vv.toInt16.toInt32)), .val (.int (0 : Int32)), .val (.int (4 : Int32)), .val (.int (0 : Int32))] [(.ref a_METADATA)]))
        refine Go.st (fun _ k' => XS.iload X36.here hx rfl (hb hby at_51) rfl k') ?_
        show Go p e below s _ _ _ (T36.setTop (mkF m 53 #[.val (.int kk), .val (.int vv), .val (.int (3 : Int32)), .val (.ref a_METADATA), .val (.int (vv.toInt16.toInt32)), .val (.int (0 : Int32)), .val (.int (4 : Int32)), .val (.int (0 : Int32))] [(.int (vv.toInt16.toInt32)), (.ref a_METADATA)]))
        obtain ⟨cq41, kq41, q41a, q41b, q41c⟩ := isOf hZ eq36 E_METADATA
        obtain ⟨_, _, ⟨T41, L41, k41, n41⟩, -, X41, ⟨Lc41, hQ41, l41, y41, z41⟩, st41⟩ := X36.virtualBack hx (y := (⟨"com/example/tenure_of_partitions/tenureofpartitions/ApiKey", "serves", "(S)Z"⟩ : MethodName)) (z := (⟨"com/example/tenure_of_partitions/tenureofpartitions/ApiKey", "serves", "(S)Z"⟩ : MethodName)) hown (mvT hZ (wdx hw 14 rfl)) (mvT hZ (wdx hw 15 rfl)) (notFace_of_selects (args := #[]) (mvT hZ (wdx hw 17 rfl))) (mvT hZ (wdx hw 17 rfl)) (mvT hZ (wdx hw 16 rfl)) (by decide) (backOf (W := 0) (rm4 l Z a0 hw [] a_METADATA (vv.toInt16.toInt32) (0 : Int32) (4 : Int32) h0 n0 O0 F_METADATA_minVersion F_METADATA_maxVersion) hZ (wdx hw 18 rfl) (wdx hw 6 rfl) (by decide) (by decide)) q41a q41c (g := (mkF m 53 #[.val (.int kk), .val (.int vv), .val (.int (3 : Int32)), .val (.ref a_METADATA), .val (.int (vv.toInt16.toInt32)), .val (.int (0 : Int32)), .val (.int (4 : Int32)), .val (.int (0 : Int32))] [(.int (vv.toInt16.toInt32)), (.ref a_METADATA)])) rfl (by rw [hml]; rfl) (Steps.refl _) (argsL := [(.int (vv.toInt16.toInt32))]) (rest := []) (lenOf pd__S_Z rfl) rfl (by show 2 * 0 + _ ≤ _; exact Nat.le_of_eq rfl) (hb hby at_53) (fun _ _ => ⟨rfl, eq36, (by exact Nat.le_of_ble_eq_true rfl), (by exact Nat.le_of_ble_eq_true rfl)⟩)
        dsimp only [Pt.U, Pt.locs, Pt.cells, Pt.slots] at X41 l41 y41 z41 st41 hQ41
        subst l41 y41 z41
        obtain ⟨rfl, Nq41, eq41⟩ := hQ41
        have N41 := Fr.app N36 Nq41
        refine Go.tr st41 ?_
        show Go p e below s _ _ _ (T41.setTop (mkF m 56 #[.val (.int kk), .val (.int vv), .val (.int (3 : Int32)), .val (.ref a_METADATA), .val (.int (vv.toInt16.toInt32)), .val (.int (0 : Int32)), .val (.int (4 : Int32)), .val (.int (0 : Int32))] [(.int (if (vv.toInt16.toInt32) < (0 : Int32) then (0 : Int32) else if (4 : Int32) < (vv.toInt16.toInt32) then 0 else 1))]))
        refine Go.st (fun _ k' => XS.iload X41.here hx rfl (hb hby at_56) rfl k') ?_
        show Go p e below s _ _ _ (T41.setTop (mkF m 58 #[.val (.int kk), .val (.int vv), .val (.int (3 : Int32)), .val (.ref a_METADATA), .val (.int (vv.toInt16.toInt32)), .val (.int (0 : Int32)), .val (.int (4 : Int32)), .val (.int (0 : Int32))] [(.int (0 : Int32)), (.int (if (vv.toInt16.toInt32) < (0 : Int32) then (0 : Int32) else if (4 : Int32) < (vv.toInt16.toInt32) then 0 else 1))]))
        by_cases hc42 : (if (vv.toInt16.toInt32) < (0 : Int32) then (0 : Int32) else if (4 : Int32) < (vv.toInt16.toInt32) then 0 else 1) = (0 : Int32)
        · refine Go.st (fun _ k' => XS.icmpNo X41.here hx rfl (hb hby at_58) rfl (XT.ii_ne_f hc42) k') ?_
          show Go p e below s _ _ _ (T41.setTop (mkF m 61 #[.val (.int kk), .val (.int vv), .val (.int (3 : Int32)), .val (.ref a_METADATA), .val (.int (vv.toInt16.toInt32)), .val (.int (0 : Int32)), .val (.int (4 : Int32)), .val (.int (0 : Int32))] []))
          refine Go.st (fun _ k' => XS.iconst X41.here hx rfl (hb hby at_61) k') ?_
          show Go p e below s _ _ _ (T41.setTop (mkF m 62 #[.val (.int kk), .val (.int vv), .val (.int (3 : Int32)), .val (.ref a_METADATA), .val (.int (vv.toInt16.toInt32)), .val (.int (0 : Int32)), .val (.int (4 : Int32)), .val (.int (0 : Int32))] [(.int (1 : Int32))]))
          refine Go.st (fun _ k' => XS.goto X41.here hx rfl (pc0 := 62) (pc' := 66) rfl (hb hby at_62) (by decide) (by decide) k') ?_
          show Go p e below s _ _ _ (T41.setTop (mkF m 66 #[.val (.int kk), .val (.int vv), .val (.int (3 : Int32)), .val (.ref a_METADATA), .val (.int (vv.toInt16.toInt32)), .val (.int (0 : Int32)), .val (.int (4 : Int32)), .val (.int (0 : Int32))] [(.int (1 : Int32))]))
          refine Go.retB X41 hx hlk (t := .boolean) Bd.returns (by simp) (hb hby at_66) (by decide) (by decide) eq41 ?_
          exact ⟨rfl, N41, trivial⟩
        · refine Go.st (fun _ k' => XS.icmpYes X41.here hx rfl (pc0 := 58) (pc' := 65) rfl (hb hby at_58) rfl (XT.ii_ne_t hc42) (by decide) (by decide) k') ?_
          show Go p e below s _ _ _ (T41.setTop (mkF m 65 #[.val (.int kk), .val (.int vv), .val (.int (3 : Int32)), .val (.ref a_METADATA), .val (.int (vv.toInt16.toInt32)), .val (.int (0 : Int32)), .val (.int (4 : Int32)), .val (.int (0 : Int32))] []))
          refine Go.st (fun _ k' => XS.iconst X41.here hx rfl (hb hby at_65) k') ?_
          show Go p e below s _ _ _ (T41.setTop (mkF m 66 #[.val (.int kk), .val (.int vv), .val (.int (3 : Int32)), .val (.ref a_METADATA), .val (.int (vv.toInt16.toInt32)), .val (.int (0 : Int32)), .val (.int (4 : Int32)), .val (.int (0 : Int32))] [(.int (0 : Int32))]))
          refine Go.retB X41 hx hlk (t := .boolean) Bd.returns (by simp) (hb hby at_66) (by decide) (by decide) eq41 ?_
          exact absurd (by simp [hc37, hc40]) hc42
      · refine Go.st (fun _ k' => XS.icmpNo X36.here hx rfl (hb hby at_40) rfl (XT.ii_gt_f hc40) k') ?_
        show Go p e below s _ _ _ (T36.setTop (mkF m 43 #[.val (.int kk), .val (.int vv), .val (.int (3 : Int32)), .val (.ref a_METADATA), .val (.int (vv.toInt16.toInt32)), .val (.int (0 : Int32)), .val (.int (4 : Int32)), .unset] []))
        refine Go.st (fun _ k' => XS.iconst X36.here hx rfl (hb hby at_43) k') ?_
        show Go p e below s _ _ _ (T36.setTop (mkF m 44 #[.val (.int kk), .val (.int vv), .val (.int (3 : Int32)), .val (.ref a_METADATA), .val (.int (vv.toInt16.toInt32)), .val (.int (0 : Int32)), .val (.int (4 : Int32)), .unset] [(.int (1 : Int32))]))
        refine Go.st (fun _ k' => XS.goto X36.here hx rfl (pc0 := 44) (pc' := 48) rfl (hb hby at_44) (by decide) (by decide) k') ?_
        show Go p e below s _ _ _ (T36.setTop (mkF m 48 #[.val (.int kk), .val (.int vv), .val (.int (3 : Int32)), .val (.ref a_METADATA), .val (.int (vv.toInt16.toInt32)), .val (.int (0 : Int32)), .val (.int (4 : Int32)), .unset] [(.int (1 : Int32))]))
        refine Go.st (fun _ k' => XS.istore X36.here hx rfl (hb hby at_48) rfl (l' := #[.val (.int kk), .val (.int vv), .val (.int (3 : Int32)), .val (.ref a_METADATA), .val (.int (vv.toInt16.toInt32)), .val (.int (0 : Int32)), .val (.int (4 : Int32)), .val (.int (1 : Int32))]) rfl k') ?_
        show Go p e below s _ _ _ (T36.setTop (mkF m 50 #[.val (.int kk), .val (.int vv), .val (.int (3 : Int32)), .val (.ref a_METADATA), .val (.int (vv.toInt16.toInt32)), .val (.int (0 : Int32)), .val (.int (4 : Int32)), .val (.int (1 : Int32))] []))
        refine Go.st (fun _ k' => XS.aloadN X36.here hx rfl (hb hby at_50) rfl rfl k') ?_
        show Go p e below s _ _ _ (T36.setTop (mkF m 51 #[.val (.int kk), .val (.int vv), .val (.int (3 : Int32)), .val (.ref a_METADATA), .val (.int (vv.toInt16.toInt32)), .val (.int (0 : Int32)), .val (.int (4 : Int32)), .val (.int (1 : Int32))] [(.ref a_METADATA)]))
        refine Go.st (fun _ k' => XS.iload X36.here hx rfl (hb hby at_51) rfl k') ?_
        show Go p e below s _ _ _ (T36.setTop (mkF m 53 #[.val (.int kk), .val (.int vv), .val (.int (3 : Int32)), .val (.ref a_METADATA), .val (.int (vv.toInt16.toInt32)), .val (.int (0 : Int32)), .val (.int (4 : Int32)), .val (.int (1 : Int32))] [(.int (vv.toInt16.toInt32)), (.ref a_METADATA)]))
        obtain ⟨cq43, kq43, q43a, q43b, q43c⟩ := isOf hZ eq36 E_METADATA
        obtain ⟨_, _, ⟨T43, L43, k43, n43⟩, -, X43, ⟨Lc43, hQ43, l43, y43, z43⟩, st43⟩ := X36.virtualBack hx (y := (⟨"com/example/tenure_of_partitions/tenureofpartitions/ApiKey", "serves", "(S)Z"⟩ : MethodName)) (z := (⟨"com/example/tenure_of_partitions/tenureofpartitions/ApiKey", "serves", "(S)Z"⟩ : MethodName)) hown (mvT hZ (wdx hw 14 rfl)) (mvT hZ (wdx hw 15 rfl)) (notFace_of_selects (args := #[]) (mvT hZ (wdx hw 17 rfl))) (mvT hZ (wdx hw 17 rfl)) (mvT hZ (wdx hw 16 rfl)) (by decide) (backOf (W := 0) (rm4 l Z a0 hw [] a_METADATA (vv.toInt16.toInt32) (0 : Int32) (4 : Int32) h0 n0 O0 F_METADATA_minVersion F_METADATA_maxVersion) hZ (wdx hw 18 rfl) (wdx hw 6 rfl) (by decide) (by decide)) q43a q43c (g := (mkF m 53 #[.val (.int kk), .val (.int vv), .val (.int (3 : Int32)), .val (.ref a_METADATA), .val (.int (vv.toInt16.toInt32)), .val (.int (0 : Int32)), .val (.int (4 : Int32)), .val (.int (1 : Int32))] [(.int (vv.toInt16.toInt32)), (.ref a_METADATA)])) rfl (by rw [hml]; rfl) (Steps.refl _) (argsL := [(.int (vv.toInt16.toInt32))]) (rest := []) (lenOf pd__S_Z rfl) rfl (by show 2 * 0 + _ ≤ _; exact Nat.le_of_eq rfl) (hb hby at_53) (fun _ _ => ⟨rfl, eq36, (by exact Nat.le_of_ble_eq_true rfl), (by exact Nat.le_of_ble_eq_true rfl)⟩)
        dsimp only [Pt.U, Pt.locs, Pt.cells, Pt.slots] at X43 l43 y43 z43 st43 hQ43
        subst l43 y43 z43
        obtain ⟨rfl, Nq43, eq43⟩ := hQ43
        have N43 := Fr.app N36 Nq43
        refine Go.tr st43 ?_
        show Go p e below s _ _ _ (T43.setTop (mkF m 56 #[.val (.int kk), .val (.int vv), .val (.int (3 : Int32)), .val (.ref a_METADATA), .val (.int (vv.toInt16.toInt32)), .val (.int (0 : Int32)), .val (.int (4 : Int32)), .val (.int (1 : Int32))] [(.int (if (vv.toInt16.toInt32) < (0 : Int32) then (0 : Int32) else if (4 : Int32) < (vv.toInt16.toInt32) then 0 else 1))]))
        refine Go.st (fun _ k' => XS.iload X43.here hx rfl (hb hby at_56) rfl k') ?_
        show Go p e below s _ _ _ (T43.setTop (mkF m 58 #[.val (.int kk), .val (.int vv), .val (.int (3 : Int32)), .val (.ref a_METADATA), .val (.int (vv.toInt16.toInt32)), .val (.int (0 : Int32)), .val (.int (4 : Int32)), .val (.int (1 : Int32))] [(.int (1 : Int32)), (.int (if (vv.toInt16.toInt32) < (0 : Int32) then (0 : Int32) else if (4 : Int32) < (vv.toInt16.toInt32) then 0 else 1))]))
        by_cases hc44 : (if (vv.toInt16.toInt32) < (0 : Int32) then (0 : Int32) else if (4 : Int32) < (vv.toInt16.toInt32) then 0 else 1) = (1 : Int32)
        · refine Go.st (fun _ k' => XS.icmpNo X43.here hx rfl (hb hby at_58) rfl (XT.ii_ne_f hc44) k') ?_
          show Go p e below s _ _ _ (T43.setTop (mkF m 61 #[.val (.int kk), .val (.int vv), .val (.int (3 : Int32)), .val (.ref a_METADATA), .val (.int (vv.toInt16.toInt32)), .val (.int (0 : Int32)), .val (.int (4 : Int32)), .val (.int (1 : Int32))] []))
          refine Go.st (fun _ k' => XS.iconst X43.here hx rfl (hb hby at_61) k') ?_
          show Go p e below s _ _ _ (T43.setTop (mkF m 62 #[.val (.int kk), .val (.int vv), .val (.int (3 : Int32)), .val (.ref a_METADATA), .val (.int (vv.toInt16.toInt32)), .val (.int (0 : Int32)), .val (.int (4 : Int32)), .val (.int (1 : Int32))] [(.int (1 : Int32))]))
          refine Go.st (fun _ k' => XS.goto X43.here hx rfl (pc0 := 62) (pc' := 66) rfl (hb hby at_62) (by decide) (by decide) k') ?_
          show Go p e below s _ _ _ (T43.setTop (mkF m 66 #[.val (.int kk), .val (.int vv), .val (.int (3 : Int32)), .val (.ref a_METADATA), .val (.int (vv.toInt16.toInt32)), .val (.int (0 : Int32)), .val (.int (4 : Int32)), .val (.int (1 : Int32))] [(.int (1 : Int32))]))
          refine Go.retB X43 hx hlk (t := .boolean) Bd.returns (by simp) (hb hby at_66) (by decide) (by decide) eq43 ?_
          exact ⟨rfl, N43, trivial⟩
        · refine Go.st (fun _ k' => XS.icmpYes X43.here hx rfl (pc0 := 58) (pc' := 65) rfl (hb hby at_58) rfl (XT.ii_ne_t hc44) (by decide) (by decide) k') ?_
          show Go p e below s _ _ _ (T43.setTop (mkF m 65 #[.val (.int kk), .val (.int vv), .val (.int (3 : Int32)), .val (.ref a_METADATA), .val (.int (vv.toInt16.toInt32)), .val (.int (0 : Int32)), .val (.int (4 : Int32)), .val (.int (1 : Int32))] []))
          refine Go.st (fun _ k' => XS.iconst X43.here hx rfl (hb hby at_65) k') ?_
          show Go p e below s _ _ _ (T43.setTop (mkF m 66 #[.val (.int kk), .val (.int vv), .val (.int (3 : Int32)), .val (.ref a_METADATA), .val (.int (vv.toInt16.toInt32)), .val (.int (0 : Int32)), .val (.int (4 : Int32)), .val (.int (1 : Int32))] [(.int (0 : Int32))]))
          refine Go.retB X43 hx hlk (t := .boolean) Bd.returns (by simp) (hb hby at_66) (by decide) (by decide) eq43 ?_
          exact absurd (by simp [hc37, hc40]) hc44
  · rw [hi]
    show Go p e below s _ _ _ (s₁.setTop (mkF m 8 #[.val (.int kk), .val (.int vv), .val (.int (4 : Int32)), .unset, .unset, .unset, .unset, .unset] []))
    refine Go.st (fun _ k' => XS.iloadN X0.here hx rfl (hb hby at_8) rfl k') ?_
    show Go p e below s _ _ _ (s₁.setTop (mkF m 9 #[.val (.int kk), .val (.int vv), .val (.int (4 : Int32)), .unset, .unset, .unset, .unset, .unset] [(.int (4 : Int32))]))
    obtain ⟨_, _, ⟨T45, L45, k45, n45⟩, -, X45, ⟨Lc45, hQ45, l45, y45, z45⟩, st45⟩ := Jvm.LawKit.callS X0 hx (y := (⟨"com/example/tenure_of_partitions/tenureofpartitions/ApiKeyServesPinLaw", "pick", "(I)Lcom/example/tenure_of_partitions/tenureofpartitions/ApiKey;"⟩ : MethodName)) hown (mvT hZ (wdx hw 1 rfl)) (mvT hZ (wdx hw 2 rfl)) (mvT hZ (wdx hw 3 rfl)) (mvT hZ (wdx hw 4 rfl)) (by decide) (backOf (W := 0) (rm1 l Z a0 hw [] (4 : Int32) a_PRODUCE a_FETCH a_LIST_OFFSETS a_METADATA a_OFFSET_COMMIT a_OFFSET_FETCH a_FIND_COORDINATOR a_JOIN_GROUP a_HEARTBEAT a_LEAVE_GROUP a_SYNC_GROUP a_DESCRIBE_GROUPS a_LIST_GROUPS a_API_VERSIONS h0 n0 O0 S_PRODUCE S_FETCH S_LIST_OFFSETS S_METADATA S_OFFSET_COMMIT S_OFFSET_FETCH S_FIND_COORDINATOR S_JOIN_GROUP S_HEARTBEAT S_LEAVE_GROUP S_SYNC_GROUP S_DESCRIBE_GROUPS S_LIST_GROUPS S_API_VERSIONS) hZ (wdx hw 4 rfl) (wdx hw 3 rfl) (by decide) (by decide)) (g := (mkF m 9 #[.val (.int kk), .val (.int vv), .val (.int (4 : Int32)), .unset, .unset, .unset, .unset, .unset] [(.int (4 : Int32))])) rfl (by rw [hml]; rfl) (argsL := [(.int (4 : Int32))]) (rest := []) (lenOf pd__I_Lcom_example_tenure_of_partitions_tenureofpartitions_ApiKey_ rfl) rfl (by show 2 * 0 + _ ≤ _; exact Nat.le_of_eq rfl) (hb hby at_9) (fun _ _ => ⟨rfl, e0, (by exact Nat.le_of_ble_eq_true rfl), (by exact Nat.le_of_ble_eq_true rfl)⟩)
    dsimp only [Pt.U, Pt.locs, Pt.cells, Pt.slots] at X45 l45 y45 z45 st45 hQ45
    subst l45 y45 z45
    obtain ⟨rfl, Nq45, eq45⟩ := hQ45
    have N45 := Fr.app N0 Nq45
    refine Go.st st45 ?_
    show Go p e below s _ _ _ (T45.setTop (mkF m 12 #[.val (.int kk), .val (.int vv), .val (.int (4 : Int32)), .unset, .unset, .unset, .unset, .unset] [(.ref (fpick (4 : Int32) a_PRODUCE a_FETCH a_LIST_OFFSETS a_METADATA a_OFFSET_COMMIT a_OFFSET_FETCH a_FIND_COORDINATOR a_JOIN_GROUP a_HEARTBEAT a_LEAVE_GROUP a_SYNC_GROUP a_DESCRIBE_GROUPS a_LIST_GROUPS a_API_VERSIONS))]))
    show Go p e below s _ _ _ (T45.setTop (mkF m 12 #[.val (.int kk), .val (.int vv), .val (.int (4 : Int32)), .unset, .unset, .unset, .unset, .unset] [(.ref a_OFFSET_COMMIT)]))
    refine Go.st (fun _ k' => XS.astoreN X45.here hx rfl (hb hby at_12) rfl rfl (l' := #[.val (.int kk), .val (.int vv), .val (.int (4 : Int32)), .val (.ref a_OFFSET_COMMIT), .unset, .unset, .unset, .unset]) rfl k') ?_
    show Go p e below s _ _ _ (T45.setTop (mkF m 13 #[.val (.int kk), .val (.int vv), .val (.int (4 : Int32)), .val (.ref a_OFFSET_COMMIT), .unset, .unset, .unset, .unset] []))
    refine Go.st (fun _ k' => XS.iloadN X45.here hx rfl (hb hby at_13) rfl k') ?_
    show Go p e below s _ _ _ (T45.setTop (mkF m 14 #[.val (.int kk), .val (.int vv), .val (.int (4 : Int32)), .val (.ref a_OFFSET_COMMIT), .unset, .unset, .unset, .unset] [(.int vv)]))
    refine Go.st (fun _ k' => XS.i2s X45.here hx rfl (hb hby at_14) rfl k') ?_
    show Go p e below s _ _ _ (T45.setTop (mkF m 15 #[.val (.int kk), .val (.int vv), .val (.int (4 : Int32)), .val (.ref a_OFFSET_COMMIT), .unset, .unset, .unset, .unset] [(.int (vv.toInt16.toInt32))]))
    refine Go.st (fun _ k' => XS.istore X45.here hx rfl (hb hby at_15) rfl (l' := #[.val (.int kk), .val (.int vv), .val (.int (4 : Int32)), .val (.ref a_OFFSET_COMMIT), .val (.int (vv.toInt16.toInt32)), .unset, .unset, .unset]) rfl k') ?_
    show Go p e below s _ _ _ (T45.setTop (mkF m 17 #[.val (.int kk), .val (.int vv), .val (.int (4 : Int32)), .val (.ref a_OFFSET_COMMIT), .val (.int (vv.toInt16.toInt32)), .unset, .unset, .unset] []))
    refine Go.st (fun _ k' => XS.iloadN X45.here hx rfl (hb hby at_17) rfl k') ?_
    show Go p e below s _ _ _ (T45.setTop (mkF m 18 #[.val (.int kk), .val (.int vv), .val (.int (4 : Int32)), .val (.ref a_OFFSET_COMMIT), .val (.int (vv.toInt16.toInt32)), .unset, .unset, .unset] [(.int (4 : Int32))]))
    obtain ⟨_, _, ⟨T46, L46, k46, n46⟩, -, X46, ⟨Lc46, hQ46, l46, y46, z46⟩, st46⟩ := Jvm.LawKit.callS X45 hx (y := (⟨"com/example/tenure_of_partitions/tenureofpartitions/ApiKeyServesPinLaw", "lo", "(I)I"⟩ : MethodName)) hown (mvT hZ (wdx hw 8 rfl)) (mvT hZ (wdx hw 9 rfl)) (mvT hZ (wdx hw 3 rfl)) (mvT hZ (wdx hw 10 rfl)) (by decide) (backOf (W := 0) (rm2 l Z a0 hw [] (4 : Int32) h0 n0 O0 ) hZ (wdx hw 10 rfl) (wdx hw 3 rfl) (by decide) (by decide)) (g := (mkF m 18 #[.val (.int kk), .val (.int vv), .val (.int (4 : Int32)), .val (.ref a_OFFSET_COMMIT), .val (.int (vv.toInt16.toInt32)), .unset, .unset, .unset] [(.int (4 : Int32))])) rfl (by rw [hml]; rfl) (argsL := [(.int (4 : Int32))]) (rest := []) (lenOf pd__I_I rfl) rfl (by show 2 * 0 + _ ≤ _; exact Nat.le_of_eq rfl) (hb hby at_18) (fun _ _ => ⟨rfl, eq45, (by exact Nat.le_of_ble_eq_true rfl), (by exact Nat.le_of_ble_eq_true rfl)⟩)
    dsimp only [Pt.U, Pt.locs, Pt.cells, Pt.slots] at X46 l46 y46 z46 st46 hQ46
    subst l46 y46 z46
    obtain ⟨rfl, Nq46, eq46⟩ := hQ46
    have N46 := Fr.app N45 Nq46
    refine Go.st st46 ?_
    show Go p e below s _ _ _ (T46.setTop (mkF m 21 #[.val (.int kk), .val (.int vv), .val (.int (4 : Int32)), .val (.ref a_OFFSET_COMMIT), .val (.int (vv.toInt16.toInt32)), .unset, .unset, .unset] [(.int (flo (4 : Int32)))]))
    show Go p e below s _ _ _ (T46.setTop (mkF m 21 #[.val (.int kk), .val (.int vv), .val (.int (4 : Int32)), .val (.ref a_OFFSET_COMMIT), .val (.int (vv.toInt16.toInt32)), .unset, .unset, .unset] [(.int (2 : Int32))]))
    refine Go.st (fun _ k' => XS.istore X46.here hx rfl (hb hby at_21) rfl (l' := #[.val (.int kk), .val (.int vv), .val (.int (4 : Int32)), .val (.ref a_OFFSET_COMMIT), .val (.int (vv.toInt16.toInt32)), .val (.int (2 : Int32)), .unset, .unset]) rfl k') ?_
    show Go p e below s _ _ _ (T46.setTop (mkF m 23 #[.val (.int kk), .val (.int vv), .val (.int (4 : Int32)), .val (.ref a_OFFSET_COMMIT), .val (.int (vv.toInt16.toInt32)), .val (.int (2 : Int32)), .unset, .unset] []))
    refine Go.st (fun _ k' => XS.iloadN X46.here hx rfl (hb hby at_23) rfl k') ?_
    show Go p e below s _ _ _ (T46.setTop (mkF m 24 #[.val (.int kk), .val (.int vv), .val (.int (4 : Int32)), .val (.ref a_OFFSET_COMMIT), .val (.int (vv.toInt16.toInt32)), .val (.int (2 : Int32)), .unset, .unset] [(.int (4 : Int32))]))
    obtain ⟨_, _, ⟨T47, L47, k47, n47⟩, -, X47, ⟨Lc47, hQ47, l47, y47, z47⟩, st47⟩ := Jvm.LawKit.callS X46 hx (y := (⟨"com/example/tenure_of_partitions/tenureofpartitions/ApiKeyServesPinLaw", "hi", "(I)I"⟩ : MethodName)) hown (mvT hZ (wdx hw 11 rfl)) (mvT hZ (wdx hw 12 rfl)) (mvT hZ (wdx hw 3 rfl)) (mvT hZ (wdx hw 13 rfl)) (by decide) (backOf (W := 0) (rm3 l Z a0 hw [] (4 : Int32) h0 n0 O0 ) hZ (wdx hw 13 rfl) (wdx hw 3 rfl) (by decide) (by decide)) (g := (mkF m 24 #[.val (.int kk), .val (.int vv), .val (.int (4 : Int32)), .val (.ref a_OFFSET_COMMIT), .val (.int (vv.toInt16.toInt32)), .val (.int (2 : Int32)), .unset, .unset] [(.int (4 : Int32))])) rfl (by rw [hml]; rfl) (argsL := [(.int (4 : Int32))]) (rest := []) (lenOf pd__I_I rfl) rfl (by show 2 * 0 + _ ≤ _; exact Nat.le_of_eq rfl) (hb hby at_24) (fun _ _ => ⟨rfl, eq46, (by exact Nat.le_of_ble_eq_true rfl), (by exact Nat.le_of_ble_eq_true rfl)⟩)
    dsimp only [Pt.U, Pt.locs, Pt.cells, Pt.slots] at X47 l47 y47 z47 st47 hQ47
    subst l47 y47 z47
    obtain ⟨rfl, Nq47, eq47⟩ := hQ47
    have N47 := Fr.app N46 Nq47
    refine Go.st st47 ?_
    show Go p e below s _ _ _ (T47.setTop (mkF m 27 #[.val (.int kk), .val (.int vv), .val (.int (4 : Int32)), .val (.ref a_OFFSET_COMMIT), .val (.int (vv.toInt16.toInt32)), .val (.int (2 : Int32)), .unset, .unset] [(.int (fhi (4 : Int32)))]))
    show Go p e below s _ _ _ (T47.setTop (mkF m 27 #[.val (.int kk), .val (.int vv), .val (.int (4 : Int32)), .val (.ref a_OFFSET_COMMIT), .val (.int (vv.toInt16.toInt32)), .val (.int (2 : Int32)), .unset, .unset] [(.int (7 : Int32))]))
    refine Go.st (fun _ k' => XS.istore X47.here hx rfl (hb hby at_27) rfl (l' := #[.val (.int kk), .val (.int vv), .val (.int (4 : Int32)), .val (.ref a_OFFSET_COMMIT), .val (.int (vv.toInt16.toInt32)), .val (.int (2 : Int32)), .val (.int (7 : Int32)), .unset]) rfl k') ?_
    show Go p e below s _ _ _ (T47.setTop (mkF m 29 #[.val (.int kk), .val (.int vv), .val (.int (4 : Int32)), .val (.ref a_OFFSET_COMMIT), .val (.int (vv.toInt16.toInt32)), .val (.int (2 : Int32)), .val (.int (7 : Int32)), .unset] []))
    refine Go.st (fun _ k' => XS.iload X47.here hx rfl (hb hby at_29) rfl k') ?_
    show Go p e below s _ _ _ (T47.setTop (mkF m 31 #[.val (.int kk), .val (.int vv), .val (.int (4 : Int32)), .val (.ref a_OFFSET_COMMIT), .val (.int (vv.toInt16.toInt32)), .val (.int (2 : Int32)), .val (.int (7 : Int32)), .unset] [(.int (vv.toInt16.toInt32))]))
    refine Go.st (fun _ k' => XS.iload X47.here hx rfl (hb hby at_31) rfl k') ?_
    show Go p e below s _ _ _ (T47.setTop (mkF m 33 #[.val (.int kk), .val (.int vv), .val (.int (4 : Int32)), .val (.ref a_OFFSET_COMMIT), .val (.int (vv.toInt16.toInt32)), .val (.int (2 : Int32)), .val (.int (7 : Int32)), .unset] [(.int (2 : Int32)), (.int (vv.toInt16.toInt32))]))
    by_cases hc48 : (vv.toInt16.toInt32) < (2 : Int32)
    · refine Go.st (fun _ k' => XS.icmpYes X47.here hx rfl (pc0 := 33) (pc' := 47) rfl (hb hby at_33) rfl (XT.ii_lt_t hc48) (by decide) (by decide) k') ?_
      show Go p e below s _ _ _ (T47.setTop (mkF m 47 #[.val (.int kk), .val (.int vv), .val (.int (4 : Int32)), .val (.ref a_OFFSET_COMMIT), .val (.int (vv.toInt16.toInt32)), .val (.int (2 : Int32)), .val (.int (7 : Int32)), .unset] []))
      refine Go.st (fun _ k' => XS.iconst X47.here hx rfl (hb hby at_47) k') ?_
      show Go p e below s _ _ _ (T47.setTop (mkF m 48 #[.val (.int kk), .val (.int vv), .val (.int (4 : Int32)), .val (.ref a_OFFSET_COMMIT), .val (.int (vv.toInt16.toInt32)), .val (.int (2 : Int32)), .val (.int (7 : Int32)), .unset] [(.int (0 : Int32))]))
      refine Go.st (fun _ k' => XS.istore X47.here hx rfl (hb hby at_48) rfl (l' := #[.val (.int kk), .val (.int vv), .val (.int (4 : Int32)), .val (.ref a_OFFSET_COMMIT), .val (.int (vv.toInt16.toInt32)), .val (.int (2 : Int32)), .val (.int (7 : Int32)), .val (.int (0 : Int32))]) rfl k') ?_
      show Go p e below s _ _ _ (T47.setTop (mkF m 50 #[.val (.int kk), .val (.int vv), .val (.int (4 : Int32)), .val (.ref a_OFFSET_COMMIT), .val (.int (vv.toInt16.toInt32)), .val (.int (2 : Int32)), .val (.int (7 : Int32)), .val (.int (0 : Int32))] []))
      refine Go.st (fun _ k' => XS.aloadN X47.here hx rfl (hb hby at_50) rfl rfl k') ?_
      show Go p e below s _ _ _ (T47.setTop (mkF m 51 #[.val (.int kk), .val (.int vv), .val (.int (4 : Int32)), .val (.ref a_OFFSET_COMMIT), .val (.int (vv.toInt16.toInt32)), .val (.int (2 : Int32)), .val (.int (7 : Int32)), .val (.int (0 : Int32))] [(.ref a_OFFSET_COMMIT)]))
      refine Go.st (fun _ k' => XS.iload X47.here hx rfl (hb hby at_51) rfl k') ?_
      show Go p e below s _ _ _ (T47.setTop (mkF m 53 #[.val (.int kk), .val (.int vv), .val (.int (4 : Int32)), .val (.ref a_OFFSET_COMMIT), .val (.int (vv.toInt16.toInt32)), .val (.int (2 : Int32)), .val (.int (7 : Int32)), .val (.int (0 : Int32))] [(.int (vv.toInt16.toInt32)), (.ref a_OFFSET_COMMIT)]))
      obtain ⟨cq49, kq49, q49a, q49b, q49c⟩ := isOf hZ eq47 E_OFFSET_COMMIT
      obtain ⟨_, _, ⟨T49, L49, k49, n49⟩, -, X49, ⟨Lc49, hQ49, l49, y49, z49⟩, st49⟩ := X47.virtualBack hx (y := (⟨"com/example/tenure_of_partitions/tenureofpartitions/ApiKey", "serves", "(S)Z"⟩ : MethodName)) (z := (⟨"com/example/tenure_of_partitions/tenureofpartitions/ApiKey", "serves", "(S)Z"⟩ : MethodName)) hown (mvT hZ (wdx hw 14 rfl)) (mvT hZ (wdx hw 15 rfl)) (notFace_of_selects (args := #[]) (mvT hZ (wdx hw 17 rfl))) (mvT hZ (wdx hw 17 rfl)) (mvT hZ (wdx hw 16 rfl)) (by decide) (backOf (W := 0) (rm4 l Z a0 hw [] a_OFFSET_COMMIT (vv.toInt16.toInt32) (2 : Int32) (7 : Int32) h0 n0 O0 F_OFFSET_COMMIT_minVersion F_OFFSET_COMMIT_maxVersion) hZ (wdx hw 18 rfl) (wdx hw 6 rfl) (by decide) (by decide)) q49a q49c (g := (mkF m 53 #[.val (.int kk), .val (.int vv), .val (.int (4 : Int32)), .val (.ref a_OFFSET_COMMIT), .val (.int (vv.toInt16.toInt32)), .val (.int (2 : Int32)), .val (.int (7 : Int32)), .val (.int (0 : Int32))] [(.int (vv.toInt16.toInt32)), (.ref a_OFFSET_COMMIT)])) rfl (by rw [hml]; rfl) (Steps.refl _) (argsL := [(.int (vv.toInt16.toInt32))]) (rest := []) (lenOf pd__S_Z rfl) rfl (by show 2 * 0 + _ ≤ _; exact Nat.le_of_eq rfl) (hb hby at_53) (fun _ _ => ⟨rfl, eq47, (by exact Nat.le_of_ble_eq_true rfl), (by exact Nat.le_of_ble_eq_true rfl)⟩)
      dsimp only [Pt.U, Pt.locs, Pt.cells, Pt.slots] at X49 l49 y49 z49 st49 hQ49
      subst l49 y49 z49
      obtain ⟨rfl, Nq49, eq49⟩ := hQ49
      have N49 := Fr.app N47 Nq49
      refine Go.tr st49 ?_
      show Go p e below s _ _ _ (T49.setTop (mkF m 56 #[.val (.int kk), .val (.int vv), .val (.int (4 : Int32)), .val (.ref a_OFFSET_COMMIT), .val (.int (vv.toInt16.toInt32)), .val (.int (2 : Int32)), .val (.int (7 : Int32)), .val (.int (0 : Int32))] [(.int (if (vv.toInt16.toInt32) < (2 : Int32) then (0 : Int32) else if (7 : Int32) < (vv.toInt16.toInt32) then 0 else 1))]))
      refine Go.st (fun _ k' => XS.iload X49.here hx rfl (hb hby at_56) rfl k') ?_
      show Go p e below s _ _ _ (T49.setTop (mkF m 58 #[.val (.int kk), .val (.int vv), .val (.int (4 : Int32)), .val (.ref a_OFFSET_COMMIT), .val (.int (vv.toInt16.toInt32)), .val (.int (2 : Int32)), .val (.int (7 : Int32)), .val (.int (0 : Int32))] [(.int (0 : Int32)), (.int (if (vv.toInt16.toInt32) < (2 : Int32) then (0 : Int32) else if (7 : Int32) < (vv.toInt16.toInt32) then 0 else 1))]))
      by_cases hc50 : (if (vv.toInt16.toInt32) < (2 : Int32) then (0 : Int32) else if (7 : Int32) < (vv.toInt16.toInt32) then 0 else 1) = (0 : Int32)
      · refine Go.st (fun _ k' => XS.icmpNo X49.here hx rfl (hb hby at_58) rfl (XT.ii_ne_f hc50) k') ?_
        show Go p e below s _ _ _ (T49.setTop (mkF m 61 #[.val (.int kk), .val (.int vv), .val (.int (4 : Int32)), .val (.ref a_OFFSET_COMMIT), .val (.int (vv.toInt16.toInt32)), .val (.int (2 : Int32)), .val (.int (7 : Int32)), .val (.int (0 : Int32))] []))
        refine Go.st (fun _ k' => XS.iconst X49.here hx rfl (hb hby at_61) k') ?_
        show Go p e below s _ _ _ (T49.setTop (mkF m 62 #[.val (.int kk), .val (.int vv), .val (.int (4 : Int32)), .val (.ref a_OFFSET_COMMIT), .val (.int (vv.toInt16.toInt32)), .val (.int (2 : Int32)), .val (.int (7 : Int32)), .val (.int (0 : Int32))] [(.int (1 : Int32))]))
        refine Go.st (fun _ k' => XS.goto X49.here hx rfl (pc0 := 62) (pc' := 66) rfl (hb hby at_62) (by decide) (by decide) k') ?_
        show Go p e below s _ _ _ (T49.setTop (mkF m 66 #[.val (.int kk), .val (.int vv), .val (.int (4 : Int32)), .val (.ref a_OFFSET_COMMIT), .val (.int (vv.toInt16.toInt32)), .val (.int (2 : Int32)), .val (.int (7 : Int32)), .val (.int (0 : Int32))] [(.int (1 : Int32))]))
        refine Go.retB X49 hx hlk (t := .boolean) Bd.returns (by simp) (hb hby at_66) (by decide) (by decide) eq49 ?_
        exact ⟨rfl, N49, trivial⟩
      · refine Go.st (fun _ k' => XS.icmpYes X49.here hx rfl (pc0 := 58) (pc' := 65) rfl (hb hby at_58) rfl (XT.ii_ne_t hc50) (by decide) (by decide) k') ?_
        show Go p e below s _ _ _ (T49.setTop (mkF m 65 #[.val (.int kk), .val (.int vv), .val (.int (4 : Int32)), .val (.ref a_OFFSET_COMMIT), .val (.int (vv.toInt16.toInt32)), .val (.int (2 : Int32)), .val (.int (7 : Int32)), .val (.int (0 : Int32))] []))
        refine Go.st (fun _ k' => XS.iconst X49.here hx rfl (hb hby at_65) k') ?_
        show Go p e below s _ _ _ (T49.setTop (mkF m 66 #[.val (.int kk), .val (.int vv), .val (.int (4 : Int32)), .val (.ref a_OFFSET_COMMIT), .val (.int (vv.toInt16.toInt32)), .val (.int (2 : Int32)), .val (.int (7 : Int32)), .val (.int (0 : Int32))] [(.int (0 : Int32))]))
        refine Go.retB X49 hx hlk (t := .boolean) Bd.returns (by simp) (hb hby at_66) (by decide) (by decide) eq49 ?_
        exact absurd (by simp [hc48]) hc50
    · refine Go.st (fun _ k' => XS.icmpNo X47.here hx rfl (hb hby at_33) rfl (XT.ii_lt_f hc48) k') ?_
      show Go p e below s _ _ _ (T47.setTop (mkF m 36 #[.val (.int kk), .val (.int vv), .val (.int (4 : Int32)), .val (.ref a_OFFSET_COMMIT), .val (.int (vv.toInt16.toInt32)), .val (.int (2 : Int32)), .val (.int (7 : Int32)), .unset] []))
      refine Go.st (fun _ k' => XS.iload X47.here hx rfl (hb hby at_36) rfl k') ?_
      show Go p e below s _ _ _ (T47.setTop (mkF m 38 #[.val (.int kk), .val (.int vv), .val (.int (4 : Int32)), .val (.ref a_OFFSET_COMMIT), .val (.int (vv.toInt16.toInt32)), .val (.int (2 : Int32)), .val (.int (7 : Int32)), .unset] [(.int (vv.toInt16.toInt32))]))
      refine Go.st (fun _ k' => XS.iload X47.here hx rfl (hb hby at_38) rfl k') ?_
      show Go p e below s _ _ _ (T47.setTop (mkF m 40 #[.val (.int kk), .val (.int vv), .val (.int (4 : Int32)), .val (.ref a_OFFSET_COMMIT), .val (.int (vv.toInt16.toInt32)), .val (.int (2 : Int32)), .val (.int (7 : Int32)), .unset] [(.int (7 : Int32)), (.int (vv.toInt16.toInt32))]))
      by_cases hc51 : (7 : Int32) < (vv.toInt16.toInt32)
      · refine Go.st (fun _ k' => XS.icmpYes X47.here hx rfl (pc0 := 40) (pc' := 47) rfl (hb hby at_40) rfl (XT.ii_gt_t hc51) (by decide) (by decide) k') ?_
        show Go p e below s _ _ _ (T47.setTop (mkF m 47 #[.val (.int kk), .val (.int vv), .val (.int (4 : Int32)), .val (.ref a_OFFSET_COMMIT), .val (.int (vv.toInt16.toInt32)), .val (.int (2 : Int32)), .val (.int (7 : Int32)), .unset] []))
        refine Go.st (fun _ k' => XS.iconst X47.here hx rfl (hb hby at_47) k') ?_
        show Go p e below s _ _ _ (T47.setTop (mkF m 48 #[.val (.int kk), .val (.int vv), .val (.int (4 : Int32)), .val (.ref a_OFFSET_COMMIT), .val (.int (vv.toInt16.toInt32)), .val (.int (2 : Int32)), .val (.int (7 : Int32)), .unset] [(.int (0 : Int32))]))
        refine Go.st (fun _ k' => XS.istore X47.here hx rfl (hb hby at_48) rfl (l' := #[.val (.int kk), .val (.int vv), .val (.int (4 : Int32)), .val (.ref a_OFFSET_COMMIT), .val (.int (vv.toInt16.toInt32)), .val (.int (2 : Int32)), .val (.int (7 : Int32)), .val (.int (0 : Int32))]) rfl k') ?_
        show Go p e below s _ _ _ (T47.setTop (mkF m 50 #[.val (.int kk), .val (.int vv), .val (.int (4 : Int32)), .val (.ref a_OFFSET_COMMIT), .val (.int (vv.toInt16.toInt32)), .val (.int (2 : Int32)), .val (.int (7 : Int32)), .val (.int (0 : Int32))] []))
        refine Go.st (fun _ k' => XS.aloadN X47.here hx rfl (hb hby at_50) rfl rfl k') ?_
        show Go p e below s _ _ _ (T47.setTop (mkF m 51 #[.val (.int kk), .val (.int vv), .val (.int (4 : Int32)), .val (.ref a_OFFSET_COMMIT), .val (.int (vv.toInt16.toInt32)), .val (.int (2 : Int32)), .val (.int (7 : Int32)), .val (.int (0 : Int32))] [(.ref a_OFFSET_COMMIT)]))
        refine Go.st (fun _ k' => XS.iload X47.here hx rfl (hb hby at_51) rfl k') ?_
        show Go p e below s _ _ _ (T47.setTop (mkF m 53 #[.val (.int kk), .val (.int vv), .val (.int (4 : Int32)), .val (.ref a_OFFSET_COMMIT), .val (.int (vv.toInt16.toInt32)), .val (.int (2 : Int32)), .val (.int (7 : Int32)), .val (.int (0 : Int32))] [(.int (vv.toInt16.toInt32)), (.ref a_OFFSET_COMMIT)]))
        obtain ⟨cq52, kq52, q52a, q52b, q52c⟩ := isOf hZ eq47 E_OFFSET_COMMIT
        obtain ⟨_, _, ⟨T52, L52, k52, n52⟩, -, X52, ⟨Lc52, hQ52, l52, y52, z52⟩, st52⟩ := X47.virtualBack hx (y := (⟨"com/example/tenure_of_partitions/tenureofpartitions/ApiKey", "serves", "(S)Z"⟩ : MethodName)) (z := (⟨"com/example/tenure_of_partitions/tenureofpartitions/ApiKey", "serves", "(S)Z"⟩ : MethodName)) hown (mvT hZ (wdx hw 14 rfl)) (mvT hZ (wdx hw 15 rfl)) (notFace_of_selects (args := #[]) (mvT hZ (wdx hw 17 rfl))) (mvT hZ (wdx hw 17 rfl)) (mvT hZ (wdx hw 16 rfl)) (by decide) (backOf (W := 0) (rm4 l Z a0 hw [] a_OFFSET_COMMIT (vv.toInt16.toInt32) (2 : Int32) (7 : Int32) h0 n0 O0 F_OFFSET_COMMIT_minVersion F_OFFSET_COMMIT_maxVersion) hZ (wdx hw 18 rfl) (wdx hw 6 rfl) (by decide) (by decide)) q52a q52c (g := (mkF m 53 #[.val (.int kk), .val (.int vv), .val (.int (4 : Int32)), .val (.ref a_OFFSET_COMMIT), .val (.int (vv.toInt16.toInt32)), .val (.int (2 : Int32)), .val (.int (7 : Int32)), .val (.int (0 : Int32))] [(.int (vv.toInt16.toInt32)), (.ref a_OFFSET_COMMIT)])) rfl (by rw [hml]; rfl) (Steps.refl _) (argsL := [(.int (vv.toInt16.toInt32))]) (rest := []) (lenOf pd__S_Z rfl) rfl (by show 2 * 0 + _ ≤ _; exact Nat.le_of_eq rfl) (hb hby at_53) (fun _ _ => ⟨rfl, eq47, (by exact Nat.le_of_ble_eq_true rfl), (by exact Nat.le_of_ble_eq_true rfl)⟩)
        dsimp only [Pt.U, Pt.locs, Pt.cells, Pt.slots] at X52 l52 y52 z52 st52 hQ52
        subst l52 y52 z52
        obtain ⟨rfl, Nq52, eq52⟩ := hQ52
        have N52 := Fr.app N47 Nq52
        refine Go.tr st52 ?_
        show Go p e below s _ _ _ (T52.setTop (mkF m 56 #[.val (.int kk), .val (.int vv), .val (.int (4 : Int32)), .val (.ref a_OFFSET_COMMIT), .val (.int (vv.toInt16.toInt32)), .val (.int (2 : Int32)), .val (.int (7 : Int32)), .val (.int (0 : Int32))] [(.int (if (vv.toInt16.toInt32) < (2 : Int32) then (0 : Int32) else if (7 : Int32) < (vv.toInt16.toInt32) then 0 else 1))]))
        refine Go.st (fun _ k' => XS.iload X52.here hx rfl (hb hby at_56) rfl k') ?_
        show Go p e below s _ _ _ (T52.setTop (mkF m 58 #[.val (.int kk), .val (.int vv), .val (.int (4 : Int32)), .val (.ref a_OFFSET_COMMIT), .val (.int (vv.toInt16.toInt32)), .val (.int (2 : Int32)), .val (.int (7 : Int32)), .val (.int (0 : Int32))] [(.int (0 : Int32)), (.int (if (vv.toInt16.toInt32) < (2 : Int32) then (0 : Int32) else if (7 : Int32) < (vv.toInt16.toInt32) then 0 else 1))]))
        by_cases hc53 : (if (vv.toInt16.toInt32) < (2 : Int32) then (0 : Int32) else if (7 : Int32) < (vv.toInt16.toInt32) then 0 else 1) = (0 : Int32)
        · refine Go.st (fun _ k' => XS.icmpNo X52.here hx rfl (hb hby at_58) rfl (XT.ii_ne_f hc53) k') ?_
          show Go p e below s _ _ _ (T52.setTop (mkF m 61 #[.val (.int kk), .val (.int vv), .val (.int (4 : Int32)), .val (.ref a_OFFSET_COMMIT), .val (.int (vv.toInt16.toInt32)), .val (.int (2 : Int32)), .val (.int (7 : Int32)), .val (.int (0 : Int32))] []))
          refine Go.st (fun _ k' => XS.iconst X52.here hx rfl (hb hby at_61) k') ?_
          show Go p e below s _ _ _ (T52.setTop (mkF m 62 #[.val (.int kk), .val (.int vv), .val (.int (4 : Int32)), .val (.ref a_OFFSET_COMMIT), .val (.int (vv.toInt16.toInt32)), .val (.int (2 : Int32)), .val (.int (7 : Int32)), .val (.int (0 : Int32))] [(.int (1 : Int32))]))
          refine Go.st (fun _ k' => XS.goto X52.here hx rfl (pc0 := 62) (pc' := 66) rfl (hb hby at_62) (by decide) (by decide) k') ?_
          show Go p e below s _ _ _ (T52.setTop (mkF m 66 #[.val (.int kk), .val (.int vv), .val (.int (4 : Int32)), .val (.ref a_OFFSET_COMMIT), .val (.int (vv.toInt16.toInt32)), .val (.int (2 : Int32)), .val (.int (7 : Int32)), .val (.int (0 : Int32))] [(.int (1 : Int32))]))
          refine Go.retB X52 hx hlk (t := .boolean) Bd.returns (by simp) (hb hby at_66) (by decide) (by decide) eq52 ?_
          exact ⟨rfl, N52, trivial⟩
        · refine Go.st (fun _ k' => XS.icmpYes X52.here hx rfl (pc0 := 58) (pc' := 65) rfl (hb hby at_58) rfl (XT.ii_ne_t hc53) (by decide) (by decide) k') ?_
          show Go p e below s _ _ _ (T52.setTop (mkF m 65 #[.val (.int kk), .val (.int vv), .val (.int (4 : Int32)), .val (.ref a_OFFSET_COMMIT), .val (.int (vv.toInt16.toInt32)), .val (.int (2 : Int32)), .val (.int (7 : Int32)), .val (.int (0 : Int32))] []))
          refine Go.st (fun _ k' => XS.iconst X52.here hx rfl (hb hby at_65) k') ?_
          show Go p e below s _ _ _ (T52.setTop (mkF m 66 #[.val (.int kk), .val (.int vv), .val (.int (4 : Int32)), .val (.ref a_OFFSET_COMMIT), .val (.int (vv.toInt16.toInt32)), .val (.int (2 : Int32)), .val (.int (7 : Int32)), .val (.int (0 : Int32))] [(.int (0 : Int32))]))
          refine Go.retB X52 hx hlk (t := .boolean) Bd.returns (by simp) (hb hby at_66) (by decide) (by decide) eq52 ?_
          exact absurd (by simp [hc48, hc51]) hc53
      · refine Go.st (fun _ k' => XS.icmpNo X47.here hx rfl (hb hby at_40) rfl (XT.ii_gt_f hc51) k') ?_
        show Go p e below s _ _ _ (T47.setTop (mkF m 43 #[.val (.int kk), .val (.int vv), .val (.int (4 : Int32)), .val (.ref a_OFFSET_COMMIT), .val (.int (vv.toInt16.toInt32)), .val (.int (2 : Int32)), .val (.int (7 : Int32)), .unset] []))
        refine Go.st (fun _ k' => XS.iconst X47.here hx rfl (hb hby at_43) k') ?_
        show Go p e below s _ _ _ (T47.setTop (mkF m 44 #[.val (.int kk), .val (.int vv), .val (.int (4 : Int32)), .val (.ref a_OFFSET_COMMIT), .val (.int (vv.toInt16.toInt32)), .val (.int (2 : Int32)), .val (.int (7 : Int32)), .unset] [(.int (1 : Int32))]))
        refine Go.st (fun _ k' => XS.goto X47.here hx rfl (pc0 := 44) (pc' := 48) rfl (hb hby at_44) (by decide) (by decide) k') ?_
        show Go p e below s _ _ _ (T47.setTop (mkF m 48 #[.val (.int kk), .val (.int vv), .val (.int (4 : Int32)), .val (.ref a_OFFSET_COMMIT), .val (.int (vv.toInt16.toInt32)), .val (.int (2 : Int32)), .val (.int (7 : Int32)), .unset] [(.int (1 : Int32))]))
        refine Go.st (fun _ k' => XS.istore X47.here hx rfl (hb hby at_48) rfl (l' := #[.val (.int kk), .val (.int vv), .val (.int (4 : Int32)), .val (.ref a_OFFSET_COMMIT), .val (.int (vv.toInt16.toInt32)), .val (.int (2 : Int32)), .val (.int (7 : Int32)), .val (.int (1 : Int32))]) rfl k') ?_
        show Go p e below s _ _ _ (T47.setTop (mkF m 50 #[.val (.int kk), .val (.int vv), .val (.int (4 : Int32)), .val (.ref a_OFFSET_COMMIT), .val (.int (vv.toInt16.toInt32)), .val (.int (2 : Int32)), .val (.int (7 : Int32)), .val (.int (1 : Int32))] []))
        refine Go.st (fun _ k' => XS.aloadN X47.here hx rfl (hb hby at_50) rfl rfl k') ?_
        show Go p e below s _ _ _ (T47.setTop (mkF m 51 #[.val (.int kk), .val (.int vv), .val (.int (4 : Int32)), .val (.ref a_OFFSET_COMMIT), .val (.int (vv.toInt16.toInt32)), .val (.int (2 : Int32)), .val (.int (7 : Int32)), .val (.int (1 : Int32))] [(.ref a_OFFSET_COMMIT)]))
        refine Go.st (fun _ k' => XS.iload X47.here hx rfl (hb hby at_51) rfl k') ?_
        show Go p e below s _ _ _ (T47.setTop (mkF m 53 #[.val (.int kk), .val (.int vv), .val (.int (4 : Int32)), .val (.ref a_OFFSET_COMMIT), .val (.int (vv.toInt16.toInt32)), .val (.int (2 : Int32)), .val (.int (7 : Int32)), .val (.int (1 : Int32))] [(.int (vv.toInt16.toInt32)), (.ref a_OFFSET_COMMIT)]))
        obtain ⟨cq54, kq54, q54a, q54b, q54c⟩ := isOf hZ eq47 E_OFFSET_COMMIT
        obtain ⟨_, _, ⟨T54, L54, k54, n54⟩, -, X54, ⟨Lc54, hQ54, l54, y54, z54⟩, st54⟩ := X47.virtualBack hx (y := (⟨"com/example/tenure_of_partitions/tenureofpartitions/ApiKey", "serves", "(S)Z"⟩ : MethodName)) (z := (⟨"com/example/tenure_of_partitions/tenureofpartitions/ApiKey", "serves", "(S)Z"⟩ : MethodName)) hown (mvT hZ (wdx hw 14 rfl)) (mvT hZ (wdx hw 15 rfl)) (notFace_of_selects (args := #[]) (mvT hZ (wdx hw 17 rfl))) (mvT hZ (wdx hw 17 rfl)) (mvT hZ (wdx hw 16 rfl)) (by decide) (backOf (W := 0) (rm4 l Z a0 hw [] a_OFFSET_COMMIT (vv.toInt16.toInt32) (2 : Int32) (7 : Int32) h0 n0 O0 F_OFFSET_COMMIT_minVersion F_OFFSET_COMMIT_maxVersion) hZ (wdx hw 18 rfl) (wdx hw 6 rfl) (by decide) (by decide)) q54a q54c (g := (mkF m 53 #[.val (.int kk), .val (.int vv), .val (.int (4 : Int32)), .val (.ref a_OFFSET_COMMIT), .val (.int (vv.toInt16.toInt32)), .val (.int (2 : Int32)), .val (.int (7 : Int32)), .val (.int (1 : Int32))] [(.int (vv.toInt16.toInt32)), (.ref a_OFFSET_COMMIT)])) rfl (by rw [hml]; rfl) (Steps.refl _) (argsL := [(.int (vv.toInt16.toInt32))]) (rest := []) (lenOf pd__S_Z rfl) rfl (by show 2 * 0 + _ ≤ _; exact Nat.le_of_eq rfl) (hb hby at_53) (fun _ _ => ⟨rfl, eq47, (by exact Nat.le_of_ble_eq_true rfl), (by exact Nat.le_of_ble_eq_true rfl)⟩)
        dsimp only [Pt.U, Pt.locs, Pt.cells, Pt.slots] at X54 l54 y54 z54 st54 hQ54
        subst l54 y54 z54
        obtain ⟨rfl, Nq54, eq54⟩ := hQ54
        have N54 := Fr.app N47 Nq54
        refine Go.tr st54 ?_
        show Go p e below s _ _ _ (T54.setTop (mkF m 56 #[.val (.int kk), .val (.int vv), .val (.int (4 : Int32)), .val (.ref a_OFFSET_COMMIT), .val (.int (vv.toInt16.toInt32)), .val (.int (2 : Int32)), .val (.int (7 : Int32)), .val (.int (1 : Int32))] [(.int (if (vv.toInt16.toInt32) < (2 : Int32) then (0 : Int32) else if (7 : Int32) < (vv.toInt16.toInt32) then 0 else 1))]))
        refine Go.st (fun _ k' => XS.iload X54.here hx rfl (hb hby at_56) rfl k') ?_
        show Go p e below s _ _ _ (T54.setTop (mkF m 58 #[.val (.int kk), .val (.int vv), .val (.int (4 : Int32)), .val (.ref a_OFFSET_COMMIT), .val (.int (vv.toInt16.toInt32)), .val (.int (2 : Int32)), .val (.int (7 : Int32)), .val (.int (1 : Int32))] [(.int (1 : Int32)), (.int (if (vv.toInt16.toInt32) < (2 : Int32) then (0 : Int32) else if (7 : Int32) < (vv.toInt16.toInt32) then 0 else 1))]))
        by_cases hc55 : (if (vv.toInt16.toInt32) < (2 : Int32) then (0 : Int32) else if (7 : Int32) < (vv.toInt16.toInt32) then 0 else 1) = (1 : Int32)
        · refine Go.st (fun _ k' => XS.icmpNo X54.here hx rfl (hb hby at_58) rfl (XT.ii_ne_f hc55) k') ?_
          show Go p e below s _ _ _ (T54.setTop (mkF m 61 #[.val (.int kk), .val (.int vv), .val (.int (4 : Int32)), .val (.ref a_OFFSET_COMMIT), .val (.int (vv.toInt16.toInt32)), .val (.int (2 : Int32)), .val (.int (7 : Int32)), .val (.int (1 : Int32))] []))
          refine Go.st (fun _ k' => XS.iconst X54.here hx rfl (hb hby at_61) k') ?_
          show Go p e below s _ _ _ (T54.setTop (mkF m 62 #[.val (.int kk), .val (.int vv), .val (.int (4 : Int32)), .val (.ref a_OFFSET_COMMIT), .val (.int (vv.toInt16.toInt32)), .val (.int (2 : Int32)), .val (.int (7 : Int32)), .val (.int (1 : Int32))] [(.int (1 : Int32))]))
          refine Go.st (fun _ k' => XS.goto X54.here hx rfl (pc0 := 62) (pc' := 66) rfl (hb hby at_62) (by decide) (by decide) k') ?_
          show Go p e below s _ _ _ (T54.setTop (mkF m 66 #[.val (.int kk), .val (.int vv), .val (.int (4 : Int32)), .val (.ref a_OFFSET_COMMIT), .val (.int (vv.toInt16.toInt32)), .val (.int (2 : Int32)), .val (.int (7 : Int32)), .val (.int (1 : Int32))] [(.int (1 : Int32))]))
          refine Go.retB X54 hx hlk (t := .boolean) Bd.returns (by simp) (hb hby at_66) (by decide) (by decide) eq54 ?_
          exact ⟨rfl, N54, trivial⟩
        · refine Go.st (fun _ k' => XS.icmpYes X54.here hx rfl (pc0 := 58) (pc' := 65) rfl (hb hby at_58) rfl (XT.ii_ne_t hc55) (by decide) (by decide) k') ?_
          show Go p e below s _ _ _ (T54.setTop (mkF m 65 #[.val (.int kk), .val (.int vv), .val (.int (4 : Int32)), .val (.ref a_OFFSET_COMMIT), .val (.int (vv.toInt16.toInt32)), .val (.int (2 : Int32)), .val (.int (7 : Int32)), .val (.int (1 : Int32))] []))
          refine Go.st (fun _ k' => XS.iconst X54.here hx rfl (hb hby at_65) k') ?_
          show Go p e below s _ _ _ (T54.setTop (mkF m 66 #[.val (.int kk), .val (.int vv), .val (.int (4 : Int32)), .val (.ref a_OFFSET_COMMIT), .val (.int (vv.toInt16.toInt32)), .val (.int (2 : Int32)), .val (.int (7 : Int32)), .val (.int (1 : Int32))] [(.int (0 : Int32))]))
          refine Go.retB X54 hx hlk (t := .boolean) Bd.returns (by simp) (hb hby at_66) (by decide) (by decide) eq54 ?_
          exact absurd (by simp [hc48, hc51]) hc55
  · rw [hi]
    show Go p e below s _ _ _ (s₁.setTop (mkF m 8 #[.val (.int kk), .val (.int vv), .val (.int (5 : Int32)), .unset, .unset, .unset, .unset, .unset] []))
    refine Go.st (fun _ k' => XS.iloadN X0.here hx rfl (hb hby at_8) rfl k') ?_
    show Go p e below s _ _ _ (s₁.setTop (mkF m 9 #[.val (.int kk), .val (.int vv), .val (.int (5 : Int32)), .unset, .unset, .unset, .unset, .unset] [(.int (5 : Int32))]))
    obtain ⟨_, _, ⟨T56, L56, k56, n56⟩, -, X56, ⟨Lc56, hQ56, l56, y56, z56⟩, st56⟩ := Jvm.LawKit.callS X0 hx (y := (⟨"com/example/tenure_of_partitions/tenureofpartitions/ApiKeyServesPinLaw", "pick", "(I)Lcom/example/tenure_of_partitions/tenureofpartitions/ApiKey;"⟩ : MethodName)) hown (mvT hZ (wdx hw 1 rfl)) (mvT hZ (wdx hw 2 rfl)) (mvT hZ (wdx hw 3 rfl)) (mvT hZ (wdx hw 4 rfl)) (by decide) (backOf (W := 0) (rm1 l Z a0 hw [] (5 : Int32) a_PRODUCE a_FETCH a_LIST_OFFSETS a_METADATA a_OFFSET_COMMIT a_OFFSET_FETCH a_FIND_COORDINATOR a_JOIN_GROUP a_HEARTBEAT a_LEAVE_GROUP a_SYNC_GROUP a_DESCRIBE_GROUPS a_LIST_GROUPS a_API_VERSIONS h0 n0 O0 S_PRODUCE S_FETCH S_LIST_OFFSETS S_METADATA S_OFFSET_COMMIT S_OFFSET_FETCH S_FIND_COORDINATOR S_JOIN_GROUP S_HEARTBEAT S_LEAVE_GROUP S_SYNC_GROUP S_DESCRIBE_GROUPS S_LIST_GROUPS S_API_VERSIONS) hZ (wdx hw 4 rfl) (wdx hw 3 rfl) (by decide) (by decide)) (g := (mkF m 9 #[.val (.int kk), .val (.int vv), .val (.int (5 : Int32)), .unset, .unset, .unset, .unset, .unset] [(.int (5 : Int32))])) rfl (by rw [hml]; rfl) (argsL := [(.int (5 : Int32))]) (rest := []) (lenOf pd__I_Lcom_example_tenure_of_partitions_tenureofpartitions_ApiKey_ rfl) rfl (by show 2 * 0 + _ ≤ _; exact Nat.le_of_eq rfl) (hb hby at_9) (fun _ _ => ⟨rfl, e0, (by exact Nat.le_of_ble_eq_true rfl), (by exact Nat.le_of_ble_eq_true rfl)⟩)
    dsimp only [Pt.U, Pt.locs, Pt.cells, Pt.slots] at X56 l56 y56 z56 st56 hQ56
    subst l56 y56 z56
    obtain ⟨rfl, Nq56, eq56⟩ := hQ56
    have N56 := Fr.app N0 Nq56
    refine Go.st st56 ?_
    show Go p e below s _ _ _ (T56.setTop (mkF m 12 #[.val (.int kk), .val (.int vv), .val (.int (5 : Int32)), .unset, .unset, .unset, .unset, .unset] [(.ref (fpick (5 : Int32) a_PRODUCE a_FETCH a_LIST_OFFSETS a_METADATA a_OFFSET_COMMIT a_OFFSET_FETCH a_FIND_COORDINATOR a_JOIN_GROUP a_HEARTBEAT a_LEAVE_GROUP a_SYNC_GROUP a_DESCRIBE_GROUPS a_LIST_GROUPS a_API_VERSIONS))]))
    show Go p e below s _ _ _ (T56.setTop (mkF m 12 #[.val (.int kk), .val (.int vv), .val (.int (5 : Int32)), .unset, .unset, .unset, .unset, .unset] [(.ref a_OFFSET_FETCH)]))
    refine Go.st (fun _ k' => XS.astoreN X56.here hx rfl (hb hby at_12) rfl rfl (l' := #[.val (.int kk), .val (.int vv), .val (.int (5 : Int32)), .val (.ref a_OFFSET_FETCH), .unset, .unset, .unset, .unset]) rfl k') ?_
    show Go p e below s _ _ _ (T56.setTop (mkF m 13 #[.val (.int kk), .val (.int vv), .val (.int (5 : Int32)), .val (.ref a_OFFSET_FETCH), .unset, .unset, .unset, .unset] []))
    refine Go.st (fun _ k' => XS.iloadN X56.here hx rfl (hb hby at_13) rfl k') ?_
    show Go p e below s _ _ _ (T56.setTop (mkF m 14 #[.val (.int kk), .val (.int vv), .val (.int (5 : Int32)), .val (.ref a_OFFSET_FETCH), .unset, .unset, .unset, .unset] [(.int vv)]))
    refine Go.st (fun _ k' => XS.i2s X56.here hx rfl (hb hby at_14) rfl k') ?_
    show Go p e below s _ _ _ (T56.setTop (mkF m 15 #[.val (.int kk), .val (.int vv), .val (.int (5 : Int32)), .val (.ref a_OFFSET_FETCH), .unset, .unset, .unset, .unset] [(.int (vv.toInt16.toInt32))]))
    refine Go.st (fun _ k' => XS.istore X56.here hx rfl (hb hby at_15) rfl (l' := #[.val (.int kk), .val (.int vv), .val (.int (5 : Int32)), .val (.ref a_OFFSET_FETCH), .val (.int (vv.toInt16.toInt32)), .unset, .unset, .unset]) rfl k') ?_
    show Go p e below s _ _ _ (T56.setTop (mkF m 17 #[.val (.int kk), .val (.int vv), .val (.int (5 : Int32)), .val (.ref a_OFFSET_FETCH), .val (.int (vv.toInt16.toInt32)), .unset, .unset, .unset] []))
    refine Go.st (fun _ k' => XS.iloadN X56.here hx rfl (hb hby at_17) rfl k') ?_
    show Go p e below s _ _ _ (T56.setTop (mkF m 18 #[.val (.int kk), .val (.int vv), .val (.int (5 : Int32)), .val (.ref a_OFFSET_FETCH), .val (.int (vv.toInt16.toInt32)), .unset, .unset, .unset] [(.int (5 : Int32))]))
    obtain ⟨_, _, ⟨T57, L57, k57, n57⟩, -, X57, ⟨Lc57, hQ57, l57, y57, z57⟩, st57⟩ := Jvm.LawKit.callS X56 hx (y := (⟨"com/example/tenure_of_partitions/tenureofpartitions/ApiKeyServesPinLaw", "lo", "(I)I"⟩ : MethodName)) hown (mvT hZ (wdx hw 8 rfl)) (mvT hZ (wdx hw 9 rfl)) (mvT hZ (wdx hw 3 rfl)) (mvT hZ (wdx hw 10 rfl)) (by decide) (backOf (W := 0) (rm2 l Z a0 hw [] (5 : Int32) h0 n0 O0 ) hZ (wdx hw 10 rfl) (wdx hw 3 rfl) (by decide) (by decide)) (g := (mkF m 18 #[.val (.int kk), .val (.int vv), .val (.int (5 : Int32)), .val (.ref a_OFFSET_FETCH), .val (.int (vv.toInt16.toInt32)), .unset, .unset, .unset] [(.int (5 : Int32))])) rfl (by rw [hml]; rfl) (argsL := [(.int (5 : Int32))]) (rest := []) (lenOf pd__I_I rfl) rfl (by show 2 * 0 + _ ≤ _; exact Nat.le_of_eq rfl) (hb hby at_18) (fun _ _ => ⟨rfl, eq56, (by exact Nat.le_of_ble_eq_true rfl), (by exact Nat.le_of_ble_eq_true rfl)⟩)
    dsimp only [Pt.U, Pt.locs, Pt.cells, Pt.slots] at X57 l57 y57 z57 st57 hQ57
    subst l57 y57 z57
    obtain ⟨rfl, Nq57, eq57⟩ := hQ57
    have N57 := Fr.app N56 Nq57
    refine Go.st st57 ?_
    show Go p e below s _ _ _ (T57.setTop (mkF m 21 #[.val (.int kk), .val (.int vv), .val (.int (5 : Int32)), .val (.ref a_OFFSET_FETCH), .val (.int (vv.toInt16.toInt32)), .unset, .unset, .unset] [(.int (flo (5 : Int32)))]))
    show Go p e below s _ _ _ (T57.setTop (mkF m 21 #[.val (.int kk), .val (.int vv), .val (.int (5 : Int32)), .val (.ref a_OFFSET_FETCH), .val (.int (vv.toInt16.toInt32)), .unset, .unset, .unset] [(.int (1 : Int32))]))
    refine Go.st (fun _ k' => XS.istore X57.here hx rfl (hb hby at_21) rfl (l' := #[.val (.int kk), .val (.int vv), .val (.int (5 : Int32)), .val (.ref a_OFFSET_FETCH), .val (.int (vv.toInt16.toInt32)), .val (.int (1 : Int32)), .unset, .unset]) rfl k') ?_
    show Go p e below s _ _ _ (T57.setTop (mkF m 23 #[.val (.int kk), .val (.int vv), .val (.int (5 : Int32)), .val (.ref a_OFFSET_FETCH), .val (.int (vv.toInt16.toInt32)), .val (.int (1 : Int32)), .unset, .unset] []))
    refine Go.st (fun _ k' => XS.iloadN X57.here hx rfl (hb hby at_23) rfl k') ?_
    show Go p e below s _ _ _ (T57.setTop (mkF m 24 #[.val (.int kk), .val (.int vv), .val (.int (5 : Int32)), .val (.ref a_OFFSET_FETCH), .val (.int (vv.toInt16.toInt32)), .val (.int (1 : Int32)), .unset, .unset] [(.int (5 : Int32))]))
    obtain ⟨_, _, ⟨T58, L58, k58, n58⟩, -, X58, ⟨Lc58, hQ58, l58, y58, z58⟩, st58⟩ := Jvm.LawKit.callS X57 hx (y := (⟨"com/example/tenure_of_partitions/tenureofpartitions/ApiKeyServesPinLaw", "hi", "(I)I"⟩ : MethodName)) hown (mvT hZ (wdx hw 11 rfl)) (mvT hZ (wdx hw 12 rfl)) (mvT hZ (wdx hw 3 rfl)) (mvT hZ (wdx hw 13 rfl)) (by decide) (backOf (W := 0) (rm3 l Z a0 hw [] (5 : Int32) h0 n0 O0 ) hZ (wdx hw 13 rfl) (wdx hw 3 rfl) (by decide) (by decide)) (g := (mkF m 24 #[.val (.int kk), .val (.int vv), .val (.int (5 : Int32)), .val (.ref a_OFFSET_FETCH), .val (.int (vv.toInt16.toInt32)), .val (.int (1 : Int32)), .unset, .unset] [(.int (5 : Int32))])) rfl (by rw [hml]; rfl) (argsL := [(.int (5 : Int32))]) (rest := []) (lenOf pd__I_I rfl) rfl (by show 2 * 0 + _ ≤ _; exact Nat.le_of_eq rfl) (hb hby at_24) (fun _ _ => ⟨rfl, eq57, (by exact Nat.le_of_ble_eq_true rfl), (by exact Nat.le_of_ble_eq_true rfl)⟩)
    dsimp only [Pt.U, Pt.locs, Pt.cells, Pt.slots] at X58 l58 y58 z58 st58 hQ58
    subst l58 y58 z58
    obtain ⟨rfl, Nq58, eq58⟩ := hQ58
    have N58 := Fr.app N57 Nq58
    refine Go.st st58 ?_
    show Go p e below s _ _ _ (T58.setTop (mkF m 27 #[.val (.int kk), .val (.int vv), .val (.int (5 : Int32)), .val (.ref a_OFFSET_FETCH), .val (.int (vv.toInt16.toInt32)), .val (.int (1 : Int32)), .unset, .unset] [(.int (fhi (5 : Int32)))]))
    show Go p e below s _ _ _ (T58.setTop (mkF m 27 #[.val (.int kk), .val (.int vv), .val (.int (5 : Int32)), .val (.ref a_OFFSET_FETCH), .val (.int (vv.toInt16.toInt32)), .val (.int (1 : Int32)), .unset, .unset] [(.int (7 : Int32))]))
    refine Go.st (fun _ k' => XS.istore X58.here hx rfl (hb hby at_27) rfl (l' := #[.val (.int kk), .val (.int vv), .val (.int (5 : Int32)), .val (.ref a_OFFSET_FETCH), .val (.int (vv.toInt16.toInt32)), .val (.int (1 : Int32)), .val (.int (7 : Int32)), .unset]) rfl k') ?_
    show Go p e below s _ _ _ (T58.setTop (mkF m 29 #[.val (.int kk), .val (.int vv), .val (.int (5 : Int32)), .val (.ref a_OFFSET_FETCH), .val (.int (vv.toInt16.toInt32)), .val (.int (1 : Int32)), .val (.int (7 : Int32)), .unset] []))
    refine Go.st (fun _ k' => XS.iload X58.here hx rfl (hb hby at_29) rfl k') ?_
    show Go p e below s _ _ _ (T58.setTop (mkF m 31 #[.val (.int kk), .val (.int vv), .val (.int (5 : Int32)), .val (.ref a_OFFSET_FETCH), .val (.int (vv.toInt16.toInt32)), .val (.int (1 : Int32)), .val (.int (7 : Int32)), .unset] [(.int (vv.toInt16.toInt32))]))
    refine Go.st (fun _ k' => XS.iload X58.here hx rfl (hb hby at_31) rfl k') ?_
    show Go p e below s _ _ _ (T58.setTop (mkF m 33 #[.val (.int kk), .val (.int vv), .val (.int (5 : Int32)), .val (.ref a_OFFSET_FETCH), .val (.int (vv.toInt16.toInt32)), .val (.int (1 : Int32)), .val (.int (7 : Int32)), .unset] [(.int (1 : Int32)), (.int (vv.toInt16.toInt32))]))
    by_cases hc59 : (vv.toInt16.toInt32) < (1 : Int32)
    · refine Go.st (fun _ k' => XS.icmpYes X58.here hx rfl (pc0 := 33) (pc' := 47) rfl (hb hby at_33) rfl (XT.ii_lt_t hc59) (by decide) (by decide) k') ?_
      show Go p e below s _ _ _ (T58.setTop (mkF m 47 #[.val (.int kk), .val (.int vv), .val (.int (5 : Int32)), .val (.ref a_OFFSET_FETCH), .val (.int (vv.toInt16.toInt32)), .val (.int (1 : Int32)), .val (.int (7 : Int32)), .unset] []))
      refine Go.st (fun _ k' => XS.iconst X58.here hx rfl (hb hby at_47) k') ?_
      show Go p e below s _ _ _ (T58.setTop (mkF m 48 #[.val (.int kk), .val (.int vv), .val (.int (5 : Int32)), .val (.ref a_OFFSET_FETCH), .val (.int (vv.toInt16.toInt32)), .val (.int (1 : Int32)), .val (.int (7 : Int32)), .unset] [(.int (0 : Int32))]))
      refine Go.st (fun _ k' => XS.istore X58.here hx rfl (hb hby at_48) rfl (l' := #[.val (.int kk), .val (.int vv), .val (.int (5 : Int32)), .val (.ref a_OFFSET_FETCH), .val (.int (vv.toInt16.toInt32)), .val (.int (1 : Int32)), .val (.int (7 : Int32)), .val (.int (0 : Int32))]) rfl k') ?_
      show Go p e below s _ _ _ (T58.setTop (mkF m 50 #[.val (.int kk), .val (.int vv), .val (.int (5 : Int32)), .val (.ref a_OFFSET_FETCH), .val (.int (vv.toInt16.toInt32)), .val (.int (1 : Int32)), .val (.int (7 : Int32)), .val (.int (0 : Int32))] []))
      refine Go.st (fun _ k' => XS.aloadN X58.here hx rfl (hb hby at_50) rfl rfl k') ?_
      show Go p e below s _ _ _ (T58.setTop (mkF m 51 #[.val (.int kk), .val (.int vv), .val (.int (5 : Int32)), .val (.ref a_OFFSET_FETCH), .val (.int (vv.toInt16.toInt32)), .val (.int (1 : Int32)), .val (.int (7 : Int32)), .val (.int (0 : Int32))] [(.ref a_OFFSET_FETCH)]))
      refine Go.st (fun _ k' => XS.iload X58.here hx rfl (hb hby at_51) rfl k') ?_
      show Go p e below s _ _ _ (T58.setTop (mkF m 53 #[.val (.int kk), .val (.int vv), .val (.int (5 : Int32)), .val (.ref a_OFFSET_FETCH), .val (.int (vv.toInt16.toInt32)), .val (.int (1 : Int32)), .val (.int (7 : Int32)), .val (.int (0 : Int32))] [(.int (vv.toInt16.toInt32)), (.ref a_OFFSET_FETCH)]))
      obtain ⟨cq60, kq60, q60a, q60b, q60c⟩ := isOf hZ eq58 E_OFFSET_FETCH
      obtain ⟨_, _, ⟨T60, L60, k60, n60⟩, -, X60, ⟨Lc60, hQ60, l60, y60, z60⟩, st60⟩ := X58.virtualBack hx (y := (⟨"com/example/tenure_of_partitions/tenureofpartitions/ApiKey", "serves", "(S)Z"⟩ : MethodName)) (z := (⟨"com/example/tenure_of_partitions/tenureofpartitions/ApiKey", "serves", "(S)Z"⟩ : MethodName)) hown (mvT hZ (wdx hw 14 rfl)) (mvT hZ (wdx hw 15 rfl)) (notFace_of_selects (args := #[]) (mvT hZ (wdx hw 17 rfl))) (mvT hZ (wdx hw 17 rfl)) (mvT hZ (wdx hw 16 rfl)) (by decide) (backOf (W := 0) (rm4 l Z a0 hw [] a_OFFSET_FETCH (vv.toInt16.toInt32) (1 : Int32) (7 : Int32) h0 n0 O0 F_OFFSET_FETCH_minVersion F_OFFSET_FETCH_maxVersion) hZ (wdx hw 18 rfl) (wdx hw 6 rfl) (by decide) (by decide)) q60a q60c (g := (mkF m 53 #[.val (.int kk), .val (.int vv), .val (.int (5 : Int32)), .val (.ref a_OFFSET_FETCH), .val (.int (vv.toInt16.toInt32)), .val (.int (1 : Int32)), .val (.int (7 : Int32)), .val (.int (0 : Int32))] [(.int (vv.toInt16.toInt32)), (.ref a_OFFSET_FETCH)])) rfl (by rw [hml]; rfl) (Steps.refl _) (argsL := [(.int (vv.toInt16.toInt32))]) (rest := []) (lenOf pd__S_Z rfl) rfl (by show 2 * 0 + _ ≤ _; exact Nat.le_of_eq rfl) (hb hby at_53) (fun _ _ => ⟨rfl, eq58, (by exact Nat.le_of_ble_eq_true rfl), (by exact Nat.le_of_ble_eq_true rfl)⟩)
      dsimp only [Pt.U, Pt.locs, Pt.cells, Pt.slots] at X60 l60 y60 z60 st60 hQ60
      subst l60 y60 z60
      obtain ⟨rfl, Nq60, eq60⟩ := hQ60
      have N60 := Fr.app N58 Nq60
      refine Go.tr st60 ?_
      show Go p e below s _ _ _ (T60.setTop (mkF m 56 #[.val (.int kk), .val (.int vv), .val (.int (5 : Int32)), .val (.ref a_OFFSET_FETCH), .val (.int (vv.toInt16.toInt32)), .val (.int (1 : Int32)), .val (.int (7 : Int32)), .val (.int (0 : Int32))] [(.int (if (vv.toInt16.toInt32) < (1 : Int32) then (0 : Int32) else if (7 : Int32) < (vv.toInt16.toInt32) then 0 else 1))]))
      refine Go.st (fun _ k' => XS.iload X60.here hx rfl (hb hby at_56) rfl k') ?_
      show Go p e below s _ _ _ (T60.setTop (mkF m 58 #[.val (.int kk), .val (.int vv), .val (.int (5 : Int32)), .val (.ref a_OFFSET_FETCH), .val (.int (vv.toInt16.toInt32)), .val (.int (1 : Int32)), .val (.int (7 : Int32)), .val (.int (0 : Int32))] [(.int (0 : Int32)), (.int (if (vv.toInt16.toInt32) < (1 : Int32) then (0 : Int32) else if (7 : Int32) < (vv.toInt16.toInt32) then 0 else 1))]))
      by_cases hc61 : (if (vv.toInt16.toInt32) < (1 : Int32) then (0 : Int32) else if (7 : Int32) < (vv.toInt16.toInt32) then 0 else 1) = (0 : Int32)
      · refine Go.st (fun _ k' => XS.icmpNo X60.here hx rfl (hb hby at_58) rfl (XT.ii_ne_f hc61) k') ?_
        show Go p e below s _ _ _ (T60.setTop (mkF m 61 #[.val (.int kk), .val (.int vv), .val (.int (5 : Int32)), .val (.ref a_OFFSET_FETCH), .val (.int (vv.toInt16.toInt32)), .val (.int (1 : Int32)), .val (.int (7 : Int32)), .val (.int (0 : Int32))] []))
        refine Go.st (fun _ k' => XS.iconst X60.here hx rfl (hb hby at_61) k') ?_
        show Go p e below s _ _ _ (T60.setTop (mkF m 62 #[.val (.int kk), .val (.int vv), .val (.int (5 : Int32)), .val (.ref a_OFFSET_FETCH), .val (.int (vv.toInt16.toInt32)), .val (.int (1 : Int32)), .val (.int (7 : Int32)), .val (.int (0 : Int32))] [(.int (1 : Int32))]))
        refine Go.st (fun _ k' => XS.goto X60.here hx rfl (pc0 := 62) (pc' := 66) rfl (hb hby at_62) (by decide) (by decide) k') ?_
        show Go p e below s _ _ _ (T60.setTop (mkF m 66 #[.val (.int kk), .val (.int vv), .val (.int (5 : Int32)), .val (.ref a_OFFSET_FETCH), .val (.int (vv.toInt16.toInt32)), .val (.int (1 : Int32)), .val (.int (7 : Int32)), .val (.int (0 : Int32))] [(.int (1 : Int32))]))
        refine Go.retB X60 hx hlk (t := .boolean) Bd.returns (by simp) (hb hby at_66) (by decide) (by decide) eq60 ?_
        exact ⟨rfl, N60, trivial⟩
      · refine Go.st (fun _ k' => XS.icmpYes X60.here hx rfl (pc0 := 58) (pc' := 65) rfl (hb hby at_58) rfl (XT.ii_ne_t hc61) (by decide) (by decide) k') ?_
        show Go p e below s _ _ _ (T60.setTop (mkF m 65 #[.val (.int kk), .val (.int vv), .val (.int (5 : Int32)), .val (.ref a_OFFSET_FETCH), .val (.int (vv.toInt16.toInt32)), .val (.int (1 : Int32)), .val (.int (7 : Int32)), .val (.int (0 : Int32))] []))
        refine Go.st (fun _ k' => XS.iconst X60.here hx rfl (hb hby at_65) k') ?_
        show Go p e below s _ _ _ (T60.setTop (mkF m 66 #[.val (.int kk), .val (.int vv), .val (.int (5 : Int32)), .val (.ref a_OFFSET_FETCH), .val (.int (vv.toInt16.toInt32)), .val (.int (1 : Int32)), .val (.int (7 : Int32)), .val (.int (0 : Int32))] [(.int (0 : Int32))]))
        refine Go.retB X60 hx hlk (t := .boolean) Bd.returns (by simp) (hb hby at_66) (by decide) (by decide) eq60 ?_
        exact absurd (by simp [hc59]) hc61
    · refine Go.st (fun _ k' => XS.icmpNo X58.here hx rfl (hb hby at_33) rfl (XT.ii_lt_f hc59) k') ?_
      show Go p e below s _ _ _ (T58.setTop (mkF m 36 #[.val (.int kk), .val (.int vv), .val (.int (5 : Int32)), .val (.ref a_OFFSET_FETCH), .val (.int (vv.toInt16.toInt32)), .val (.int (1 : Int32)), .val (.int (7 : Int32)), .unset] []))
      refine Go.st (fun _ k' => XS.iload X58.here hx rfl (hb hby at_36) rfl k') ?_
      show Go p e below s _ _ _ (T58.setTop (mkF m 38 #[.val (.int kk), .val (.int vv), .val (.int (5 : Int32)), .val (.ref a_OFFSET_FETCH), .val (.int (vv.toInt16.toInt32)), .val (.int (1 : Int32)), .val (.int (7 : Int32)), .unset] [(.int (vv.toInt16.toInt32))]))
      refine Go.st (fun _ k' => XS.iload X58.here hx rfl (hb hby at_38) rfl k') ?_
      show Go p e below s _ _ _ (T58.setTop (mkF m 40 #[.val (.int kk), .val (.int vv), .val (.int (5 : Int32)), .val (.ref a_OFFSET_FETCH), .val (.int (vv.toInt16.toInt32)), .val (.int (1 : Int32)), .val (.int (7 : Int32)), .unset] [(.int (7 : Int32)), (.int (vv.toInt16.toInt32))]))
      by_cases hc62 : (7 : Int32) < (vv.toInt16.toInt32)
      · refine Go.st (fun _ k' => XS.icmpYes X58.here hx rfl (pc0 := 40) (pc' := 47) rfl (hb hby at_40) rfl (XT.ii_gt_t hc62) (by decide) (by decide) k') ?_
        show Go p e below s _ _ _ (T58.setTop (mkF m 47 #[.val (.int kk), .val (.int vv), .val (.int (5 : Int32)), .val (.ref a_OFFSET_FETCH), .val (.int (vv.toInt16.toInt32)), .val (.int (1 : Int32)), .val (.int (7 : Int32)), .unset] []))
        refine Go.st (fun _ k' => XS.iconst X58.here hx rfl (hb hby at_47) k') ?_
        show Go p e below s _ _ _ (T58.setTop (mkF m 48 #[.val (.int kk), .val (.int vv), .val (.int (5 : Int32)), .val (.ref a_OFFSET_FETCH), .val (.int (vv.toInt16.toInt32)), .val (.int (1 : Int32)), .val (.int (7 : Int32)), .unset] [(.int (0 : Int32))]))
        refine Go.st (fun _ k' => XS.istore X58.here hx rfl (hb hby at_48) rfl (l' := #[.val (.int kk), .val (.int vv), .val (.int (5 : Int32)), .val (.ref a_OFFSET_FETCH), .val (.int (vv.toInt16.toInt32)), .val (.int (1 : Int32)), .val (.int (7 : Int32)), .val (.int (0 : Int32))]) rfl k') ?_
        show Go p e below s _ _ _ (T58.setTop (mkF m 50 #[.val (.int kk), .val (.int vv), .val (.int (5 : Int32)), .val (.ref a_OFFSET_FETCH), .val (.int (vv.toInt16.toInt32)), .val (.int (1 : Int32)), .val (.int (7 : Int32)), .val (.int (0 : Int32))] []))
        refine Go.st (fun _ k' => XS.aloadN X58.here hx rfl (hb hby at_50) rfl rfl k') ?_
        show Go p e below s _ _ _ (T58.setTop (mkF m 51 #[.val (.int kk), .val (.int vv), .val (.int (5 : Int32)), .val (.ref a_OFFSET_FETCH), .val (.int (vv.toInt16.toInt32)), .val (.int (1 : Int32)), .val (.int (7 : Int32)), .val (.int (0 : Int32))] [(.ref a_OFFSET_FETCH)]))
        refine Go.st (fun _ k' => XS.iload X58.here hx rfl (hb hby at_51) rfl k') ?_
        show Go p e below s _ _ _ (T58.setTop (mkF m 53 #[.val (.int kk), .val (.int vv), .val (.int (5 : Int32)), .val (.ref a_OFFSET_FETCH), .val (.int (vv.toInt16.toInt32)), .val (.int (1 : Int32)), .val (.int (7 : Int32)), .val (.int (0 : Int32))] [(.int (vv.toInt16.toInt32)), (.ref a_OFFSET_FETCH)]))
        obtain ⟨cq63, kq63, q63a, q63b, q63c⟩ := isOf hZ eq58 E_OFFSET_FETCH
        obtain ⟨_, _, ⟨T63, L63, k63, n63⟩, -, X63, ⟨Lc63, hQ63, l63, y63, z63⟩, st63⟩ := X58.virtualBack hx (y := (⟨"com/example/tenure_of_partitions/tenureofpartitions/ApiKey", "serves", "(S)Z"⟩ : MethodName)) (z := (⟨"com/example/tenure_of_partitions/tenureofpartitions/ApiKey", "serves", "(S)Z"⟩ : MethodName)) hown (mvT hZ (wdx hw 14 rfl)) (mvT hZ (wdx hw 15 rfl)) (notFace_of_selects (args := #[]) (mvT hZ (wdx hw 17 rfl))) (mvT hZ (wdx hw 17 rfl)) (mvT hZ (wdx hw 16 rfl)) (by decide) (backOf (W := 0) (rm4 l Z a0 hw [] a_OFFSET_FETCH (vv.toInt16.toInt32) (1 : Int32) (7 : Int32) h0 n0 O0 F_OFFSET_FETCH_minVersion F_OFFSET_FETCH_maxVersion) hZ (wdx hw 18 rfl) (wdx hw 6 rfl) (by decide) (by decide)) q63a q63c (g := (mkF m 53 #[.val (.int kk), .val (.int vv), .val (.int (5 : Int32)), .val (.ref a_OFFSET_FETCH), .val (.int (vv.toInt16.toInt32)), .val (.int (1 : Int32)), .val (.int (7 : Int32)), .val (.int (0 : Int32))] [(.int (vv.toInt16.toInt32)), (.ref a_OFFSET_FETCH)])) rfl (by rw [hml]; rfl) (Steps.refl _) (argsL := [(.int (vv.toInt16.toInt32))]) (rest := []) (lenOf pd__S_Z rfl) rfl (by show 2 * 0 + _ ≤ _; exact Nat.le_of_eq rfl) (hb hby at_53) (fun _ _ => ⟨rfl, eq58, (by exact Nat.le_of_ble_eq_true rfl), (by exact Nat.le_of_ble_eq_true rfl)⟩)
        dsimp only [Pt.U, Pt.locs, Pt.cells, Pt.slots] at X63 l63 y63 z63 st63 hQ63
        subst l63 y63 z63
        obtain ⟨rfl, Nq63, eq63⟩ := hQ63
        have N63 := Fr.app N58 Nq63
        refine Go.tr st63 ?_
        show Go p e below s _ _ _ (T63.setTop (mkF m 56 #[.val (.int kk), .val (.int vv), .val (.int (5 : Int32)), .val (.ref a_OFFSET_FETCH), .val (.int (vv.toInt16.toInt32)), .val (.int (1 : Int32)), .val (.int (7 : Int32)), .val (.int (0 : Int32))] [(.int (if (vv.toInt16.toInt32) < (1 : Int32) then (0 : Int32) else if (7 : Int32) < (vv.toInt16.toInt32) then 0 else 1))]))
        refine Go.st (fun _ k' => XS.iload X63.here hx rfl (hb hby at_56) rfl k') ?_
        show Go p e below s _ _ _ (T63.setTop (mkF m 58 #[.val (.int kk), .val (.int vv), .val (.int (5 : Int32)), .val (.ref a_OFFSET_FETCH), .val (.int (vv.toInt16.toInt32)), .val (.int (1 : Int32)), .val (.int (7 : Int32)), .val (.int (0 : Int32))] [(.int (0 : Int32)), (.int (if (vv.toInt16.toInt32) < (1 : Int32) then (0 : Int32) else if (7 : Int32) < (vv.toInt16.toInt32) then 0 else 1))]))
        by_cases hc64 : (if (vv.toInt16.toInt32) < (1 : Int32) then (0 : Int32) else if (7 : Int32) < (vv.toInt16.toInt32) then 0 else 1) = (0 : Int32)
        · refine Go.st (fun _ k' => XS.icmpNo X63.here hx rfl (hb hby at_58) rfl (XT.ii_ne_f hc64) k') ?_
          show Go p e below s _ _ _ (T63.setTop (mkF m 61 #[.val (.int kk), .val (.int vv), .val (.int (5 : Int32)), .val (.ref a_OFFSET_FETCH), .val (.int (vv.toInt16.toInt32)), .val (.int (1 : Int32)), .val (.int (7 : Int32)), .val (.int (0 : Int32))] []))
          refine Go.st (fun _ k' => XS.iconst X63.here hx rfl (hb hby at_61) k') ?_
          show Go p e below s _ _ _ (T63.setTop (mkF m 62 #[.val (.int kk), .val (.int vv), .val (.int (5 : Int32)), .val (.ref a_OFFSET_FETCH), .val (.int (vv.toInt16.toInt32)), .val (.int (1 : Int32)), .val (.int (7 : Int32)), .val (.int (0 : Int32))] [(.int (1 : Int32))]))
          refine Go.st (fun _ k' => XS.goto X63.here hx rfl (pc0 := 62) (pc' := 66) rfl (hb hby at_62) (by decide) (by decide) k') ?_
          show Go p e below s _ _ _ (T63.setTop (mkF m 66 #[.val (.int kk), .val (.int vv), .val (.int (5 : Int32)), .val (.ref a_OFFSET_FETCH), .val (.int (vv.toInt16.toInt32)), .val (.int (1 : Int32)), .val (.int (7 : Int32)), .val (.int (0 : Int32))] [(.int (1 : Int32))]))
          refine Go.retB X63 hx hlk (t := .boolean) Bd.returns (by simp) (hb hby at_66) (by decide) (by decide) eq63 ?_
          exact ⟨rfl, N63, trivial⟩
        · refine Go.st (fun _ k' => XS.icmpYes X63.here hx rfl (pc0 := 58) (pc' := 65) rfl (hb hby at_58) rfl (XT.ii_ne_t hc64) (by decide) (by decide) k') ?_
          show Go p e below s _ _ _ (T63.setTop (mkF m 65 #[.val (.int kk), .val (.int vv), .val (.int (5 : Int32)), .val (.ref a_OFFSET_FETCH), .val (.int (vv.toInt16.toInt32)), .val (.int (1 : Int32)), .val (.int (7 : Int32)), .val (.int (0 : Int32))] []))
          refine Go.st (fun _ k' => XS.iconst X63.here hx rfl (hb hby at_65) k') ?_
          show Go p e below s _ _ _ (T63.setTop (mkF m 66 #[.val (.int kk), .val (.int vv), .val (.int (5 : Int32)), .val (.ref a_OFFSET_FETCH), .val (.int (vv.toInt16.toInt32)), .val (.int (1 : Int32)), .val (.int (7 : Int32)), .val (.int (0 : Int32))] [(.int (0 : Int32))]))
          refine Go.retB X63 hx hlk (t := .boolean) Bd.returns (by simp) (hb hby at_66) (by decide) (by decide) eq63 ?_
          exact absurd (by simp [hc59, hc62]) hc64
      · refine Go.st (fun _ k' => XS.icmpNo X58.here hx rfl (hb hby at_40) rfl (XT.ii_gt_f hc62) k') ?_
        show Go p e below s _ _ _ (T58.setTop (mkF m 43 #[.val (.int kk), .val (.int vv), .val (.int (5 : Int32)), .val (.ref a_OFFSET_FETCH), .val (.int (vv.toInt16.toInt32)), .val (.int (1 : Int32)), .val (.int (7 : Int32)), .unset] []))
        refine Go.st (fun _ k' => XS.iconst X58.here hx rfl (hb hby at_43) k') ?_
        show Go p e below s _ _ _ (T58.setTop (mkF m 44 #[.val (.int kk), .val (.int vv), .val (.int (5 : Int32)), .val (.ref a_OFFSET_FETCH), .val (.int (vv.toInt16.toInt32)), .val (.int (1 : Int32)), .val (.int (7 : Int32)), .unset] [(.int (1 : Int32))]))
        refine Go.st (fun _ k' => XS.goto X58.here hx rfl (pc0 := 44) (pc' := 48) rfl (hb hby at_44) (by decide) (by decide) k') ?_
        show Go p e below s _ _ _ (T58.setTop (mkF m 48 #[.val (.int kk), .val (.int vv), .val (.int (5 : Int32)), .val (.ref a_OFFSET_FETCH), .val (.int (vv.toInt16.toInt32)), .val (.int (1 : Int32)), .val (.int (7 : Int32)), .unset] [(.int (1 : Int32))]))
        refine Go.st (fun _ k' => XS.istore X58.here hx rfl (hb hby at_48) rfl (l' := #[.val (.int kk), .val (.int vv), .val (.int (5 : Int32)), .val (.ref a_OFFSET_FETCH), .val (.int (vv.toInt16.toInt32)), .val (.int (1 : Int32)), .val (.int (7 : Int32)), .val (.int (1 : Int32))]) rfl k') ?_
        show Go p e below s _ _ _ (T58.setTop (mkF m 50 #[.val (.int kk), .val (.int vv), .val (.int (5 : Int32)), .val (.ref a_OFFSET_FETCH), .val (.int (vv.toInt16.toInt32)), .val (.int (1 : Int32)), .val (.int (7 : Int32)), .val (.int (1 : Int32))] []))
        refine Go.st (fun _ k' => XS.aloadN X58.here hx rfl (hb hby at_50) rfl rfl k') ?_
        show Go p e below s _ _ _ (T58.setTop (mkF m 51 #[.val (.int kk), .val (.int vv), .val (.int (5 : Int32)), .val (.ref a_OFFSET_FETCH), .val (.int (vv.toInt16.toInt32)), .val (.int (1 : Int32)), .val (.int (7 : Int32)), .val (.int (1 : Int32))] [(.ref a_OFFSET_FETCH)]))
        refine Go.st (fun _ k' => XS.iload X58.here hx rfl (hb hby at_51) rfl k') ?_
        show Go p e below s _ _ _ (T58.setTop (mkF m 53 #[.val (.int kk), .val (.int vv), .val (.int (5 : Int32)), .val (.ref a_OFFSET_FETCH), .val (.int (vv.toInt16.toInt32)), .val (.int (1 : Int32)), .val (.int (7 : Int32)), .val (.int (1 : Int32))] [(.int (vv.toInt16.toInt32)), (.ref a_OFFSET_FETCH)]))
        obtain ⟨cq65, kq65, q65a, q65b, q65c⟩ := isOf hZ eq58 E_OFFSET_FETCH
        obtain ⟨_, _, ⟨T65, L65, k65, n65⟩, -, X65, ⟨Lc65, hQ65, l65, y65, z65⟩, st65⟩ := X58.virtualBack hx (y := (⟨"com/example/tenure_of_partitions/tenureofpartitions/ApiKey", "serves", "(S)Z"⟩ : MethodName)) (z := (⟨"com/example/tenure_of_partitions/tenureofpartitions/ApiKey", "serves", "(S)Z"⟩ : MethodName)) hown (mvT hZ (wdx hw 14 rfl)) (mvT hZ (wdx hw 15 rfl)) (notFace_of_selects (args := #[]) (mvT hZ (wdx hw 17 rfl))) (mvT hZ (wdx hw 17 rfl)) (mvT hZ (wdx hw 16 rfl)) (by decide) (backOf (W := 0) (rm4 l Z a0 hw [] a_OFFSET_FETCH (vv.toInt16.toInt32) (1 : Int32) (7 : Int32) h0 n0 O0 F_OFFSET_FETCH_minVersion F_OFFSET_FETCH_maxVersion) hZ (wdx hw 18 rfl) (wdx hw 6 rfl) (by decide) (by decide)) q65a q65c (g := (mkF m 53 #[.val (.int kk), .val (.int vv), .val (.int (5 : Int32)), .val (.ref a_OFFSET_FETCH), .val (.int (vv.toInt16.toInt32)), .val (.int (1 : Int32)), .val (.int (7 : Int32)), .val (.int (1 : Int32))] [(.int (vv.toInt16.toInt32)), (.ref a_OFFSET_FETCH)])) rfl (by rw [hml]; rfl) (Steps.refl _) (argsL := [(.int (vv.toInt16.toInt32))]) (rest := []) (lenOf pd__S_Z rfl) rfl (by show 2 * 0 + _ ≤ _; exact Nat.le_of_eq rfl) (hb hby at_53) (fun _ _ => ⟨rfl, eq58, (by exact Nat.le_of_ble_eq_true rfl), (by exact Nat.le_of_ble_eq_true rfl)⟩)
        dsimp only [Pt.U, Pt.locs, Pt.cells, Pt.slots] at X65 l65 y65 z65 st65 hQ65
        subst l65 y65 z65
        obtain ⟨rfl, Nq65, eq65⟩ := hQ65
        have N65 := Fr.app N58 Nq65
        refine Go.tr st65 ?_
        show Go p e below s _ _ _ (T65.setTop (mkF m 56 #[.val (.int kk), .val (.int vv), .val (.int (5 : Int32)), .val (.ref a_OFFSET_FETCH), .val (.int (vv.toInt16.toInt32)), .val (.int (1 : Int32)), .val (.int (7 : Int32)), .val (.int (1 : Int32))] [(.int (if (vv.toInt16.toInt32) < (1 : Int32) then (0 : Int32) else if (7 : Int32) < (vv.toInt16.toInt32) then 0 else 1))]))
        refine Go.st (fun _ k' => XS.iload X65.here hx rfl (hb hby at_56) rfl k') ?_
        show Go p e below s _ _ _ (T65.setTop (mkF m 58 #[.val (.int kk), .val (.int vv), .val (.int (5 : Int32)), .val (.ref a_OFFSET_FETCH), .val (.int (vv.toInt16.toInt32)), .val (.int (1 : Int32)), .val (.int (7 : Int32)), .val (.int (1 : Int32))] [(.int (1 : Int32)), (.int (if (vv.toInt16.toInt32) < (1 : Int32) then (0 : Int32) else if (7 : Int32) < (vv.toInt16.toInt32) then 0 else 1))]))
        by_cases hc66 : (if (vv.toInt16.toInt32) < (1 : Int32) then (0 : Int32) else if (7 : Int32) < (vv.toInt16.toInt32) then 0 else 1) = (1 : Int32)
        · refine Go.st (fun _ k' => XS.icmpNo X65.here hx rfl (hb hby at_58) rfl (XT.ii_ne_f hc66) k') ?_
          show Go p e below s _ _ _ (T65.setTop (mkF m 61 #[.val (.int kk), .val (.int vv), .val (.int (5 : Int32)), .val (.ref a_OFFSET_FETCH), .val (.int (vv.toInt16.toInt32)), .val (.int (1 : Int32)), .val (.int (7 : Int32)), .val (.int (1 : Int32))] []))
          refine Go.st (fun _ k' => XS.iconst X65.here hx rfl (hb hby at_61) k') ?_
          show Go p e below s _ _ _ (T65.setTop (mkF m 62 #[.val (.int kk), .val (.int vv), .val (.int (5 : Int32)), .val (.ref a_OFFSET_FETCH), .val (.int (vv.toInt16.toInt32)), .val (.int (1 : Int32)), .val (.int (7 : Int32)), .val (.int (1 : Int32))] [(.int (1 : Int32))]))
          refine Go.st (fun _ k' => XS.goto X65.here hx rfl (pc0 := 62) (pc' := 66) rfl (hb hby at_62) (by decide) (by decide) k') ?_
          show Go p e below s _ _ _ (T65.setTop (mkF m 66 #[.val (.int kk), .val (.int vv), .val (.int (5 : Int32)), .val (.ref a_OFFSET_FETCH), .val (.int (vv.toInt16.toInt32)), .val (.int (1 : Int32)), .val (.int (7 : Int32)), .val (.int (1 : Int32))] [(.int (1 : Int32))]))
          refine Go.retB X65 hx hlk (t := .boolean) Bd.returns (by simp) (hb hby at_66) (by decide) (by decide) eq65 ?_
          exact ⟨rfl, N65, trivial⟩
        · refine Go.st (fun _ k' => XS.icmpYes X65.here hx rfl (pc0 := 58) (pc' := 65) rfl (hb hby at_58) rfl (XT.ii_ne_t hc66) (by decide) (by decide) k') ?_
          show Go p e below s _ _ _ (T65.setTop (mkF m 65 #[.val (.int kk), .val (.int vv), .val (.int (5 : Int32)), .val (.ref a_OFFSET_FETCH), .val (.int (vv.toInt16.toInt32)), .val (.int (1 : Int32)), .val (.int (7 : Int32)), .val (.int (1 : Int32))] []))
          refine Go.st (fun _ k' => XS.iconst X65.here hx rfl (hb hby at_65) k') ?_
          show Go p e below s _ _ _ (T65.setTop (mkF m 66 #[.val (.int kk), .val (.int vv), .val (.int (5 : Int32)), .val (.ref a_OFFSET_FETCH), .val (.int (vv.toInt16.toInt32)), .val (.int (1 : Int32)), .val (.int (7 : Int32)), .val (.int (1 : Int32))] [(.int (0 : Int32))]))
          refine Go.retB X65 hx hlk (t := .boolean) Bd.returns (by simp) (hb hby at_66) (by decide) (by decide) eq65 ?_
          exact absurd (by simp [hc59, hc62]) hc66
  · rw [hi]
    show Go p e below s _ _ _ (s₁.setTop (mkF m 8 #[.val (.int kk), .val (.int vv), .val (.int (6 : Int32)), .unset, .unset, .unset, .unset, .unset] []))
    refine Go.st (fun _ k' => XS.iloadN X0.here hx rfl (hb hby at_8) rfl k') ?_
    show Go p e below s _ _ _ (s₁.setTop (mkF m 9 #[.val (.int kk), .val (.int vv), .val (.int (6 : Int32)), .unset, .unset, .unset, .unset, .unset] [(.int (6 : Int32))]))
    obtain ⟨_, _, ⟨T67, L67, k67, n67⟩, -, X67, ⟨Lc67, hQ67, l67, y67, z67⟩, st67⟩ := Jvm.LawKit.callS X0 hx (y := (⟨"com/example/tenure_of_partitions/tenureofpartitions/ApiKeyServesPinLaw", "pick", "(I)Lcom/example/tenure_of_partitions/tenureofpartitions/ApiKey;"⟩ : MethodName)) hown (mvT hZ (wdx hw 1 rfl)) (mvT hZ (wdx hw 2 rfl)) (mvT hZ (wdx hw 3 rfl)) (mvT hZ (wdx hw 4 rfl)) (by decide) (backOf (W := 0) (rm1 l Z a0 hw [] (6 : Int32) a_PRODUCE a_FETCH a_LIST_OFFSETS a_METADATA a_OFFSET_COMMIT a_OFFSET_FETCH a_FIND_COORDINATOR a_JOIN_GROUP a_HEARTBEAT a_LEAVE_GROUP a_SYNC_GROUP a_DESCRIBE_GROUPS a_LIST_GROUPS a_API_VERSIONS h0 n0 O0 S_PRODUCE S_FETCH S_LIST_OFFSETS S_METADATA S_OFFSET_COMMIT S_OFFSET_FETCH S_FIND_COORDINATOR S_JOIN_GROUP S_HEARTBEAT S_LEAVE_GROUP S_SYNC_GROUP S_DESCRIBE_GROUPS S_LIST_GROUPS S_API_VERSIONS) hZ (wdx hw 4 rfl) (wdx hw 3 rfl) (by decide) (by decide)) (g := (mkF m 9 #[.val (.int kk), .val (.int vv), .val (.int (6 : Int32)), .unset, .unset, .unset, .unset, .unset] [(.int (6 : Int32))])) rfl (by rw [hml]; rfl) (argsL := [(.int (6 : Int32))]) (rest := []) (lenOf pd__I_Lcom_example_tenure_of_partitions_tenureofpartitions_ApiKey_ rfl) rfl (by show 2 * 0 + _ ≤ _; exact Nat.le_of_eq rfl) (hb hby at_9) (fun _ _ => ⟨rfl, e0, (by exact Nat.le_of_ble_eq_true rfl), (by exact Nat.le_of_ble_eq_true rfl)⟩)
    dsimp only [Pt.U, Pt.locs, Pt.cells, Pt.slots] at X67 l67 y67 z67 st67 hQ67
    subst l67 y67 z67
    obtain ⟨rfl, Nq67, eq67⟩ := hQ67
    have N67 := Fr.app N0 Nq67
    refine Go.st st67 ?_
    show Go p e below s _ _ _ (T67.setTop (mkF m 12 #[.val (.int kk), .val (.int vv), .val (.int (6 : Int32)), .unset, .unset, .unset, .unset, .unset] [(.ref (fpick (6 : Int32) a_PRODUCE a_FETCH a_LIST_OFFSETS a_METADATA a_OFFSET_COMMIT a_OFFSET_FETCH a_FIND_COORDINATOR a_JOIN_GROUP a_HEARTBEAT a_LEAVE_GROUP a_SYNC_GROUP a_DESCRIBE_GROUPS a_LIST_GROUPS a_API_VERSIONS))]))
    show Go p e below s _ _ _ (T67.setTop (mkF m 12 #[.val (.int kk), .val (.int vv), .val (.int (6 : Int32)), .unset, .unset, .unset, .unset, .unset] [(.ref a_FIND_COORDINATOR)]))
    refine Go.st (fun _ k' => XS.astoreN X67.here hx rfl (hb hby at_12) rfl rfl (l' := #[.val (.int kk), .val (.int vv), .val (.int (6 : Int32)), .val (.ref a_FIND_COORDINATOR), .unset, .unset, .unset, .unset]) rfl k') ?_
    show Go p e below s _ _ _ (T67.setTop (mkF m 13 #[.val (.int kk), .val (.int vv), .val (.int (6 : Int32)), .val (.ref a_FIND_COORDINATOR), .unset, .unset, .unset, .unset] []))
    refine Go.st (fun _ k' => XS.iloadN X67.here hx rfl (hb hby at_13) rfl k') ?_
    show Go p e below s _ _ _ (T67.setTop (mkF m 14 #[.val (.int kk), .val (.int vv), .val (.int (6 : Int32)), .val (.ref a_FIND_COORDINATOR), .unset, .unset, .unset, .unset] [(.int vv)]))
    refine Go.st (fun _ k' => XS.i2s X67.here hx rfl (hb hby at_14) rfl k') ?_
    show Go p e below s _ _ _ (T67.setTop (mkF m 15 #[.val (.int kk), .val (.int vv), .val (.int (6 : Int32)), .val (.ref a_FIND_COORDINATOR), .unset, .unset, .unset, .unset] [(.int (vv.toInt16.toInt32))]))
    refine Go.st (fun _ k' => XS.istore X67.here hx rfl (hb hby at_15) rfl (l' := #[.val (.int kk), .val (.int vv), .val (.int (6 : Int32)), .val (.ref a_FIND_COORDINATOR), .val (.int (vv.toInt16.toInt32)), .unset, .unset, .unset]) rfl k') ?_
    show Go p e below s _ _ _ (T67.setTop (mkF m 17 #[.val (.int kk), .val (.int vv), .val (.int (6 : Int32)), .val (.ref a_FIND_COORDINATOR), .val (.int (vv.toInt16.toInt32)), .unset, .unset, .unset] []))
    refine Go.st (fun _ k' => XS.iloadN X67.here hx rfl (hb hby at_17) rfl k') ?_
    show Go p e below s _ _ _ (T67.setTop (mkF m 18 #[.val (.int kk), .val (.int vv), .val (.int (6 : Int32)), .val (.ref a_FIND_COORDINATOR), .val (.int (vv.toInt16.toInt32)), .unset, .unset, .unset] [(.int (6 : Int32))]))
    obtain ⟨_, _, ⟨T68, L68, k68, n68⟩, -, X68, ⟨Lc68, hQ68, l68, y68, z68⟩, st68⟩ := Jvm.LawKit.callS X67 hx (y := (⟨"com/example/tenure_of_partitions/tenureofpartitions/ApiKeyServesPinLaw", "lo", "(I)I"⟩ : MethodName)) hown (mvT hZ (wdx hw 8 rfl)) (mvT hZ (wdx hw 9 rfl)) (mvT hZ (wdx hw 3 rfl)) (mvT hZ (wdx hw 10 rfl)) (by decide) (backOf (W := 0) (rm2 l Z a0 hw [] (6 : Int32) h0 n0 O0 ) hZ (wdx hw 10 rfl) (wdx hw 3 rfl) (by decide) (by decide)) (g := (mkF m 18 #[.val (.int kk), .val (.int vv), .val (.int (6 : Int32)), .val (.ref a_FIND_COORDINATOR), .val (.int (vv.toInt16.toInt32)), .unset, .unset, .unset] [(.int (6 : Int32))])) rfl (by rw [hml]; rfl) (argsL := [(.int (6 : Int32))]) (rest := []) (lenOf pd__I_I rfl) rfl (by show 2 * 0 + _ ≤ _; exact Nat.le_of_eq rfl) (hb hby at_18) (fun _ _ => ⟨rfl, eq67, (by exact Nat.le_of_ble_eq_true rfl), (by exact Nat.le_of_ble_eq_true rfl)⟩)
    dsimp only [Pt.U, Pt.locs, Pt.cells, Pt.slots] at X68 l68 y68 z68 st68 hQ68
    subst l68 y68 z68
    obtain ⟨rfl, Nq68, eq68⟩ := hQ68
    have N68 := Fr.app N67 Nq68
    refine Go.st st68 ?_
    show Go p e below s _ _ _ (T68.setTop (mkF m 21 #[.val (.int kk), .val (.int vv), .val (.int (6 : Int32)), .val (.ref a_FIND_COORDINATOR), .val (.int (vv.toInt16.toInt32)), .unset, .unset, .unset] [(.int (flo (6 : Int32)))]))
    show Go p e below s _ _ _ (T68.setTop (mkF m 21 #[.val (.int kk), .val (.int vv), .val (.int (6 : Int32)), .val (.ref a_FIND_COORDINATOR), .val (.int (vv.toInt16.toInt32)), .unset, .unset, .unset] [(.int (0 : Int32))]))
    refine Go.st (fun _ k' => XS.istore X68.here hx rfl (hb hby at_21) rfl (l' := #[.val (.int kk), .val (.int vv), .val (.int (6 : Int32)), .val (.ref a_FIND_COORDINATOR), .val (.int (vv.toInt16.toInt32)), .val (.int (0 : Int32)), .unset, .unset]) rfl k') ?_
    show Go p e below s _ _ _ (T68.setTop (mkF m 23 #[.val (.int kk), .val (.int vv), .val (.int (6 : Int32)), .val (.ref a_FIND_COORDINATOR), .val (.int (vv.toInt16.toInt32)), .val (.int (0 : Int32)), .unset, .unset] []))
    refine Go.st (fun _ k' => XS.iloadN X68.here hx rfl (hb hby at_23) rfl k') ?_
    show Go p e below s _ _ _ (T68.setTop (mkF m 24 #[.val (.int kk), .val (.int vv), .val (.int (6 : Int32)), .val (.ref a_FIND_COORDINATOR), .val (.int (vv.toInt16.toInt32)), .val (.int (0 : Int32)), .unset, .unset] [(.int (6 : Int32))]))
    obtain ⟨_, _, ⟨T69, L69, k69, n69⟩, -, X69, ⟨Lc69, hQ69, l69, y69, z69⟩, st69⟩ := Jvm.LawKit.callS X68 hx (y := (⟨"com/example/tenure_of_partitions/tenureofpartitions/ApiKeyServesPinLaw", "hi", "(I)I"⟩ : MethodName)) hown (mvT hZ (wdx hw 11 rfl)) (mvT hZ (wdx hw 12 rfl)) (mvT hZ (wdx hw 3 rfl)) (mvT hZ (wdx hw 13 rfl)) (by decide) (backOf (W := 0) (rm3 l Z a0 hw [] (6 : Int32) h0 n0 O0 ) hZ (wdx hw 13 rfl) (wdx hw 3 rfl) (by decide) (by decide)) (g := (mkF m 24 #[.val (.int kk), .val (.int vv), .val (.int (6 : Int32)), .val (.ref a_FIND_COORDINATOR), .val (.int (vv.toInt16.toInt32)), .val (.int (0 : Int32)), .unset, .unset] [(.int (6 : Int32))])) rfl (by rw [hml]; rfl) (argsL := [(.int (6 : Int32))]) (rest := []) (lenOf pd__I_I rfl) rfl (by show 2 * 0 + _ ≤ _; exact Nat.le_of_eq rfl) (hb hby at_24) (fun _ _ => ⟨rfl, eq68, (by exact Nat.le_of_ble_eq_true rfl), (by exact Nat.le_of_ble_eq_true rfl)⟩)
    dsimp only [Pt.U, Pt.locs, Pt.cells, Pt.slots] at X69 l69 y69 z69 st69 hQ69
    subst l69 y69 z69
    obtain ⟨rfl, Nq69, eq69⟩ := hQ69
    have N69 := Fr.app N68 Nq69
    refine Go.st st69 ?_
    show Go p e below s _ _ _ (T69.setTop (mkF m 27 #[.val (.int kk), .val (.int vv), .val (.int (6 : Int32)), .val (.ref a_FIND_COORDINATOR), .val (.int (vv.toInt16.toInt32)), .val (.int (0 : Int32)), .unset, .unset] [(.int (fhi (6 : Int32)))]))
    show Go p e below s _ _ _ (T69.setTop (mkF m 27 #[.val (.int kk), .val (.int vv), .val (.int (6 : Int32)), .val (.ref a_FIND_COORDINATOR), .val (.int (vv.toInt16.toInt32)), .val (.int (0 : Int32)), .unset, .unset] [(.int (2 : Int32))]))
    refine Go.st (fun _ k' => XS.istore X69.here hx rfl (hb hby at_27) rfl (l' := #[.val (.int kk), .val (.int vv), .val (.int (6 : Int32)), .val (.ref a_FIND_COORDINATOR), .val (.int (vv.toInt16.toInt32)), .val (.int (0 : Int32)), .val (.int (2 : Int32)), .unset]) rfl k') ?_
    show Go p e below s _ _ _ (T69.setTop (mkF m 29 #[.val (.int kk), .val (.int vv), .val (.int (6 : Int32)), .val (.ref a_FIND_COORDINATOR), .val (.int (vv.toInt16.toInt32)), .val (.int (0 : Int32)), .val (.int (2 : Int32)), .unset] []))
    refine Go.st (fun _ k' => XS.iload X69.here hx rfl (hb hby at_29) rfl k') ?_
    show Go p e below s _ _ _ (T69.setTop (mkF m 31 #[.val (.int kk), .val (.int vv), .val (.int (6 : Int32)), .val (.ref a_FIND_COORDINATOR), .val (.int (vv.toInt16.toInt32)), .val (.int (0 : Int32)), .val (.int (2 : Int32)), .unset] [(.int (vv.toInt16.toInt32))]))
    refine Go.st (fun _ k' => XS.iload X69.here hx rfl (hb hby at_31) rfl k') ?_
    show Go p e below s _ _ _ (T69.setTop (mkF m 33 #[.val (.int kk), .val (.int vv), .val (.int (6 : Int32)), .val (.ref a_FIND_COORDINATOR), .val (.int (vv.toInt16.toInt32)), .val (.int (0 : Int32)), .val (.int (2 : Int32)), .unset] [(.int (0 : Int32)), (.int (vv.toInt16.toInt32))]))
    by_cases hc70 : (vv.toInt16.toInt32) < (0 : Int32)
    · refine Go.st (fun _ k' => XS.icmpYes X69.here hx rfl (pc0 := 33) (pc' := 47) rfl (hb hby at_33) rfl (XT.ii_lt_t hc70) (by decide) (by decide) k') ?_
      show Go p e below s _ _ _ (T69.setTop (mkF m 47 #[.val (.int kk), .val (.int vv), .val (.int (6 : Int32)), .val (.ref a_FIND_COORDINATOR), .val (.int (vv.toInt16.toInt32)), .val (.int (0 : Int32)), .val (.int (2 : Int32)), .unset] []))
      refine Go.st (fun _ k' => XS.iconst X69.here hx rfl (hb hby at_47) k') ?_
      show Go p e below s _ _ _ (T69.setTop (mkF m 48 #[.val (.int kk), .val (.int vv), .val (.int (6 : Int32)), .val (.ref a_FIND_COORDINATOR), .val (.int (vv.toInt16.toInt32)), .val (.int (0 : Int32)), .val (.int (2 : Int32)), .unset] [(.int (0 : Int32))]))
      refine Go.st (fun _ k' => XS.istore X69.here hx rfl (hb hby at_48) rfl (l' := #[.val (.int kk), .val (.int vv), .val (.int (6 : Int32)), .val (.ref a_FIND_COORDINATOR), .val (.int (vv.toInt16.toInt32)), .val (.int (0 : Int32)), .val (.int (2 : Int32)), .val (.int (0 : Int32))]) rfl k') ?_
      show Go p e below s _ _ _ (T69.setTop (mkF m 50 #[.val (.int kk), .val (.int vv), .val (.int (6 : Int32)), .val (.ref a_FIND_COORDINATOR), .val (.int (vv.toInt16.toInt32)), .val (.int (0 : Int32)), .val (.int (2 : Int32)), .val (.int (0 : Int32))] []))
      refine Go.st (fun _ k' => XS.aloadN X69.here hx rfl (hb hby at_50) rfl rfl k') ?_
      show Go p e below s _ _ _ (T69.setTop (mkF m 51 #[.val (.int kk), .val (.int vv), .val (.int (6 : Int32)), .val (.ref a_FIND_COORDINATOR), .val (.int (vv.toInt16.toInt32)), .val (.int (0 : Int32)), .val (.int (2 : Int32)), .val (.int (0 : Int32))] [(.ref a_FIND_COORDINATOR)]))
      refine Go.st (fun _ k' => XS.iload X69.here hx rfl (hb hby at_51) rfl k') ?_
      show Go p e below s _ _ _ (T69.setTop (mkF m 53 #[.val (.int kk), .val (.int vv), .val (.int (6 : Int32)), .val (.ref a_FIND_COORDINATOR), .val (.int (vv.toInt16.toInt32)), .val (.int (0 : Int32)), .val (.int (2 : Int32)), .val (.int (0 : Int32))] [(.int (vv.toInt16.toInt32)), (.ref a_FIND_COORDINATOR)]))
      obtain ⟨cq71, kq71, q71a, q71b, q71c⟩ := isOf hZ eq69 E_FIND_COORDINATOR
      obtain ⟨_, _, ⟨T71, L71, k71, n71⟩, -, X71, ⟨Lc71, hQ71, l71, y71, z71⟩, st71⟩ := X69.virtualBack hx (y := (⟨"com/example/tenure_of_partitions/tenureofpartitions/ApiKey", "serves", "(S)Z"⟩ : MethodName)) (z := (⟨"com/example/tenure_of_partitions/tenureofpartitions/ApiKey", "serves", "(S)Z"⟩ : MethodName)) hown (mvT hZ (wdx hw 14 rfl)) (mvT hZ (wdx hw 15 rfl)) (notFace_of_selects (args := #[]) (mvT hZ (wdx hw 17 rfl))) (mvT hZ (wdx hw 17 rfl)) (mvT hZ (wdx hw 16 rfl)) (by decide) (backOf (W := 0) (rm4 l Z a0 hw [] a_FIND_COORDINATOR (vv.toInt16.toInt32) (0 : Int32) (2 : Int32) h0 n0 O0 F_FIND_COORDINATOR_minVersion F_FIND_COORDINATOR_maxVersion) hZ (wdx hw 18 rfl) (wdx hw 6 rfl) (by decide) (by decide)) q71a q71c (g := (mkF m 53 #[.val (.int kk), .val (.int vv), .val (.int (6 : Int32)), .val (.ref a_FIND_COORDINATOR), .val (.int (vv.toInt16.toInt32)), .val (.int (0 : Int32)), .val (.int (2 : Int32)), .val (.int (0 : Int32))] [(.int (vv.toInt16.toInt32)), (.ref a_FIND_COORDINATOR)])) rfl (by rw [hml]; rfl) (Steps.refl _) (argsL := [(.int (vv.toInt16.toInt32))]) (rest := []) (lenOf pd__S_Z rfl) rfl (by show 2 * 0 + _ ≤ _; exact Nat.le_of_eq rfl) (hb hby at_53) (fun _ _ => ⟨rfl, eq69, (by exact Nat.le_of_ble_eq_true rfl), (by exact Nat.le_of_ble_eq_true rfl)⟩)
      dsimp only [Pt.U, Pt.locs, Pt.cells, Pt.slots] at X71 l71 y71 z71 st71 hQ71
      subst l71 y71 z71
      obtain ⟨rfl, Nq71, eq71⟩ := hQ71
      have N71 := Fr.app N69 Nq71
      refine Go.tr st71 ?_
      show Go p e below s _ _ _ (T71.setTop (mkF m 56 #[.val (.int kk), .val (.int vv), .val (.int (6 : Int32)), .val (.ref a_FIND_COORDINATOR), .val (.int (vv.toInt16.toInt32)), .val (.int (0 : Int32)), .val (.int (2 : Int32)), .val (.int (0 : Int32))] [(.int (if (vv.toInt16.toInt32) < (0 : Int32) then (0 : Int32) else if (2 : Int32) < (vv.toInt16.toInt32) then 0 else 1))]))
      refine Go.st (fun _ k' => XS.iload X71.here hx rfl (hb hby at_56) rfl k') ?_
      show Go p e below s _ _ _ (T71.setTop (mkF m 58 #[.val (.int kk), .val (.int vv), .val (.int (6 : Int32)), .val (.ref a_FIND_COORDINATOR), .val (.int (vv.toInt16.toInt32)), .val (.int (0 : Int32)), .val (.int (2 : Int32)), .val (.int (0 : Int32))] [(.int (0 : Int32)), (.int (if (vv.toInt16.toInt32) < (0 : Int32) then (0 : Int32) else if (2 : Int32) < (vv.toInt16.toInt32) then 0 else 1))]))
      by_cases hc72 : (if (vv.toInt16.toInt32) < (0 : Int32) then (0 : Int32) else if (2 : Int32) < (vv.toInt16.toInt32) then 0 else 1) = (0 : Int32)
      · refine Go.st (fun _ k' => XS.icmpNo X71.here hx rfl (hb hby at_58) rfl (XT.ii_ne_f hc72) k') ?_
        show Go p e below s _ _ _ (T71.setTop (mkF m 61 #[.val (.int kk), .val (.int vv), .val (.int (6 : Int32)), .val (.ref a_FIND_COORDINATOR), .val (.int (vv.toInt16.toInt32)), .val (.int (0 : Int32)), .val (.int (2 : Int32)), .val (.int (0 : Int32))] []))
        refine Go.st (fun _ k' => XS.iconst X71.here hx rfl (hb hby at_61) k') ?_
        show Go p e below s _ _ _ (T71.setTop (mkF m 62 #[.val (.int kk), .val (.int vv), .val (.int (6 : Int32)), .val (.ref a_FIND_COORDINATOR), .val (.int (vv.toInt16.toInt32)), .val (.int (0 : Int32)), .val (.int (2 : Int32)), .val (.int (0 : Int32))] [(.int (1 : Int32))]))
        refine Go.st (fun _ k' => XS.goto X71.here hx rfl (pc0 := 62) (pc' := 66) rfl (hb hby at_62) (by decide) (by decide) k') ?_
        show Go p e below s _ _ _ (T71.setTop (mkF m 66 #[.val (.int kk), .val (.int vv), .val (.int (6 : Int32)), .val (.ref a_FIND_COORDINATOR), .val (.int (vv.toInt16.toInt32)), .val (.int (0 : Int32)), .val (.int (2 : Int32)), .val (.int (0 : Int32))] [(.int (1 : Int32))]))
        refine Go.retB X71 hx hlk (t := .boolean) Bd.returns (by simp) (hb hby at_66) (by decide) (by decide) eq71 ?_
        exact ⟨rfl, N71, trivial⟩
      · refine Go.st (fun _ k' => XS.icmpYes X71.here hx rfl (pc0 := 58) (pc' := 65) rfl (hb hby at_58) rfl (XT.ii_ne_t hc72) (by decide) (by decide) k') ?_
        show Go p e below s _ _ _ (T71.setTop (mkF m 65 #[.val (.int kk), .val (.int vv), .val (.int (6 : Int32)), .val (.ref a_FIND_COORDINATOR), .val (.int (vv.toInt16.toInt32)), .val (.int (0 : Int32)), .val (.int (2 : Int32)), .val (.int (0 : Int32))] []))
        refine Go.st (fun _ k' => XS.iconst X71.here hx rfl (hb hby at_65) k') ?_
        show Go p e below s _ _ _ (T71.setTop (mkF m 66 #[.val (.int kk), .val (.int vv), .val (.int (6 : Int32)), .val (.ref a_FIND_COORDINATOR), .val (.int (vv.toInt16.toInt32)), .val (.int (0 : Int32)), .val (.int (2 : Int32)), .val (.int (0 : Int32))] [(.int (0 : Int32))]))
        refine Go.retB X71 hx hlk (t := .boolean) Bd.returns (by simp) (hb hby at_66) (by decide) (by decide) eq71 ?_
        exact absurd (by simp [hc70]) hc72
    · refine Go.st (fun _ k' => XS.icmpNo X69.here hx rfl (hb hby at_33) rfl (XT.ii_lt_f hc70) k') ?_
      show Go p e below s _ _ _ (T69.setTop (mkF m 36 #[.val (.int kk), .val (.int vv), .val (.int (6 : Int32)), .val (.ref a_FIND_COORDINATOR), .val (.int (vv.toInt16.toInt32)), .val (.int (0 : Int32)), .val (.int (2 : Int32)), .unset] []))
      refine Go.st (fun _ k' => XS.iload X69.here hx rfl (hb hby at_36) rfl k') ?_
      show Go p e below s _ _ _ (T69.setTop (mkF m 38 #[.val (.int kk), .val (.int vv), .val (.int (6 : Int32)), .val (.ref a_FIND_COORDINATOR), .val (.int (vv.toInt16.toInt32)), .val (.int (0 : Int32)), .val (.int (2 : Int32)), .unset] [(.int (vv.toInt16.toInt32))]))
      refine Go.st (fun _ k' => XS.iload X69.here hx rfl (hb hby at_38) rfl k') ?_
      show Go p e below s _ _ _ (T69.setTop (mkF m 40 #[.val (.int kk), .val (.int vv), .val (.int (6 : Int32)), .val (.ref a_FIND_COORDINATOR), .val (.int (vv.toInt16.toInt32)), .val (.int (0 : Int32)), .val (.int (2 : Int32)), .unset] [(.int (2 : Int32)), (.int (vv.toInt16.toInt32))]))
      by_cases hc73 : (2 : Int32) < (vv.toInt16.toInt32)
      · refine Go.st (fun _ k' => XS.icmpYes X69.here hx rfl (pc0 := 40) (pc' := 47) rfl (hb hby at_40) rfl (XT.ii_gt_t hc73) (by decide) (by decide) k') ?_
        show Go p e below s _ _ _ (T69.setTop (mkF m 47 #[.val (.int kk), .val (.int vv), .val (.int (6 : Int32)), .val (.ref a_FIND_COORDINATOR), .val (.int (vv.toInt16.toInt32)), .val (.int (0 : Int32)), .val (.int (2 : Int32)), .unset] []))
        refine Go.st (fun _ k' => XS.iconst X69.here hx rfl (hb hby at_47) k') ?_
        show Go p e below s _ _ _ (T69.setTop (mkF m 48 #[.val (.int kk), .val (.int vv), .val (.int (6 : Int32)), .val (.ref a_FIND_COORDINATOR), .val (.int (vv.toInt16.toInt32)), .val (.int (0 : Int32)), .val (.int (2 : Int32)), .unset] [(.int (0 : Int32))]))
        refine Go.st (fun _ k' => XS.istore X69.here hx rfl (hb hby at_48) rfl (l' := #[.val (.int kk), .val (.int vv), .val (.int (6 : Int32)), .val (.ref a_FIND_COORDINATOR), .val (.int (vv.toInt16.toInt32)), .val (.int (0 : Int32)), .val (.int (2 : Int32)), .val (.int (0 : Int32))]) rfl k') ?_
        show Go p e below s _ _ _ (T69.setTop (mkF m 50 #[.val (.int kk), .val (.int vv), .val (.int (6 : Int32)), .val (.ref a_FIND_COORDINATOR), .val (.int (vv.toInt16.toInt32)), .val (.int (0 : Int32)), .val (.int (2 : Int32)), .val (.int (0 : Int32))] []))
        refine Go.st (fun _ k' => XS.aloadN X69.here hx rfl (hb hby at_50) rfl rfl k') ?_
        show Go p e below s _ _ _ (T69.setTop (mkF m 51 #[.val (.int kk), .val (.int vv), .val (.int (6 : Int32)), .val (.ref a_FIND_COORDINATOR), .val (.int (vv.toInt16.toInt32)), .val (.int (0 : Int32)), .val (.int (2 : Int32)), .val (.int (0 : Int32))] [(.ref a_FIND_COORDINATOR)]))
        refine Go.st (fun _ k' => XS.iload X69.here hx rfl (hb hby at_51) rfl k') ?_
        show Go p e below s _ _ _ (T69.setTop (mkF m 53 #[.val (.int kk), .val (.int vv), .val (.int (6 : Int32)), .val (.ref a_FIND_COORDINATOR), .val (.int (vv.toInt16.toInt32)), .val (.int (0 : Int32)), .val (.int (2 : Int32)), .val (.int (0 : Int32))] [(.int (vv.toInt16.toInt32)), (.ref a_FIND_COORDINATOR)]))
        obtain ⟨cq74, kq74, q74a, q74b, q74c⟩ := isOf hZ eq69 E_FIND_COORDINATOR
        obtain ⟨_, _, ⟨T74, L74, k74, n74⟩, -, X74, ⟨Lc74, hQ74, l74, y74, z74⟩, st74⟩ := X69.virtualBack hx (y := (⟨"com/example/tenure_of_partitions/tenureofpartitions/ApiKey", "serves", "(S)Z"⟩ : MethodName)) (z := (⟨"com/example/tenure_of_partitions/tenureofpartitions/ApiKey", "serves", "(S)Z"⟩ : MethodName)) hown (mvT hZ (wdx hw 14 rfl)) (mvT hZ (wdx hw 15 rfl)) (notFace_of_selects (args := #[]) (mvT hZ (wdx hw 17 rfl))) (mvT hZ (wdx hw 17 rfl)) (mvT hZ (wdx hw 16 rfl)) (by decide) (backOf (W := 0) (rm4 l Z a0 hw [] a_FIND_COORDINATOR (vv.toInt16.toInt32) (0 : Int32) (2 : Int32) h0 n0 O0 F_FIND_COORDINATOR_minVersion F_FIND_COORDINATOR_maxVersion) hZ (wdx hw 18 rfl) (wdx hw 6 rfl) (by decide) (by decide)) q74a q74c (g := (mkF m 53 #[.val (.int kk), .val (.int vv), .val (.int (6 : Int32)), .val (.ref a_FIND_COORDINATOR), .val (.int (vv.toInt16.toInt32)), .val (.int (0 : Int32)), .val (.int (2 : Int32)), .val (.int (0 : Int32))] [(.int (vv.toInt16.toInt32)), (.ref a_FIND_COORDINATOR)])) rfl (by rw [hml]; rfl) (Steps.refl _) (argsL := [(.int (vv.toInt16.toInt32))]) (rest := []) (lenOf pd__S_Z rfl) rfl (by show 2 * 0 + _ ≤ _; exact Nat.le_of_eq rfl) (hb hby at_53) (fun _ _ => ⟨rfl, eq69, (by exact Nat.le_of_ble_eq_true rfl), (by exact Nat.le_of_ble_eq_true rfl)⟩)
        dsimp only [Pt.U, Pt.locs, Pt.cells, Pt.slots] at X74 l74 y74 z74 st74 hQ74
        subst l74 y74 z74
        obtain ⟨rfl, Nq74, eq74⟩ := hQ74
        have N74 := Fr.app N69 Nq74
        refine Go.tr st74 ?_
        show Go p e below s _ _ _ (T74.setTop (mkF m 56 #[.val (.int kk), .val (.int vv), .val (.int (6 : Int32)), .val (.ref a_FIND_COORDINATOR), .val (.int (vv.toInt16.toInt32)), .val (.int (0 : Int32)), .val (.int (2 : Int32)), .val (.int (0 : Int32))] [(.int (if (vv.toInt16.toInt32) < (0 : Int32) then (0 : Int32) else if (2 : Int32) < (vv.toInt16.toInt32) then 0 else 1))]))
        refine Go.st (fun _ k' => XS.iload X74.here hx rfl (hb hby at_56) rfl k') ?_
        show Go p e below s _ _ _ (T74.setTop (mkF m 58 #[.val (.int kk), .val (.int vv), .val (.int (6 : Int32)), .val (.ref a_FIND_COORDINATOR), .val (.int (vv.toInt16.toInt32)), .val (.int (0 : Int32)), .val (.int (2 : Int32)), .val (.int (0 : Int32))] [(.int (0 : Int32)), (.int (if (vv.toInt16.toInt32) < (0 : Int32) then (0 : Int32) else if (2 : Int32) < (vv.toInt16.toInt32) then 0 else 1))]))
        by_cases hc75 : (if (vv.toInt16.toInt32) < (0 : Int32) then (0 : Int32) else if (2 : Int32) < (vv.toInt16.toInt32) then 0 else 1) = (0 : Int32)
        · refine Go.st (fun _ k' => XS.icmpNo X74.here hx rfl (hb hby at_58) rfl (XT.ii_ne_f hc75) k') ?_
          show Go p e below s _ _ _ (T74.setTop (mkF m 61 #[.val (.int kk), .val (.int vv), .val (.int (6 : Int32)), .val (.ref a_FIND_COORDINATOR), .val (.int (vv.toInt16.toInt32)), .val (.int (0 : Int32)), .val (.int (2 : Int32)), .val (.int (0 : Int32))] []))
          refine Go.st (fun _ k' => XS.iconst X74.here hx rfl (hb hby at_61) k') ?_
          show Go p e below s _ _ _ (T74.setTop (mkF m 62 #[.val (.int kk), .val (.int vv), .val (.int (6 : Int32)), .val (.ref a_FIND_COORDINATOR), .val (.int (vv.toInt16.toInt32)), .val (.int (0 : Int32)), .val (.int (2 : Int32)), .val (.int (0 : Int32))] [(.int (1 : Int32))]))
          refine Go.st (fun _ k' => XS.goto X74.here hx rfl (pc0 := 62) (pc' := 66) rfl (hb hby at_62) (by decide) (by decide) k') ?_
          show Go p e below s _ _ _ (T74.setTop (mkF m 66 #[.val (.int kk), .val (.int vv), .val (.int (6 : Int32)), .val (.ref a_FIND_COORDINATOR), .val (.int (vv.toInt16.toInt32)), .val (.int (0 : Int32)), .val (.int (2 : Int32)), .val (.int (0 : Int32))] [(.int (1 : Int32))]))
          refine Go.retB X74 hx hlk (t := .boolean) Bd.returns (by simp) (hb hby at_66) (by decide) (by decide) eq74 ?_
          exact ⟨rfl, N74, trivial⟩
        · refine Go.st (fun _ k' => XS.icmpYes X74.here hx rfl (pc0 := 58) (pc' := 65) rfl (hb hby at_58) rfl (XT.ii_ne_t hc75) (by decide) (by decide) k') ?_
          show Go p e below s _ _ _ (T74.setTop (mkF m 65 #[.val (.int kk), .val (.int vv), .val (.int (6 : Int32)), .val (.ref a_FIND_COORDINATOR), .val (.int (vv.toInt16.toInt32)), .val (.int (0 : Int32)), .val (.int (2 : Int32)), .val (.int (0 : Int32))] []))
          refine Go.st (fun _ k' => XS.iconst X74.here hx rfl (hb hby at_65) k') ?_
          show Go p e below s _ _ _ (T74.setTop (mkF m 66 #[.val (.int kk), .val (.int vv), .val (.int (6 : Int32)), .val (.ref a_FIND_COORDINATOR), .val (.int (vv.toInt16.toInt32)), .val (.int (0 : Int32)), .val (.int (2 : Int32)), .val (.int (0 : Int32))] [(.int (0 : Int32))]))
          refine Go.retB X74 hx hlk (t := .boolean) Bd.returns (by simp) (hb hby at_66) (by decide) (by decide) eq74 ?_
          exact absurd (by simp [hc70, hc73]) hc75
      · refine Go.st (fun _ k' => XS.icmpNo X69.here hx rfl (hb hby at_40) rfl (XT.ii_gt_f hc73) k') ?_
        show Go p e below s _ _ _ (T69.setTop (mkF m 43 #[.val (.int kk), .val (.int vv), .val (.int (6 : Int32)), .val (.ref a_FIND_COORDINATOR), .val (.int (vv.toInt16.toInt32)), .val (.int (0 : Int32)), .val (.int (2 : Int32)), .unset] []))
        refine Go.st (fun _ k' => XS.iconst X69.here hx rfl (hb hby at_43) k') ?_
        show Go p e below s _ _ _ (T69.setTop (mkF m 44 #[.val (.int kk), .val (.int vv), .val (.int (6 : Int32)), .val (.ref a_FIND_COORDINATOR), .val (.int (vv.toInt16.toInt32)), .val (.int (0 : Int32)), .val (.int (2 : Int32)), .unset] [(.int (1 : Int32))]))
        refine Go.st (fun _ k' => XS.goto X69.here hx rfl (pc0 := 44) (pc' := 48) rfl (hb hby at_44) (by decide) (by decide) k') ?_
        show Go p e below s _ _ _ (T69.setTop (mkF m 48 #[.val (.int kk), .val (.int vv), .val (.int (6 : Int32)), .val (.ref a_FIND_COORDINATOR), .val (.int (vv.toInt16.toInt32)), .val (.int (0 : Int32)), .val (.int (2 : Int32)), .unset] [(.int (1 : Int32))]))
        refine Go.st (fun _ k' => XS.istore X69.here hx rfl (hb hby at_48) rfl (l' := #[.val (.int kk), .val (.int vv), .val (.int (6 : Int32)), .val (.ref a_FIND_COORDINATOR), .val (.int (vv.toInt16.toInt32)), .val (.int (0 : Int32)), .val (.int (2 : Int32)), .val (.int (1 : Int32))]) rfl k') ?_
        show Go p e below s _ _ _ (T69.setTop (mkF m 50 #[.val (.int kk), .val (.int vv), .val (.int (6 : Int32)), .val (.ref a_FIND_COORDINATOR), .val (.int (vv.toInt16.toInt32)), .val (.int (0 : Int32)), .val (.int (2 : Int32)), .val (.int (1 : Int32))] []))
        refine Go.st (fun _ k' => XS.aloadN X69.here hx rfl (hb hby at_50) rfl rfl k') ?_
        show Go p e below s _ _ _ (T69.setTop (mkF m 51 #[.val (.int kk), .val (.int vv), .val (.int (6 : Int32)), .val (.ref a_FIND_COORDINATOR), .val (.int (vv.toInt16.toInt32)), .val (.int (0 : Int32)), .val (.int (2 : Int32)), .val (.int (1 : Int32))] [(.ref a_FIND_COORDINATOR)]))
        refine Go.st (fun _ k' => XS.iload X69.here hx rfl (hb hby at_51) rfl k') ?_
        show Go p e below s _ _ _ (T69.setTop (mkF m 53 #[.val (.int kk), .val (.int vv), .val (.int (6 : Int32)), .val (.ref a_FIND_COORDINATOR), .val (.int (vv.toInt16.toInt32)), .val (.int (0 : Int32)), .val (.int (2 : Int32)), .val (.int (1 : Int32))] [(.int (vv.toInt16.toInt32)), (.ref a_FIND_COORDINATOR)]))
        obtain ⟨cq76, kq76, q76a, q76b, q76c⟩ := isOf hZ eq69 E_FIND_COORDINATOR
        obtain ⟨_, _, ⟨T76, L76, k76, n76⟩, -, X76, ⟨Lc76, hQ76, l76, y76, z76⟩, st76⟩ := X69.virtualBack hx (y := (⟨"com/example/tenure_of_partitions/tenureofpartitions/ApiKey", "serves", "(S)Z"⟩ : MethodName)) (z := (⟨"com/example/tenure_of_partitions/tenureofpartitions/ApiKey", "serves", "(S)Z"⟩ : MethodName)) hown (mvT hZ (wdx hw 14 rfl)) (mvT hZ (wdx hw 15 rfl)) (notFace_of_selects (args := #[]) (mvT hZ (wdx hw 17 rfl))) (mvT hZ (wdx hw 17 rfl)) (mvT hZ (wdx hw 16 rfl)) (by decide) (backOf (W := 0) (rm4 l Z a0 hw [] a_FIND_COORDINATOR (vv.toInt16.toInt32) (0 : Int32) (2 : Int32) h0 n0 O0 F_FIND_COORDINATOR_minVersion F_FIND_COORDINATOR_maxVersion) hZ (wdx hw 18 rfl) (wdx hw 6 rfl) (by decide) (by decide)) q76a q76c (g := (mkF m 53 #[.val (.int kk), .val (.int vv), .val (.int (6 : Int32)), .val (.ref a_FIND_COORDINATOR), .val (.int (vv.toInt16.toInt32)), .val (.int (0 : Int32)), .val (.int (2 : Int32)), .val (.int (1 : Int32))] [(.int (vv.toInt16.toInt32)), (.ref a_FIND_COORDINATOR)])) rfl (by rw [hml]; rfl) (Steps.refl _) (argsL := [(.int (vv.toInt16.toInt32))]) (rest := []) (lenOf pd__S_Z rfl) rfl (by show 2 * 0 + _ ≤ _; exact Nat.le_of_eq rfl) (hb hby at_53) (fun _ _ => ⟨rfl, eq69, (by exact Nat.le_of_ble_eq_true rfl), (by exact Nat.le_of_ble_eq_true rfl)⟩)
        dsimp only [Pt.U, Pt.locs, Pt.cells, Pt.slots] at X76 l76 y76 z76 st76 hQ76
        subst l76 y76 z76
        obtain ⟨rfl, Nq76, eq76⟩ := hQ76
        have N76 := Fr.app N69 Nq76
        refine Go.tr st76 ?_
        show Go p e below s _ _ _ (T76.setTop (mkF m 56 #[.val (.int kk), .val (.int vv), .val (.int (6 : Int32)), .val (.ref a_FIND_COORDINATOR), .val (.int (vv.toInt16.toInt32)), .val (.int (0 : Int32)), .val (.int (2 : Int32)), .val (.int (1 : Int32))] [(.int (if (vv.toInt16.toInt32) < (0 : Int32) then (0 : Int32) else if (2 : Int32) < (vv.toInt16.toInt32) then 0 else 1))]))
        refine Go.st (fun _ k' => XS.iload X76.here hx rfl (hb hby at_56) rfl k') ?_
        show Go p e below s _ _ _ (T76.setTop (mkF m 58 #[.val (.int kk), .val (.int vv), .val (.int (6 : Int32)), .val (.ref a_FIND_COORDINATOR), .val (.int (vv.toInt16.toInt32)), .val (.int (0 : Int32)), .val (.int (2 : Int32)), .val (.int (1 : Int32))] [(.int (1 : Int32)), (.int (if (vv.toInt16.toInt32) < (0 : Int32) then (0 : Int32) else if (2 : Int32) < (vv.toInt16.toInt32) then 0 else 1))]))
        by_cases hc77 : (if (vv.toInt16.toInt32) < (0 : Int32) then (0 : Int32) else if (2 : Int32) < (vv.toInt16.toInt32) then 0 else 1) = (1 : Int32)
        · refine Go.st (fun _ k' => XS.icmpNo X76.here hx rfl (hb hby at_58) rfl (XT.ii_ne_f hc77) k') ?_
          show Go p e below s _ _ _ (T76.setTop (mkF m 61 #[.val (.int kk), .val (.int vv), .val (.int (6 : Int32)), .val (.ref a_FIND_COORDINATOR), .val (.int (vv.toInt16.toInt32)), .val (.int (0 : Int32)), .val (.int (2 : Int32)), .val (.int (1 : Int32))] []))
          refine Go.st (fun _ k' => XS.iconst X76.here hx rfl (hb hby at_61) k') ?_
          show Go p e below s _ _ _ (T76.setTop (mkF m 62 #[.val (.int kk), .val (.int vv), .val (.int (6 : Int32)), .val (.ref a_FIND_COORDINATOR), .val (.int (vv.toInt16.toInt32)), .val (.int (0 : Int32)), .val (.int (2 : Int32)), .val (.int (1 : Int32))] [(.int (1 : Int32))]))
          refine Go.st (fun _ k' => XS.goto X76.here hx rfl (pc0 := 62) (pc' := 66) rfl (hb hby at_62) (by decide) (by decide) k') ?_
          show Go p e below s _ _ _ (T76.setTop (mkF m 66 #[.val (.int kk), .val (.int vv), .val (.int (6 : Int32)), .val (.ref a_FIND_COORDINATOR), .val (.int (vv.toInt16.toInt32)), .val (.int (0 : Int32)), .val (.int (2 : Int32)), .val (.int (1 : Int32))] [(.int (1 : Int32))]))
          refine Go.retB X76 hx hlk (t := .boolean) Bd.returns (by simp) (hb hby at_66) (by decide) (by decide) eq76 ?_
          exact ⟨rfl, N76, trivial⟩
        · refine Go.st (fun _ k' => XS.icmpYes X76.here hx rfl (pc0 := 58) (pc' := 65) rfl (hb hby at_58) rfl (XT.ii_ne_t hc77) (by decide) (by decide) k') ?_
          show Go p e below s _ _ _ (T76.setTop (mkF m 65 #[.val (.int kk), .val (.int vv), .val (.int (6 : Int32)), .val (.ref a_FIND_COORDINATOR), .val (.int (vv.toInt16.toInt32)), .val (.int (0 : Int32)), .val (.int (2 : Int32)), .val (.int (1 : Int32))] []))
          refine Go.st (fun _ k' => XS.iconst X76.here hx rfl (hb hby at_65) k') ?_
          show Go p e below s _ _ _ (T76.setTop (mkF m 66 #[.val (.int kk), .val (.int vv), .val (.int (6 : Int32)), .val (.ref a_FIND_COORDINATOR), .val (.int (vv.toInt16.toInt32)), .val (.int (0 : Int32)), .val (.int (2 : Int32)), .val (.int (1 : Int32))] [(.int (0 : Int32))]))
          refine Go.retB X76 hx hlk (t := .boolean) Bd.returns (by simp) (hb hby at_66) (by decide) (by decide) eq76 ?_
          exact absurd (by simp [hc70, hc73]) hc77
  · rw [hi]
    show Go p e below s _ _ _ (s₁.setTop (mkF m 8 #[.val (.int kk), .val (.int vv), .val (.int (7 : Int32)), .unset, .unset, .unset, .unset, .unset] []))
    refine Go.st (fun _ k' => XS.iloadN X0.here hx rfl (hb hby at_8) rfl k') ?_
    show Go p e below s _ _ _ (s₁.setTop (mkF m 9 #[.val (.int kk), .val (.int vv), .val (.int (7 : Int32)), .unset, .unset, .unset, .unset, .unset] [(.int (7 : Int32))]))
    obtain ⟨_, _, ⟨T78, L78, k78, n78⟩, -, X78, ⟨Lc78, hQ78, l78, y78, z78⟩, st78⟩ := Jvm.LawKit.callS X0 hx (y := (⟨"com/example/tenure_of_partitions/tenureofpartitions/ApiKeyServesPinLaw", "pick", "(I)Lcom/example/tenure_of_partitions/tenureofpartitions/ApiKey;"⟩ : MethodName)) hown (mvT hZ (wdx hw 1 rfl)) (mvT hZ (wdx hw 2 rfl)) (mvT hZ (wdx hw 3 rfl)) (mvT hZ (wdx hw 4 rfl)) (by decide) (backOf (W := 0) (rm1 l Z a0 hw [] (7 : Int32) a_PRODUCE a_FETCH a_LIST_OFFSETS a_METADATA a_OFFSET_COMMIT a_OFFSET_FETCH a_FIND_COORDINATOR a_JOIN_GROUP a_HEARTBEAT a_LEAVE_GROUP a_SYNC_GROUP a_DESCRIBE_GROUPS a_LIST_GROUPS a_API_VERSIONS h0 n0 O0 S_PRODUCE S_FETCH S_LIST_OFFSETS S_METADATA S_OFFSET_COMMIT S_OFFSET_FETCH S_FIND_COORDINATOR S_JOIN_GROUP S_HEARTBEAT S_LEAVE_GROUP S_SYNC_GROUP S_DESCRIBE_GROUPS S_LIST_GROUPS S_API_VERSIONS) hZ (wdx hw 4 rfl) (wdx hw 3 rfl) (by decide) (by decide)) (g := (mkF m 9 #[.val (.int kk), .val (.int vv), .val (.int (7 : Int32)), .unset, .unset, .unset, .unset, .unset] [(.int (7 : Int32))])) rfl (by rw [hml]; rfl) (argsL := [(.int (7 : Int32))]) (rest := []) (lenOf pd__I_Lcom_example_tenure_of_partitions_tenureofpartitions_ApiKey_ rfl) rfl (by show 2 * 0 + _ ≤ _; exact Nat.le_of_eq rfl) (hb hby at_9) (fun _ _ => ⟨rfl, e0, (by exact Nat.le_of_ble_eq_true rfl), (by exact Nat.le_of_ble_eq_true rfl)⟩)
    dsimp only [Pt.U, Pt.locs, Pt.cells, Pt.slots] at X78 l78 y78 z78 st78 hQ78
    subst l78 y78 z78
    obtain ⟨rfl, Nq78, eq78⟩ := hQ78
    have N78 := Fr.app N0 Nq78
    refine Go.st st78 ?_
    show Go p e below s _ _ _ (T78.setTop (mkF m 12 #[.val (.int kk), .val (.int vv), .val (.int (7 : Int32)), .unset, .unset, .unset, .unset, .unset] [(.ref (fpick (7 : Int32) a_PRODUCE a_FETCH a_LIST_OFFSETS a_METADATA a_OFFSET_COMMIT a_OFFSET_FETCH a_FIND_COORDINATOR a_JOIN_GROUP a_HEARTBEAT a_LEAVE_GROUP a_SYNC_GROUP a_DESCRIBE_GROUPS a_LIST_GROUPS a_API_VERSIONS))]))
    show Go p e below s _ _ _ (T78.setTop (mkF m 12 #[.val (.int kk), .val (.int vv), .val (.int (7 : Int32)), .unset, .unset, .unset, .unset, .unset] [(.ref a_JOIN_GROUP)]))
    refine Go.st (fun _ k' => XS.astoreN X78.here hx rfl (hb hby at_12) rfl rfl (l' := #[.val (.int kk), .val (.int vv), .val (.int (7 : Int32)), .val (.ref a_JOIN_GROUP), .unset, .unset, .unset, .unset]) rfl k') ?_
    show Go p e below s _ _ _ (T78.setTop (mkF m 13 #[.val (.int kk), .val (.int vv), .val (.int (7 : Int32)), .val (.ref a_JOIN_GROUP), .unset, .unset, .unset, .unset] []))
    refine Go.st (fun _ k' => XS.iloadN X78.here hx rfl (hb hby at_13) rfl k') ?_
    show Go p e below s _ _ _ (T78.setTop (mkF m 14 #[.val (.int kk), .val (.int vv), .val (.int (7 : Int32)), .val (.ref a_JOIN_GROUP), .unset, .unset, .unset, .unset] [(.int vv)]))
    refine Go.st (fun _ k' => XS.i2s X78.here hx rfl (hb hby at_14) rfl k') ?_
    show Go p e below s _ _ _ (T78.setTop (mkF m 15 #[.val (.int kk), .val (.int vv), .val (.int (7 : Int32)), .val (.ref a_JOIN_GROUP), .unset, .unset, .unset, .unset] [(.int (vv.toInt16.toInt32))]))
    refine Go.st (fun _ k' => XS.istore X78.here hx rfl (hb hby at_15) rfl (l' := #[.val (.int kk), .val (.int vv), .val (.int (7 : Int32)), .val (.ref a_JOIN_GROUP), .val (.int (vv.toInt16.toInt32)), .unset, .unset, .unset]) rfl k') ?_
    show Go p e below s _ _ _ (T78.setTop (mkF m 17 #[.val (.int kk), .val (.int vv), .val (.int (7 : Int32)), .val (.ref a_JOIN_GROUP), .val (.int (vv.toInt16.toInt32)), .unset, .unset, .unset] []))
    refine Go.st (fun _ k' => XS.iloadN X78.here hx rfl (hb hby at_17) rfl k') ?_
    show Go p e below s _ _ _ (T78.setTop (mkF m 18 #[.val (.int kk), .val (.int vv), .val (.int (7 : Int32)), .val (.ref a_JOIN_GROUP), .val (.int (vv.toInt16.toInt32)), .unset, .unset, .unset] [(.int (7 : Int32))]))
    obtain ⟨_, _, ⟨T79, L79, k79, n79⟩, -, X79, ⟨Lc79, hQ79, l79, y79, z79⟩, st79⟩ := Jvm.LawKit.callS X78 hx (y := (⟨"com/example/tenure_of_partitions/tenureofpartitions/ApiKeyServesPinLaw", "lo", "(I)I"⟩ : MethodName)) hown (mvT hZ (wdx hw 8 rfl)) (mvT hZ (wdx hw 9 rfl)) (mvT hZ (wdx hw 3 rfl)) (mvT hZ (wdx hw 10 rfl)) (by decide) (backOf (W := 0) (rm2 l Z a0 hw [] (7 : Int32) h0 n0 O0 ) hZ (wdx hw 10 rfl) (wdx hw 3 rfl) (by decide) (by decide)) (g := (mkF m 18 #[.val (.int kk), .val (.int vv), .val (.int (7 : Int32)), .val (.ref a_JOIN_GROUP), .val (.int (vv.toInt16.toInt32)), .unset, .unset, .unset] [(.int (7 : Int32))])) rfl (by rw [hml]; rfl) (argsL := [(.int (7 : Int32))]) (rest := []) (lenOf pd__I_I rfl) rfl (by show 2 * 0 + _ ≤ _; exact Nat.le_of_eq rfl) (hb hby at_18) (fun _ _ => ⟨rfl, eq78, (by exact Nat.le_of_ble_eq_true rfl), (by exact Nat.le_of_ble_eq_true rfl)⟩)
    dsimp only [Pt.U, Pt.locs, Pt.cells, Pt.slots] at X79 l79 y79 z79 st79 hQ79
    subst l79 y79 z79
    obtain ⟨rfl, Nq79, eq79⟩ := hQ79
    have N79 := Fr.app N78 Nq79
    refine Go.st st79 ?_
    show Go p e below s _ _ _ (T79.setTop (mkF m 21 #[.val (.int kk), .val (.int vv), .val (.int (7 : Int32)), .val (.ref a_JOIN_GROUP), .val (.int (vv.toInt16.toInt32)), .unset, .unset, .unset] [(.int (flo (7 : Int32)))]))
    show Go p e below s _ _ _ (T79.setTop (mkF m 21 #[.val (.int kk), .val (.int vv), .val (.int (7 : Int32)), .val (.ref a_JOIN_GROUP), .val (.int (vv.toInt16.toInt32)), .unset, .unset, .unset] [(.int (0 : Int32))]))
    refine Go.st (fun _ k' => XS.istore X79.here hx rfl (hb hby at_21) rfl (l' := #[.val (.int kk), .val (.int vv), .val (.int (7 : Int32)), .val (.ref a_JOIN_GROUP), .val (.int (vv.toInt16.toInt32)), .val (.int (0 : Int32)), .unset, .unset]) rfl k') ?_
    show Go p e below s _ _ _ (T79.setTop (mkF m 23 #[.val (.int kk), .val (.int vv), .val (.int (7 : Int32)), .val (.ref a_JOIN_GROUP), .val (.int (vv.toInt16.toInt32)), .val (.int (0 : Int32)), .unset, .unset] []))
    refine Go.st (fun _ k' => XS.iloadN X79.here hx rfl (hb hby at_23) rfl k') ?_
    show Go p e below s _ _ _ (T79.setTop (mkF m 24 #[.val (.int kk), .val (.int vv), .val (.int (7 : Int32)), .val (.ref a_JOIN_GROUP), .val (.int (vv.toInt16.toInt32)), .val (.int (0 : Int32)), .unset, .unset] [(.int (7 : Int32))]))
    obtain ⟨_, _, ⟨T80, L80, k80, n80⟩, -, X80, ⟨Lc80, hQ80, l80, y80, z80⟩, st80⟩ := Jvm.LawKit.callS X79 hx (y := (⟨"com/example/tenure_of_partitions/tenureofpartitions/ApiKeyServesPinLaw", "hi", "(I)I"⟩ : MethodName)) hown (mvT hZ (wdx hw 11 rfl)) (mvT hZ (wdx hw 12 rfl)) (mvT hZ (wdx hw 3 rfl)) (mvT hZ (wdx hw 13 rfl)) (by decide) (backOf (W := 0) (rm3 l Z a0 hw [] (7 : Int32) h0 n0 O0 ) hZ (wdx hw 13 rfl) (wdx hw 3 rfl) (by decide) (by decide)) (g := (mkF m 24 #[.val (.int kk), .val (.int vv), .val (.int (7 : Int32)), .val (.ref a_JOIN_GROUP), .val (.int (vv.toInt16.toInt32)), .val (.int (0 : Int32)), .unset, .unset] [(.int (7 : Int32))])) rfl (by rw [hml]; rfl) (argsL := [(.int (7 : Int32))]) (rest := []) (lenOf pd__I_I rfl) rfl (by show 2 * 0 + _ ≤ _; exact Nat.le_of_eq rfl) (hb hby at_24) (fun _ _ => ⟨rfl, eq79, (by exact Nat.le_of_ble_eq_true rfl), (by exact Nat.le_of_ble_eq_true rfl)⟩)
    dsimp only [Pt.U, Pt.locs, Pt.cells, Pt.slots] at X80 l80 y80 z80 st80 hQ80
    subst l80 y80 z80
    obtain ⟨rfl, Nq80, eq80⟩ := hQ80
    have N80 := Fr.app N79 Nq80
    refine Go.st st80 ?_
    show Go p e below s _ _ _ (T80.setTop (mkF m 27 #[.val (.int kk), .val (.int vv), .val (.int (7 : Int32)), .val (.ref a_JOIN_GROUP), .val (.int (vv.toInt16.toInt32)), .val (.int (0 : Int32)), .unset, .unset] [(.int (fhi (7 : Int32)))]))
    show Go p e below s _ _ _ (T80.setTop (mkF m 27 #[.val (.int kk), .val (.int vv), .val (.int (7 : Int32)), .val (.ref a_JOIN_GROUP), .val (.int (vv.toInt16.toInt32)), .val (.int (0 : Int32)), .unset, .unset] [(.int (5 : Int32))]))
    refine Go.st (fun _ k' => XS.istore X80.here hx rfl (hb hby at_27) rfl (l' := #[.val (.int kk), .val (.int vv), .val (.int (7 : Int32)), .val (.ref a_JOIN_GROUP), .val (.int (vv.toInt16.toInt32)), .val (.int (0 : Int32)), .val (.int (5 : Int32)), .unset]) rfl k') ?_
    show Go p e below s _ _ _ (T80.setTop (mkF m 29 #[.val (.int kk), .val (.int vv), .val (.int (7 : Int32)), .val (.ref a_JOIN_GROUP), .val (.int (vv.toInt16.toInt32)), .val (.int (0 : Int32)), .val (.int (5 : Int32)), .unset] []))
    refine Go.st (fun _ k' => XS.iload X80.here hx rfl (hb hby at_29) rfl k') ?_
    show Go p e below s _ _ _ (T80.setTop (mkF m 31 #[.val (.int kk), .val (.int vv), .val (.int (7 : Int32)), .val (.ref a_JOIN_GROUP), .val (.int (vv.toInt16.toInt32)), .val (.int (0 : Int32)), .val (.int (5 : Int32)), .unset] [(.int (vv.toInt16.toInt32))]))
    refine Go.st (fun _ k' => XS.iload X80.here hx rfl (hb hby at_31) rfl k') ?_
    show Go p e below s _ _ _ (T80.setTop (mkF m 33 #[.val (.int kk), .val (.int vv), .val (.int (7 : Int32)), .val (.ref a_JOIN_GROUP), .val (.int (vv.toInt16.toInt32)), .val (.int (0 : Int32)), .val (.int (5 : Int32)), .unset] [(.int (0 : Int32)), (.int (vv.toInt16.toInt32))]))
    by_cases hc81 : (vv.toInt16.toInt32) < (0 : Int32)
    · refine Go.st (fun _ k' => XS.icmpYes X80.here hx rfl (pc0 := 33) (pc' := 47) rfl (hb hby at_33) rfl (XT.ii_lt_t hc81) (by decide) (by decide) k') ?_
      show Go p e below s _ _ _ (T80.setTop (mkF m 47 #[.val (.int kk), .val (.int vv), .val (.int (7 : Int32)), .val (.ref a_JOIN_GROUP), .val (.int (vv.toInt16.toInt32)), .val (.int (0 : Int32)), .val (.int (5 : Int32)), .unset] []))
      refine Go.st (fun _ k' => XS.iconst X80.here hx rfl (hb hby at_47) k') ?_
      show Go p e below s _ _ _ (T80.setTop (mkF m 48 #[.val (.int kk), .val (.int vv), .val (.int (7 : Int32)), .val (.ref a_JOIN_GROUP), .val (.int (vv.toInt16.toInt32)), .val (.int (0 : Int32)), .val (.int (5 : Int32)), .unset] [(.int (0 : Int32))]))
      refine Go.st (fun _ k' => XS.istore X80.here hx rfl (hb hby at_48) rfl (l' := #[.val (.int kk), .val (.int vv), .val (.int (7 : Int32)), .val (.ref a_JOIN_GROUP), .val (.int (vv.toInt16.toInt32)), .val (.int (0 : Int32)), .val (.int (5 : Int32)), .val (.int (0 : Int32))]) rfl k') ?_
      show Go p e below s _ _ _ (T80.setTop (mkF m 50 #[.val (.int kk), .val (.int vv), .val (.int (7 : Int32)), .val (.ref a_JOIN_GROUP), .val (.int (vv.toInt16.toInt32)), .val (.int (0 : Int32)), .val (.int (5 : Int32)), .val (.int (0 : Int32))] []))
      refine Go.st (fun _ k' => XS.aloadN X80.here hx rfl (hb hby at_50) rfl rfl k') ?_
      show Go p e below s _ _ _ (T80.setTop (mkF m 51 #[.val (.int kk), .val (.int vv), .val (.int (7 : Int32)), .val (.ref a_JOIN_GROUP), .val (.int (vv.toInt16.toInt32)), .val (.int (0 : Int32)), .val (.int (5 : Int32)), .val (.int (0 : Int32))] [(.ref a_JOIN_GROUP)]))
      refine Go.st (fun _ k' => XS.iload X80.here hx rfl (hb hby at_51) rfl k') ?_
      show Go p e below s _ _ _ (T80.setTop (mkF m 53 #[.val (.int kk), .val (.int vv), .val (.int (7 : Int32)), .val (.ref a_JOIN_GROUP), .val (.int (vv.toInt16.toInt32)), .val (.int (0 : Int32)), .val (.int (5 : Int32)), .val (.int (0 : Int32))] [(.int (vv.toInt16.toInt32)), (.ref a_JOIN_GROUP)]))
      obtain ⟨cq82, kq82, q82a, q82b, q82c⟩ := isOf hZ eq80 E_JOIN_GROUP
      obtain ⟨_, _, ⟨T82, L82, k82, n82⟩, -, X82, ⟨Lc82, hQ82, l82, y82, z82⟩, st82⟩ := X80.virtualBack hx (y := (⟨"com/example/tenure_of_partitions/tenureofpartitions/ApiKey", "serves", "(S)Z"⟩ : MethodName)) (z := (⟨"com/example/tenure_of_partitions/tenureofpartitions/ApiKey", "serves", "(S)Z"⟩ : MethodName)) hown (mvT hZ (wdx hw 14 rfl)) (mvT hZ (wdx hw 15 rfl)) (notFace_of_selects (args := #[]) (mvT hZ (wdx hw 17 rfl))) (mvT hZ (wdx hw 17 rfl)) (mvT hZ (wdx hw 16 rfl)) (by decide) (backOf (W := 0) (rm4 l Z a0 hw [] a_JOIN_GROUP (vv.toInt16.toInt32) (0 : Int32) (5 : Int32) h0 n0 O0 F_JOIN_GROUP_minVersion F_JOIN_GROUP_maxVersion) hZ (wdx hw 18 rfl) (wdx hw 6 rfl) (by decide) (by decide)) q82a q82c (g := (mkF m 53 #[.val (.int kk), .val (.int vv), .val (.int (7 : Int32)), .val (.ref a_JOIN_GROUP), .val (.int (vv.toInt16.toInt32)), .val (.int (0 : Int32)), .val (.int (5 : Int32)), .val (.int (0 : Int32))] [(.int (vv.toInt16.toInt32)), (.ref a_JOIN_GROUP)])) rfl (by rw [hml]; rfl) (Steps.refl _) (argsL := [(.int (vv.toInt16.toInt32))]) (rest := []) (lenOf pd__S_Z rfl) rfl (by show 2 * 0 + _ ≤ _; exact Nat.le_of_eq rfl) (hb hby at_53) (fun _ _ => ⟨rfl, eq80, (by exact Nat.le_of_ble_eq_true rfl), (by exact Nat.le_of_ble_eq_true rfl)⟩)
      dsimp only [Pt.U, Pt.locs, Pt.cells, Pt.slots] at X82 l82 y82 z82 st82 hQ82
      subst l82 y82 z82
      obtain ⟨rfl, Nq82, eq82⟩ := hQ82
      have N82 := Fr.app N80 Nq82
      refine Go.tr st82 ?_
      show Go p e below s _ _ _ (T82.setTop (mkF m 56 #[.val (.int kk), .val (.int vv), .val (.int (7 : Int32)), .val (.ref a_JOIN_GROUP), .val (.int (vv.toInt16.toInt32)), .val (.int (0 : Int32)), .val (.int (5 : Int32)), .val (.int (0 : Int32))] [(.int (if (vv.toInt16.toInt32) < (0 : Int32) then (0 : Int32) else if (5 : Int32) < (vv.toInt16.toInt32) then 0 else 1))]))
      refine Go.st (fun _ k' => XS.iload X82.here hx rfl (hb hby at_56) rfl k') ?_
      show Go p e below s _ _ _ (T82.setTop (mkF m 58 #[.val (.int kk), .val (.int vv), .val (.int (7 : Int32)), .val (.ref a_JOIN_GROUP), .val (.int (vv.toInt16.toInt32)), .val (.int (0 : Int32)), .val (.int (5 : Int32)), .val (.int (0 : Int32))] [(.int (0 : Int32)), (.int (if (vv.toInt16.toInt32) < (0 : Int32) then (0 : Int32) else if (5 : Int32) < (vv.toInt16.toInt32) then 0 else 1))]))
      by_cases hc83 : (if (vv.toInt16.toInt32) < (0 : Int32) then (0 : Int32) else if (5 : Int32) < (vv.toInt16.toInt32) then 0 else 1) = (0 : Int32)
      · refine Go.st (fun _ k' => XS.icmpNo X82.here hx rfl (hb hby at_58) rfl (XT.ii_ne_f hc83) k') ?_
        show Go p e below s _ _ _ (T82.setTop (mkF m 61 #[.val (.int kk), .val (.int vv), .val (.int (7 : Int32)), .val (.ref a_JOIN_GROUP), .val (.int (vv.toInt16.toInt32)), .val (.int (0 : Int32)), .val (.int (5 : Int32)), .val (.int (0 : Int32))] []))
        refine Go.st (fun _ k' => XS.iconst X82.here hx rfl (hb hby at_61) k') ?_
        show Go p e below s _ _ _ (T82.setTop (mkF m 62 #[.val (.int kk), .val (.int vv), .val (.int (7 : Int32)), .val (.ref a_JOIN_GROUP), .val (.int (vv.toInt16.toInt32)), .val (.int (0 : Int32)), .val (.int (5 : Int32)), .val (.int (0 : Int32))] [(.int (1 : Int32))]))
        refine Go.st (fun _ k' => XS.goto X82.here hx rfl (pc0 := 62) (pc' := 66) rfl (hb hby at_62) (by decide) (by decide) k') ?_
        show Go p e below s _ _ _ (T82.setTop (mkF m 66 #[.val (.int kk), .val (.int vv), .val (.int (7 : Int32)), .val (.ref a_JOIN_GROUP), .val (.int (vv.toInt16.toInt32)), .val (.int (0 : Int32)), .val (.int (5 : Int32)), .val (.int (0 : Int32))] [(.int (1 : Int32))]))
        refine Go.retB X82 hx hlk (t := .boolean) Bd.returns (by simp) (hb hby at_66) (by decide) (by decide) eq82 ?_
        exact ⟨rfl, N82, trivial⟩
      · refine Go.st (fun _ k' => XS.icmpYes X82.here hx rfl (pc0 := 58) (pc' := 65) rfl (hb hby at_58) rfl (XT.ii_ne_t hc83) (by decide) (by decide) k') ?_
        show Go p e below s _ _ _ (T82.setTop (mkF m 65 #[.val (.int kk), .val (.int vv), .val (.int (7 : Int32)), .val (.ref a_JOIN_GROUP), .val (.int (vv.toInt16.toInt32)), .val (.int (0 : Int32)), .val (.int (5 : Int32)), .val (.int (0 : Int32))] []))
        refine Go.st (fun _ k' => XS.iconst X82.here hx rfl (hb hby at_65) k') ?_
        show Go p e below s _ _ _ (T82.setTop (mkF m 66 #[.val (.int kk), .val (.int vv), .val (.int (7 : Int32)), .val (.ref a_JOIN_GROUP), .val (.int (vv.toInt16.toInt32)), .val (.int (0 : Int32)), .val (.int (5 : Int32)), .val (.int (0 : Int32))] [(.int (0 : Int32))]))
        refine Go.retB X82 hx hlk (t := .boolean) Bd.returns (by simp) (hb hby at_66) (by decide) (by decide) eq82 ?_
        exact absurd (by simp [hc81]) hc83
    · refine Go.st (fun _ k' => XS.icmpNo X80.here hx rfl (hb hby at_33) rfl (XT.ii_lt_f hc81) k') ?_
      show Go p e below s _ _ _ (T80.setTop (mkF m 36 #[.val (.int kk), .val (.int vv), .val (.int (7 : Int32)), .val (.ref a_JOIN_GROUP), .val (.int (vv.toInt16.toInt32)), .val (.int (0 : Int32)), .val (.int (5 : Int32)), .unset] []))
      refine Go.st (fun _ k' => XS.iload X80.here hx rfl (hb hby at_36) rfl k') ?_
      show Go p e below s _ _ _ (T80.setTop (mkF m 38 #[.val (.int kk), .val (.int vv), .val (.int (7 : Int32)), .val (.ref a_JOIN_GROUP), .val (.int (vv.toInt16.toInt32)), .val (.int (0 : Int32)), .val (.int (5 : Int32)), .unset] [(.int (vv.toInt16.toInt32))]))
      refine Go.st (fun _ k' => XS.iload X80.here hx rfl (hb hby at_38) rfl k') ?_
      show Go p e below s _ _ _ (T80.setTop (mkF m 40 #[.val (.int kk), .val (.int vv), .val (.int (7 : Int32)), .val (.ref a_JOIN_GROUP), .val (.int (vv.toInt16.toInt32)), .val (.int (0 : Int32)), .val (.int (5 : Int32)), .unset] [(.int (5 : Int32)), (.int (vv.toInt16.toInt32))]))
      by_cases hc84 : (5 : Int32) < (vv.toInt16.toInt32)
      · refine Go.st (fun _ k' => XS.icmpYes X80.here hx rfl (pc0 := 40) (pc' := 47) rfl (hb hby at_40) rfl (XT.ii_gt_t hc84) (by decide) (by decide) k') ?_
        show Go p e below s _ _ _ (T80.setTop (mkF m 47 #[.val (.int kk), .val (.int vv), .val (.int (7 : Int32)), .val (.ref a_JOIN_GROUP), .val (.int (vv.toInt16.toInt32)), .val (.int (0 : Int32)), .val (.int (5 : Int32)), .unset] []))
        refine Go.st (fun _ k' => XS.iconst X80.here hx rfl (hb hby at_47) k') ?_
        show Go p e below s _ _ _ (T80.setTop (mkF m 48 #[.val (.int kk), .val (.int vv), .val (.int (7 : Int32)), .val (.ref a_JOIN_GROUP), .val (.int (vv.toInt16.toInt32)), .val (.int (0 : Int32)), .val (.int (5 : Int32)), .unset] [(.int (0 : Int32))]))
        refine Go.st (fun _ k' => XS.istore X80.here hx rfl (hb hby at_48) rfl (l' := #[.val (.int kk), .val (.int vv), .val (.int (7 : Int32)), .val (.ref a_JOIN_GROUP), .val (.int (vv.toInt16.toInt32)), .val (.int (0 : Int32)), .val (.int (5 : Int32)), .val (.int (0 : Int32))]) rfl k') ?_
        show Go p e below s _ _ _ (T80.setTop (mkF m 50 #[.val (.int kk), .val (.int vv), .val (.int (7 : Int32)), .val (.ref a_JOIN_GROUP), .val (.int (vv.toInt16.toInt32)), .val (.int (0 : Int32)), .val (.int (5 : Int32)), .val (.int (0 : Int32))] []))
        refine Go.st (fun _ k' => XS.aloadN X80.here hx rfl (hb hby at_50) rfl rfl k') ?_
        show Go p e below s _ _ _ (T80.setTop (mkF m 51 #[.val (.int kk), .val (.int vv), .val (.int (7 : Int32)), .val (.ref a_JOIN_GROUP), .val (.int (vv.toInt16.toInt32)), .val (.int (0 : Int32)), .val (.int (5 : Int32)), .val (.int (0 : Int32))] [(.ref a_JOIN_GROUP)]))
        refine Go.st (fun _ k' => XS.iload X80.here hx rfl (hb hby at_51) rfl k') ?_
        show Go p e below s _ _ _ (T80.setTop (mkF m 53 #[.val (.int kk), .val (.int vv), .val (.int (7 : Int32)), .val (.ref a_JOIN_GROUP), .val (.int (vv.toInt16.toInt32)), .val (.int (0 : Int32)), .val (.int (5 : Int32)), .val (.int (0 : Int32))] [(.int (vv.toInt16.toInt32)), (.ref a_JOIN_GROUP)]))
        obtain ⟨cq85, kq85, q85a, q85b, q85c⟩ := isOf hZ eq80 E_JOIN_GROUP
        obtain ⟨_, _, ⟨T85, L85, k85, n85⟩, -, X85, ⟨Lc85, hQ85, l85, y85, z85⟩, st85⟩ := X80.virtualBack hx (y := (⟨"com/example/tenure_of_partitions/tenureofpartitions/ApiKey", "serves", "(S)Z"⟩ : MethodName)) (z := (⟨"com/example/tenure_of_partitions/tenureofpartitions/ApiKey", "serves", "(S)Z"⟩ : MethodName)) hown (mvT hZ (wdx hw 14 rfl)) (mvT hZ (wdx hw 15 rfl)) (notFace_of_selects (args := #[]) (mvT hZ (wdx hw 17 rfl))) (mvT hZ (wdx hw 17 rfl)) (mvT hZ (wdx hw 16 rfl)) (by decide) (backOf (W := 0) (rm4 l Z a0 hw [] a_JOIN_GROUP (vv.toInt16.toInt32) (0 : Int32) (5 : Int32) h0 n0 O0 F_JOIN_GROUP_minVersion F_JOIN_GROUP_maxVersion) hZ (wdx hw 18 rfl) (wdx hw 6 rfl) (by decide) (by decide)) q85a q85c (g := (mkF m 53 #[.val (.int kk), .val (.int vv), .val (.int (7 : Int32)), .val (.ref a_JOIN_GROUP), .val (.int (vv.toInt16.toInt32)), .val (.int (0 : Int32)), .val (.int (5 : Int32)), .val (.int (0 : Int32))] [(.int (vv.toInt16.toInt32)), (.ref a_JOIN_GROUP)])) rfl (by rw [hml]; rfl) (Steps.refl _) (argsL := [(.int (vv.toInt16.toInt32))]) (rest := []) (lenOf pd__S_Z rfl) rfl (by show 2 * 0 + _ ≤ _; exact Nat.le_of_eq rfl) (hb hby at_53) (fun _ _ => ⟨rfl, eq80, (by exact Nat.le_of_ble_eq_true rfl), (by exact Nat.le_of_ble_eq_true rfl)⟩)
        dsimp only [Pt.U, Pt.locs, Pt.cells, Pt.slots] at X85 l85 y85 z85 st85 hQ85
        subst l85 y85 z85
        obtain ⟨rfl, Nq85, eq85⟩ := hQ85
        have N85 := Fr.app N80 Nq85
        refine Go.tr st85 ?_
        show Go p e below s _ _ _ (T85.setTop (mkF m 56 #[.val (.int kk), .val (.int vv), .val (.int (7 : Int32)), .val (.ref a_JOIN_GROUP), .val (.int (vv.toInt16.toInt32)), .val (.int (0 : Int32)), .val (.int (5 : Int32)), .val (.int (0 : Int32))] [(.int (if (vv.toInt16.toInt32) < (0 : Int32) then (0 : Int32) else if (5 : Int32) < (vv.toInt16.toInt32) then 0 else 1))]))
        refine Go.st (fun _ k' => XS.iload X85.here hx rfl (hb hby at_56) rfl k') ?_
        show Go p e below s _ _ _ (T85.setTop (mkF m 58 #[.val (.int kk), .val (.int vv), .val (.int (7 : Int32)), .val (.ref a_JOIN_GROUP), .val (.int (vv.toInt16.toInt32)), .val (.int (0 : Int32)), .val (.int (5 : Int32)), .val (.int (0 : Int32))] [(.int (0 : Int32)), (.int (if (vv.toInt16.toInt32) < (0 : Int32) then (0 : Int32) else if (5 : Int32) < (vv.toInt16.toInt32) then 0 else 1))]))
        by_cases hc86 : (if (vv.toInt16.toInt32) < (0 : Int32) then (0 : Int32) else if (5 : Int32) < (vv.toInt16.toInt32) then 0 else 1) = (0 : Int32)
        · refine Go.st (fun _ k' => XS.icmpNo X85.here hx rfl (hb hby at_58) rfl (XT.ii_ne_f hc86) k') ?_
          show Go p e below s _ _ _ (T85.setTop (mkF m 61 #[.val (.int kk), .val (.int vv), .val (.int (7 : Int32)), .val (.ref a_JOIN_GROUP), .val (.int (vv.toInt16.toInt32)), .val (.int (0 : Int32)), .val (.int (5 : Int32)), .val (.int (0 : Int32))] []))
          refine Go.st (fun _ k' => XS.iconst X85.here hx rfl (hb hby at_61) k') ?_
          show Go p e below s _ _ _ (T85.setTop (mkF m 62 #[.val (.int kk), .val (.int vv), .val (.int (7 : Int32)), .val (.ref a_JOIN_GROUP), .val (.int (vv.toInt16.toInt32)), .val (.int (0 : Int32)), .val (.int (5 : Int32)), .val (.int (0 : Int32))] [(.int (1 : Int32))]))
          refine Go.st (fun _ k' => XS.goto X85.here hx rfl (pc0 := 62) (pc' := 66) rfl (hb hby at_62) (by decide) (by decide) k') ?_
          show Go p e below s _ _ _ (T85.setTop (mkF m 66 #[.val (.int kk), .val (.int vv), .val (.int (7 : Int32)), .val (.ref a_JOIN_GROUP), .val (.int (vv.toInt16.toInt32)), .val (.int (0 : Int32)), .val (.int (5 : Int32)), .val (.int (0 : Int32))] [(.int (1 : Int32))]))
          refine Go.retB X85 hx hlk (t := .boolean) Bd.returns (by simp) (hb hby at_66) (by decide) (by decide) eq85 ?_
          exact ⟨rfl, N85, trivial⟩
        · refine Go.st (fun _ k' => XS.icmpYes X85.here hx rfl (pc0 := 58) (pc' := 65) rfl (hb hby at_58) rfl (XT.ii_ne_t hc86) (by decide) (by decide) k') ?_
          show Go p e below s _ _ _ (T85.setTop (mkF m 65 #[.val (.int kk), .val (.int vv), .val (.int (7 : Int32)), .val (.ref a_JOIN_GROUP), .val (.int (vv.toInt16.toInt32)), .val (.int (0 : Int32)), .val (.int (5 : Int32)), .val (.int (0 : Int32))] []))
          refine Go.st (fun _ k' => XS.iconst X85.here hx rfl (hb hby at_65) k') ?_
          show Go p e below s _ _ _ (T85.setTop (mkF m 66 #[.val (.int kk), .val (.int vv), .val (.int (7 : Int32)), .val (.ref a_JOIN_GROUP), .val (.int (vv.toInt16.toInt32)), .val (.int (0 : Int32)), .val (.int (5 : Int32)), .val (.int (0 : Int32))] [(.int (0 : Int32))]))
          refine Go.retB X85 hx hlk (t := .boolean) Bd.returns (by simp) (hb hby at_66) (by decide) (by decide) eq85 ?_
          exact absurd (by simp [hc81, hc84]) hc86
      · refine Go.st (fun _ k' => XS.icmpNo X80.here hx rfl (hb hby at_40) rfl (XT.ii_gt_f hc84) k') ?_
        show Go p e below s _ _ _ (T80.setTop (mkF m 43 #[.val (.int kk), .val (.int vv), .val (.int (7 : Int32)), .val (.ref a_JOIN_GROUP), .val (.int (vv.toInt16.toInt32)), .val (.int (0 : Int32)), .val (.int (5 : Int32)), .unset] []))
        refine Go.st (fun _ k' => XS.iconst X80.here hx rfl (hb hby at_43) k') ?_
        show Go p e below s _ _ _ (T80.setTop (mkF m 44 #[.val (.int kk), .val (.int vv), .val (.int (7 : Int32)), .val (.ref a_JOIN_GROUP), .val (.int (vv.toInt16.toInt32)), .val (.int (0 : Int32)), .val (.int (5 : Int32)), .unset] [(.int (1 : Int32))]))
        refine Go.st (fun _ k' => XS.goto X80.here hx rfl (pc0 := 44) (pc' := 48) rfl (hb hby at_44) (by decide) (by decide) k') ?_
        show Go p e below s _ _ _ (T80.setTop (mkF m 48 #[.val (.int kk), .val (.int vv), .val (.int (7 : Int32)), .val (.ref a_JOIN_GROUP), .val (.int (vv.toInt16.toInt32)), .val (.int (0 : Int32)), .val (.int (5 : Int32)), .unset] [(.int (1 : Int32))]))
        refine Go.st (fun _ k' => XS.istore X80.here hx rfl (hb hby at_48) rfl (l' := #[.val (.int kk), .val (.int vv), .val (.int (7 : Int32)), .val (.ref a_JOIN_GROUP), .val (.int (vv.toInt16.toInt32)), .val (.int (0 : Int32)), .val (.int (5 : Int32)), .val (.int (1 : Int32))]) rfl k') ?_
        show Go p e below s _ _ _ (T80.setTop (mkF m 50 #[.val (.int kk), .val (.int vv), .val (.int (7 : Int32)), .val (.ref a_JOIN_GROUP), .val (.int (vv.toInt16.toInt32)), .val (.int (0 : Int32)), .val (.int (5 : Int32)), .val (.int (1 : Int32))] []))
        refine Go.st (fun _ k' => XS.aloadN X80.here hx rfl (hb hby at_50) rfl rfl k') ?_
        show Go p e below s _ _ _ (T80.setTop (mkF m 51 #[.val (.int kk), .val (.int vv), .val (.int (7 : Int32)), .val (.ref a_JOIN_GROUP), .val (.int (vv.toInt16.toInt32)), .val (.int (0 : Int32)), .val (.int (5 : Int32)), .val (.int (1 : Int32))] [(.ref a_JOIN_GROUP)]))
        refine Go.st (fun _ k' => XS.iload X80.here hx rfl (hb hby at_51) rfl k') ?_
        show Go p e below s _ _ _ (T80.setTop (mkF m 53 #[.val (.int kk), .val (.int vv), .val (.int (7 : Int32)), .val (.ref a_JOIN_GROUP), .val (.int (vv.toInt16.toInt32)), .val (.int (0 : Int32)), .val (.int (5 : Int32)), .val (.int (1 : Int32))] [(.int (vv.toInt16.toInt32)), (.ref a_JOIN_GROUP)]))
        obtain ⟨cq87, kq87, q87a, q87b, q87c⟩ := isOf hZ eq80 E_JOIN_GROUP
        obtain ⟨_, _, ⟨T87, L87, k87, n87⟩, -, X87, ⟨Lc87, hQ87, l87, y87, z87⟩, st87⟩ := X80.virtualBack hx (y := (⟨"com/example/tenure_of_partitions/tenureofpartitions/ApiKey", "serves", "(S)Z"⟩ : MethodName)) (z := (⟨"com/example/tenure_of_partitions/tenureofpartitions/ApiKey", "serves", "(S)Z"⟩ : MethodName)) hown (mvT hZ (wdx hw 14 rfl)) (mvT hZ (wdx hw 15 rfl)) (notFace_of_selects (args := #[]) (mvT hZ (wdx hw 17 rfl))) (mvT hZ (wdx hw 17 rfl)) (mvT hZ (wdx hw 16 rfl)) (by decide) (backOf (W := 0) (rm4 l Z a0 hw [] a_JOIN_GROUP (vv.toInt16.toInt32) (0 : Int32) (5 : Int32) h0 n0 O0 F_JOIN_GROUP_minVersion F_JOIN_GROUP_maxVersion) hZ (wdx hw 18 rfl) (wdx hw 6 rfl) (by decide) (by decide)) q87a q87c (g := (mkF m 53 #[.val (.int kk), .val (.int vv), .val (.int (7 : Int32)), .val (.ref a_JOIN_GROUP), .val (.int (vv.toInt16.toInt32)), .val (.int (0 : Int32)), .val (.int (5 : Int32)), .val (.int (1 : Int32))] [(.int (vv.toInt16.toInt32)), (.ref a_JOIN_GROUP)])) rfl (by rw [hml]; rfl) (Steps.refl _) (argsL := [(.int (vv.toInt16.toInt32))]) (rest := []) (lenOf pd__S_Z rfl) rfl (by show 2 * 0 + _ ≤ _; exact Nat.le_of_eq rfl) (hb hby at_53) (fun _ _ => ⟨rfl, eq80, (by exact Nat.le_of_ble_eq_true rfl), (by exact Nat.le_of_ble_eq_true rfl)⟩)
        dsimp only [Pt.U, Pt.locs, Pt.cells, Pt.slots] at X87 l87 y87 z87 st87 hQ87
        subst l87 y87 z87
        obtain ⟨rfl, Nq87, eq87⟩ := hQ87
        have N87 := Fr.app N80 Nq87
        refine Go.tr st87 ?_
        show Go p e below s _ _ _ (T87.setTop (mkF m 56 #[.val (.int kk), .val (.int vv), .val (.int (7 : Int32)), .val (.ref a_JOIN_GROUP), .val (.int (vv.toInt16.toInt32)), .val (.int (0 : Int32)), .val (.int (5 : Int32)), .val (.int (1 : Int32))] [(.int (if (vv.toInt16.toInt32) < (0 : Int32) then (0 : Int32) else if (5 : Int32) < (vv.toInt16.toInt32) then 0 else 1))]))
        refine Go.st (fun _ k' => XS.iload X87.here hx rfl (hb hby at_56) rfl k') ?_
        show Go p e below s _ _ _ (T87.setTop (mkF m 58 #[.val (.int kk), .val (.int vv), .val (.int (7 : Int32)), .val (.ref a_JOIN_GROUP), .val (.int (vv.toInt16.toInt32)), .val (.int (0 : Int32)), .val (.int (5 : Int32)), .val (.int (1 : Int32))] [(.int (1 : Int32)), (.int (if (vv.toInt16.toInt32) < (0 : Int32) then (0 : Int32) else if (5 : Int32) < (vv.toInt16.toInt32) then 0 else 1))]))
        by_cases hc88 : (if (vv.toInt16.toInt32) < (0 : Int32) then (0 : Int32) else if (5 : Int32) < (vv.toInt16.toInt32) then 0 else 1) = (1 : Int32)
        · refine Go.st (fun _ k' => XS.icmpNo X87.here hx rfl (hb hby at_58) rfl (XT.ii_ne_f hc88) k') ?_
          show Go p e below s _ _ _ (T87.setTop (mkF m 61 #[.val (.int kk), .val (.int vv), .val (.int (7 : Int32)), .val (.ref a_JOIN_GROUP), .val (.int (vv.toInt16.toInt32)), .val (.int (0 : Int32)), .val (.int (5 : Int32)), .val (.int (1 : Int32))] []))
          refine Go.st (fun _ k' => XS.iconst X87.here hx rfl (hb hby at_61) k') ?_
          show Go p e below s _ _ _ (T87.setTop (mkF m 62 #[.val (.int kk), .val (.int vv), .val (.int (7 : Int32)), .val (.ref a_JOIN_GROUP), .val (.int (vv.toInt16.toInt32)), .val (.int (0 : Int32)), .val (.int (5 : Int32)), .val (.int (1 : Int32))] [(.int (1 : Int32))]))
          refine Go.st (fun _ k' => XS.goto X87.here hx rfl (pc0 := 62) (pc' := 66) rfl (hb hby at_62) (by decide) (by decide) k') ?_
          show Go p e below s _ _ _ (T87.setTop (mkF m 66 #[.val (.int kk), .val (.int vv), .val (.int (7 : Int32)), .val (.ref a_JOIN_GROUP), .val (.int (vv.toInt16.toInt32)), .val (.int (0 : Int32)), .val (.int (5 : Int32)), .val (.int (1 : Int32))] [(.int (1 : Int32))]))
          refine Go.retB X87 hx hlk (t := .boolean) Bd.returns (by simp) (hb hby at_66) (by decide) (by decide) eq87 ?_
          exact ⟨rfl, N87, trivial⟩
        · refine Go.st (fun _ k' => XS.icmpYes X87.here hx rfl (pc0 := 58) (pc' := 65) rfl (hb hby at_58) rfl (XT.ii_ne_t hc88) (by decide) (by decide) k') ?_
          show Go p e below s _ _ _ (T87.setTop (mkF m 65 #[.val (.int kk), .val (.int vv), .val (.int (7 : Int32)), .val (.ref a_JOIN_GROUP), .val (.int (vv.toInt16.toInt32)), .val (.int (0 : Int32)), .val (.int (5 : Int32)), .val (.int (1 : Int32))] []))
          refine Go.st (fun _ k' => XS.iconst X87.here hx rfl (hb hby at_65) k') ?_
          show Go p e below s _ _ _ (T87.setTop (mkF m 66 #[.val (.int kk), .val (.int vv), .val (.int (7 : Int32)), .val (.ref a_JOIN_GROUP), .val (.int (vv.toInt16.toInt32)), .val (.int (0 : Int32)), .val (.int (5 : Int32)), .val (.int (1 : Int32))] [(.int (0 : Int32))]))
          refine Go.retB X87 hx hlk (t := .boolean) Bd.returns (by simp) (hb hby at_66) (by decide) (by decide) eq87 ?_
          exact absurd (by simp [hc81, hc84]) hc88
  · rw [hi]
    show Go p e below s _ _ _ (s₁.setTop (mkF m 8 #[.val (.int kk), .val (.int vv), .val (.int (8 : Int32)), .unset, .unset, .unset, .unset, .unset] []))
    refine Go.st (fun _ k' => XS.iloadN X0.here hx rfl (hb hby at_8) rfl k') ?_
    show Go p e below s _ _ _ (s₁.setTop (mkF m 9 #[.val (.int kk), .val (.int vv), .val (.int (8 : Int32)), .unset, .unset, .unset, .unset, .unset] [(.int (8 : Int32))]))
    obtain ⟨_, _, ⟨T89, L89, k89, n89⟩, -, X89, ⟨Lc89, hQ89, l89, y89, z89⟩, st89⟩ := Jvm.LawKit.callS X0 hx (y := (⟨"com/example/tenure_of_partitions/tenureofpartitions/ApiKeyServesPinLaw", "pick", "(I)Lcom/example/tenure_of_partitions/tenureofpartitions/ApiKey;"⟩ : MethodName)) hown (mvT hZ (wdx hw 1 rfl)) (mvT hZ (wdx hw 2 rfl)) (mvT hZ (wdx hw 3 rfl)) (mvT hZ (wdx hw 4 rfl)) (by decide) (backOf (W := 0) (rm1 l Z a0 hw [] (8 : Int32) a_PRODUCE a_FETCH a_LIST_OFFSETS a_METADATA a_OFFSET_COMMIT a_OFFSET_FETCH a_FIND_COORDINATOR a_JOIN_GROUP a_HEARTBEAT a_LEAVE_GROUP a_SYNC_GROUP a_DESCRIBE_GROUPS a_LIST_GROUPS a_API_VERSIONS h0 n0 O0 S_PRODUCE S_FETCH S_LIST_OFFSETS S_METADATA S_OFFSET_COMMIT S_OFFSET_FETCH S_FIND_COORDINATOR S_JOIN_GROUP S_HEARTBEAT S_LEAVE_GROUP S_SYNC_GROUP S_DESCRIBE_GROUPS S_LIST_GROUPS S_API_VERSIONS) hZ (wdx hw 4 rfl) (wdx hw 3 rfl) (by decide) (by decide)) (g := (mkF m 9 #[.val (.int kk), .val (.int vv), .val (.int (8 : Int32)), .unset, .unset, .unset, .unset, .unset] [(.int (8 : Int32))])) rfl (by rw [hml]; rfl) (argsL := [(.int (8 : Int32))]) (rest := []) (lenOf pd__I_Lcom_example_tenure_of_partitions_tenureofpartitions_ApiKey_ rfl) rfl (by show 2 * 0 + _ ≤ _; exact Nat.le_of_eq rfl) (hb hby at_9) (fun _ _ => ⟨rfl, e0, (by exact Nat.le_of_ble_eq_true rfl), (by exact Nat.le_of_ble_eq_true rfl)⟩)
    dsimp only [Pt.U, Pt.locs, Pt.cells, Pt.slots] at X89 l89 y89 z89 st89 hQ89
    subst l89 y89 z89
    obtain ⟨rfl, Nq89, eq89⟩ := hQ89
    have N89 := Fr.app N0 Nq89
    refine Go.st st89 ?_
    show Go p e below s _ _ _ (T89.setTop (mkF m 12 #[.val (.int kk), .val (.int vv), .val (.int (8 : Int32)), .unset, .unset, .unset, .unset, .unset] [(.ref (fpick (8 : Int32) a_PRODUCE a_FETCH a_LIST_OFFSETS a_METADATA a_OFFSET_COMMIT a_OFFSET_FETCH a_FIND_COORDINATOR a_JOIN_GROUP a_HEARTBEAT a_LEAVE_GROUP a_SYNC_GROUP a_DESCRIBE_GROUPS a_LIST_GROUPS a_API_VERSIONS))]))
    show Go p e below s _ _ _ (T89.setTop (mkF m 12 #[.val (.int kk), .val (.int vv), .val (.int (8 : Int32)), .unset, .unset, .unset, .unset, .unset] [(.ref a_HEARTBEAT)]))
    refine Go.st (fun _ k' => XS.astoreN X89.here hx rfl (hb hby at_12) rfl rfl (l' := #[.val (.int kk), .val (.int vv), .val (.int (8 : Int32)), .val (.ref a_HEARTBEAT), .unset, .unset, .unset, .unset]) rfl k') ?_
    show Go p e below s _ _ _ (T89.setTop (mkF m 13 #[.val (.int kk), .val (.int vv), .val (.int (8 : Int32)), .val (.ref a_HEARTBEAT), .unset, .unset, .unset, .unset] []))
    refine Go.st (fun _ k' => XS.iloadN X89.here hx rfl (hb hby at_13) rfl k') ?_
    show Go p e below s _ _ _ (T89.setTop (mkF m 14 #[.val (.int kk), .val (.int vv), .val (.int (8 : Int32)), .val (.ref a_HEARTBEAT), .unset, .unset, .unset, .unset] [(.int vv)]))
    refine Go.st (fun _ k' => XS.i2s X89.here hx rfl (hb hby at_14) rfl k') ?_
    show Go p e below s _ _ _ (T89.setTop (mkF m 15 #[.val (.int kk), .val (.int vv), .val (.int (8 : Int32)), .val (.ref a_HEARTBEAT), .unset, .unset, .unset, .unset] [(.int (vv.toInt16.toInt32))]))
    refine Go.st (fun _ k' => XS.istore X89.here hx rfl (hb hby at_15) rfl (l' := #[.val (.int kk), .val (.int vv), .val (.int (8 : Int32)), .val (.ref a_HEARTBEAT), .val (.int (vv.toInt16.toInt32)), .unset, .unset, .unset]) rfl k') ?_
    show Go p e below s _ _ _ (T89.setTop (mkF m 17 #[.val (.int kk), .val (.int vv), .val (.int (8 : Int32)), .val (.ref a_HEARTBEAT), .val (.int (vv.toInt16.toInt32)), .unset, .unset, .unset] []))
    refine Go.st (fun _ k' => XS.iloadN X89.here hx rfl (hb hby at_17) rfl k') ?_
    show Go p e below s _ _ _ (T89.setTop (mkF m 18 #[.val (.int kk), .val (.int vv), .val (.int (8 : Int32)), .val (.ref a_HEARTBEAT), .val (.int (vv.toInt16.toInt32)), .unset, .unset, .unset] [(.int (8 : Int32))]))
    obtain ⟨_, _, ⟨T90, L90, k90, n90⟩, -, X90, ⟨Lc90, hQ90, l90, y90, z90⟩, st90⟩ := Jvm.LawKit.callS X89 hx (y := (⟨"com/example/tenure_of_partitions/tenureofpartitions/ApiKeyServesPinLaw", "lo", "(I)I"⟩ : MethodName)) hown (mvT hZ (wdx hw 8 rfl)) (mvT hZ (wdx hw 9 rfl)) (mvT hZ (wdx hw 3 rfl)) (mvT hZ (wdx hw 10 rfl)) (by decide) (backOf (W := 0) (rm2 l Z a0 hw [] (8 : Int32) h0 n0 O0 ) hZ (wdx hw 10 rfl) (wdx hw 3 rfl) (by decide) (by decide)) (g := (mkF m 18 #[.val (.int kk), .val (.int vv), .val (.int (8 : Int32)), .val (.ref a_HEARTBEAT), .val (.int (vv.toInt16.toInt32)), .unset, .unset, .unset] [(.int (8 : Int32))])) rfl (by rw [hml]; rfl) (argsL := [(.int (8 : Int32))]) (rest := []) (lenOf pd__I_I rfl) rfl (by show 2 * 0 + _ ≤ _; exact Nat.le_of_eq rfl) (hb hby at_18) (fun _ _ => ⟨rfl, eq89, (by exact Nat.le_of_ble_eq_true rfl), (by exact Nat.le_of_ble_eq_true rfl)⟩)
    dsimp only [Pt.U, Pt.locs, Pt.cells, Pt.slots] at X90 l90 y90 z90 st90 hQ90
    subst l90 y90 z90
    obtain ⟨rfl, Nq90, eq90⟩ := hQ90
    have N90 := Fr.app N89 Nq90
    refine Go.st st90 ?_
    show Go p e below s _ _ _ (T90.setTop (mkF m 21 #[.val (.int kk), .val (.int vv), .val (.int (8 : Int32)), .val (.ref a_HEARTBEAT), .val (.int (vv.toInt16.toInt32)), .unset, .unset, .unset] [(.int (flo (8 : Int32)))]))
    show Go p e below s _ _ _ (T90.setTop (mkF m 21 #[.val (.int kk), .val (.int vv), .val (.int (8 : Int32)), .val (.ref a_HEARTBEAT), .val (.int (vv.toInt16.toInt32)), .unset, .unset, .unset] [(.int (0 : Int32))]))
    refine Go.st (fun _ k' => XS.istore X90.here hx rfl (hb hby at_21) rfl (l' := #[.val (.int kk), .val (.int vv), .val (.int (8 : Int32)), .val (.ref a_HEARTBEAT), .val (.int (vv.toInt16.toInt32)), .val (.int (0 : Int32)), .unset, .unset]) rfl k') ?_
    show Go p e below s _ _ _ (T90.setTop (mkF m 23 #[.val (.int kk), .val (.int vv), .val (.int (8 : Int32)), .val (.ref a_HEARTBEAT), .val (.int (vv.toInt16.toInt32)), .val (.int (0 : Int32)), .unset, .unset] []))
    refine Go.st (fun _ k' => XS.iloadN X90.here hx rfl (hb hby at_23) rfl k') ?_
    show Go p e below s _ _ _ (T90.setTop (mkF m 24 #[.val (.int kk), .val (.int vv), .val (.int (8 : Int32)), .val (.ref a_HEARTBEAT), .val (.int (vv.toInt16.toInt32)), .val (.int (0 : Int32)), .unset, .unset] [(.int (8 : Int32))]))
    obtain ⟨_, _, ⟨T91, L91, k91, n91⟩, -, X91, ⟨Lc91, hQ91, l91, y91, z91⟩, st91⟩ := Jvm.LawKit.callS X90 hx (y := (⟨"com/example/tenure_of_partitions/tenureofpartitions/ApiKeyServesPinLaw", "hi", "(I)I"⟩ : MethodName)) hown (mvT hZ (wdx hw 11 rfl)) (mvT hZ (wdx hw 12 rfl)) (mvT hZ (wdx hw 3 rfl)) (mvT hZ (wdx hw 13 rfl)) (by decide) (backOf (W := 0) (rm3 l Z a0 hw [] (8 : Int32) h0 n0 O0 ) hZ (wdx hw 13 rfl) (wdx hw 3 rfl) (by decide) (by decide)) (g := (mkF m 24 #[.val (.int kk), .val (.int vv), .val (.int (8 : Int32)), .val (.ref a_HEARTBEAT), .val (.int (vv.toInt16.toInt32)), .val (.int (0 : Int32)), .unset, .unset] [(.int (8 : Int32))])) rfl (by rw [hml]; rfl) (argsL := [(.int (8 : Int32))]) (rest := []) (lenOf pd__I_I rfl) rfl (by show 2 * 0 + _ ≤ _; exact Nat.le_of_eq rfl) (hb hby at_24) (fun _ _ => ⟨rfl, eq90, (by exact Nat.le_of_ble_eq_true rfl), (by exact Nat.le_of_ble_eq_true rfl)⟩)
    dsimp only [Pt.U, Pt.locs, Pt.cells, Pt.slots] at X91 l91 y91 z91 st91 hQ91
    subst l91 y91 z91
    obtain ⟨rfl, Nq91, eq91⟩ := hQ91
    have N91 := Fr.app N90 Nq91
    refine Go.st st91 ?_
    show Go p e below s _ _ _ (T91.setTop (mkF m 27 #[.val (.int kk), .val (.int vv), .val (.int (8 : Int32)), .val (.ref a_HEARTBEAT), .val (.int (vv.toInt16.toInt32)), .val (.int (0 : Int32)), .unset, .unset] [(.int (fhi (8 : Int32)))]))
    show Go p e below s _ _ _ (T91.setTop (mkF m 27 #[.val (.int kk), .val (.int vv), .val (.int (8 : Int32)), .val (.ref a_HEARTBEAT), .val (.int (vv.toInt16.toInt32)), .val (.int (0 : Int32)), .unset, .unset] [(.int (3 : Int32))]))
    refine Go.st (fun _ k' => XS.istore X91.here hx rfl (hb hby at_27) rfl (l' := #[.val (.int kk), .val (.int vv), .val (.int (8 : Int32)), .val (.ref a_HEARTBEAT), .val (.int (vv.toInt16.toInt32)), .val (.int (0 : Int32)), .val (.int (3 : Int32)), .unset]) rfl k') ?_
    show Go p e below s _ _ _ (T91.setTop (mkF m 29 #[.val (.int kk), .val (.int vv), .val (.int (8 : Int32)), .val (.ref a_HEARTBEAT), .val (.int (vv.toInt16.toInt32)), .val (.int (0 : Int32)), .val (.int (3 : Int32)), .unset] []))
    refine Go.st (fun _ k' => XS.iload X91.here hx rfl (hb hby at_29) rfl k') ?_
    show Go p e below s _ _ _ (T91.setTop (mkF m 31 #[.val (.int kk), .val (.int vv), .val (.int (8 : Int32)), .val (.ref a_HEARTBEAT), .val (.int (vv.toInt16.toInt32)), .val (.int (0 : Int32)), .val (.int (3 : Int32)), .unset] [(.int (vv.toInt16.toInt32))]))
    refine Go.st (fun _ k' => XS.iload X91.here hx rfl (hb hby at_31) rfl k') ?_
    show Go p e below s _ _ _ (T91.setTop (mkF m 33 #[.val (.int kk), .val (.int vv), .val (.int (8 : Int32)), .val (.ref a_HEARTBEAT), .val (.int (vv.toInt16.toInt32)), .val (.int (0 : Int32)), .val (.int (3 : Int32)), .unset] [(.int (0 : Int32)), (.int (vv.toInt16.toInt32))]))
    by_cases hc92 : (vv.toInt16.toInt32) < (0 : Int32)
    · refine Go.st (fun _ k' => XS.icmpYes X91.here hx rfl (pc0 := 33) (pc' := 47) rfl (hb hby at_33) rfl (XT.ii_lt_t hc92) (by decide) (by decide) k') ?_
      show Go p e below s _ _ _ (T91.setTop (mkF m 47 #[.val (.int kk), .val (.int vv), .val (.int (8 : Int32)), .val (.ref a_HEARTBEAT), .val (.int (vv.toInt16.toInt32)), .val (.int (0 : Int32)), .val (.int (3 : Int32)), .unset] []))
      refine Go.st (fun _ k' => XS.iconst X91.here hx rfl (hb hby at_47) k') ?_
      show Go p e below s _ _ _ (T91.setTop (mkF m 48 #[.val (.int kk), .val (.int vv), .val (.int (8 : Int32)), .val (.ref a_HEARTBEAT), .val (.int (vv.toInt16.toInt32)), .val (.int (0 : Int32)), .val (.int (3 : Int32)), .unset] [(.int (0 : Int32))]))
      refine Go.st (fun _ k' => XS.istore X91.here hx rfl (hb hby at_48) rfl (l' := #[.val (.int kk), .val (.int vv), .val (.int (8 : Int32)), .val (.ref a_HEARTBEAT), .val (.int (vv.toInt16.toInt32)), .val (.int (0 : Int32)), .val (.int (3 : Int32)), .val (.int (0 : Int32))]) rfl k') ?_
      show Go p e below s _ _ _ (T91.setTop (mkF m 50 #[.val (.int kk), .val (.int vv), .val (.int (8 : Int32)), .val (.ref a_HEARTBEAT), .val (.int (vv.toInt16.toInt32)), .val (.int (0 : Int32)), .val (.int (3 : Int32)), .val (.int (0 : Int32))] []))
      refine Go.st (fun _ k' => XS.aloadN X91.here hx rfl (hb hby at_50) rfl rfl k') ?_
      show Go p e below s _ _ _ (T91.setTop (mkF m 51 #[.val (.int kk), .val (.int vv), .val (.int (8 : Int32)), .val (.ref a_HEARTBEAT), .val (.int (vv.toInt16.toInt32)), .val (.int (0 : Int32)), .val (.int (3 : Int32)), .val (.int (0 : Int32))] [(.ref a_HEARTBEAT)]))
      refine Go.st (fun _ k' => XS.iload X91.here hx rfl (hb hby at_51) rfl k') ?_
      show Go p e below s _ _ _ (T91.setTop (mkF m 53 #[.val (.int kk), .val (.int vv), .val (.int (8 : Int32)), .val (.ref a_HEARTBEAT), .val (.int (vv.toInt16.toInt32)), .val (.int (0 : Int32)), .val (.int (3 : Int32)), .val (.int (0 : Int32))] [(.int (vv.toInt16.toInt32)), (.ref a_HEARTBEAT)]))
      obtain ⟨cq93, kq93, q93a, q93b, q93c⟩ := isOf hZ eq91 E_HEARTBEAT
      obtain ⟨_, _, ⟨T93, L93, k93, n93⟩, -, X93, ⟨Lc93, hQ93, l93, y93, z93⟩, st93⟩ := X91.virtualBack hx (y := (⟨"com/example/tenure_of_partitions/tenureofpartitions/ApiKey", "serves", "(S)Z"⟩ : MethodName)) (z := (⟨"com/example/tenure_of_partitions/tenureofpartitions/ApiKey", "serves", "(S)Z"⟩ : MethodName)) hown (mvT hZ (wdx hw 14 rfl)) (mvT hZ (wdx hw 15 rfl)) (notFace_of_selects (args := #[]) (mvT hZ (wdx hw 17 rfl))) (mvT hZ (wdx hw 17 rfl)) (mvT hZ (wdx hw 16 rfl)) (by decide) (backOf (W := 0) (rm4 l Z a0 hw [] a_HEARTBEAT (vv.toInt16.toInt32) (0 : Int32) (3 : Int32) h0 n0 O0 F_HEARTBEAT_minVersion F_HEARTBEAT_maxVersion) hZ (wdx hw 18 rfl) (wdx hw 6 rfl) (by decide) (by decide)) q93a q93c (g := (mkF m 53 #[.val (.int kk), .val (.int vv), .val (.int (8 : Int32)), .val (.ref a_HEARTBEAT), .val (.int (vv.toInt16.toInt32)), .val (.int (0 : Int32)), .val (.int (3 : Int32)), .val (.int (0 : Int32))] [(.int (vv.toInt16.toInt32)), (.ref a_HEARTBEAT)])) rfl (by rw [hml]; rfl) (Steps.refl _) (argsL := [(.int (vv.toInt16.toInt32))]) (rest := []) (lenOf pd__S_Z rfl) rfl (by show 2 * 0 + _ ≤ _; exact Nat.le_of_eq rfl) (hb hby at_53) (fun _ _ => ⟨rfl, eq91, (by exact Nat.le_of_ble_eq_true rfl), (by exact Nat.le_of_ble_eq_true rfl)⟩)
      dsimp only [Pt.U, Pt.locs, Pt.cells, Pt.slots] at X93 l93 y93 z93 st93 hQ93
      subst l93 y93 z93
      obtain ⟨rfl, Nq93, eq93⟩ := hQ93
      have N93 := Fr.app N91 Nq93
      refine Go.tr st93 ?_
      show Go p e below s _ _ _ (T93.setTop (mkF m 56 #[.val (.int kk), .val (.int vv), .val (.int (8 : Int32)), .val (.ref a_HEARTBEAT), .val (.int (vv.toInt16.toInt32)), .val (.int (0 : Int32)), .val (.int (3 : Int32)), .val (.int (0 : Int32))] [(.int (if (vv.toInt16.toInt32) < (0 : Int32) then (0 : Int32) else if (3 : Int32) < (vv.toInt16.toInt32) then 0 else 1))]))
      refine Go.st (fun _ k' => XS.iload X93.here hx rfl (hb hby at_56) rfl k') ?_
      show Go p e below s _ _ _ (T93.setTop (mkF m 58 #[.val (.int kk), .val (.int vv), .val (.int (8 : Int32)), .val (.ref a_HEARTBEAT), .val (.int (vv.toInt16.toInt32)), .val (.int (0 : Int32)), .val (.int (3 : Int32)), .val (.int (0 : Int32))] [(.int (0 : Int32)), (.int (if (vv.toInt16.toInt32) < (0 : Int32) then (0 : Int32) else if (3 : Int32) < (vv.toInt16.toInt32) then 0 else 1))]))
      by_cases hc94 : (if (vv.toInt16.toInt32) < (0 : Int32) then (0 : Int32) else if (3 : Int32) < (vv.toInt16.toInt32) then 0 else 1) = (0 : Int32)
      · refine Go.st (fun _ k' => XS.icmpNo X93.here hx rfl (hb hby at_58) rfl (XT.ii_ne_f hc94) k') ?_
        show Go p e below s _ _ _ (T93.setTop (mkF m 61 #[.val (.int kk), .val (.int vv), .val (.int (8 : Int32)), .val (.ref a_HEARTBEAT), .val (.int (vv.toInt16.toInt32)), .val (.int (0 : Int32)), .val (.int (3 : Int32)), .val (.int (0 : Int32))] []))
        refine Go.st (fun _ k' => XS.iconst X93.here hx rfl (hb hby at_61) k') ?_
        show Go p e below s _ _ _ (T93.setTop (mkF m 62 #[.val (.int kk), .val (.int vv), .val (.int (8 : Int32)), .val (.ref a_HEARTBEAT), .val (.int (vv.toInt16.toInt32)), .val (.int (0 : Int32)), .val (.int (3 : Int32)), .val (.int (0 : Int32))] [(.int (1 : Int32))]))
        refine Go.st (fun _ k' => XS.goto X93.here hx rfl (pc0 := 62) (pc' := 66) rfl (hb hby at_62) (by decide) (by decide) k') ?_
        show Go p e below s _ _ _ (T93.setTop (mkF m 66 #[.val (.int kk), .val (.int vv), .val (.int (8 : Int32)), .val (.ref a_HEARTBEAT), .val (.int (vv.toInt16.toInt32)), .val (.int (0 : Int32)), .val (.int (3 : Int32)), .val (.int (0 : Int32))] [(.int (1 : Int32))]))
        refine Go.retB X93 hx hlk (t := .boolean) Bd.returns (by simp) (hb hby at_66) (by decide) (by decide) eq93 ?_
        exact ⟨rfl, N93, trivial⟩
      · refine Go.st (fun _ k' => XS.icmpYes X93.here hx rfl (pc0 := 58) (pc' := 65) rfl (hb hby at_58) rfl (XT.ii_ne_t hc94) (by decide) (by decide) k') ?_
        show Go p e below s _ _ _ (T93.setTop (mkF m 65 #[.val (.int kk), .val (.int vv), .val (.int (8 : Int32)), .val (.ref a_HEARTBEAT), .val (.int (vv.toInt16.toInt32)), .val (.int (0 : Int32)), .val (.int (3 : Int32)), .val (.int (0 : Int32))] []))
        refine Go.st (fun _ k' => XS.iconst X93.here hx rfl (hb hby at_65) k') ?_
        show Go p e below s _ _ _ (T93.setTop (mkF m 66 #[.val (.int kk), .val (.int vv), .val (.int (8 : Int32)), .val (.ref a_HEARTBEAT), .val (.int (vv.toInt16.toInt32)), .val (.int (0 : Int32)), .val (.int (3 : Int32)), .val (.int (0 : Int32))] [(.int (0 : Int32))]))
        refine Go.retB X93 hx hlk (t := .boolean) Bd.returns (by simp) (hb hby at_66) (by decide) (by decide) eq93 ?_
        exact absurd (by simp [hc92]) hc94
    · refine Go.st (fun _ k' => XS.icmpNo X91.here hx rfl (hb hby at_33) rfl (XT.ii_lt_f hc92) k') ?_
      show Go p e below s _ _ _ (T91.setTop (mkF m 36 #[.val (.int kk), .val (.int vv), .val (.int (8 : Int32)), .val (.ref a_HEARTBEAT), .val (.int (vv.toInt16.toInt32)), .val (.int (0 : Int32)), .val (.int (3 : Int32)), .unset] []))
      refine Go.st (fun _ k' => XS.iload X91.here hx rfl (hb hby at_36) rfl k') ?_
      show Go p e below s _ _ _ (T91.setTop (mkF m 38 #[.val (.int kk), .val (.int vv), .val (.int (8 : Int32)), .val (.ref a_HEARTBEAT), .val (.int (vv.toInt16.toInt32)), .val (.int (0 : Int32)), .val (.int (3 : Int32)), .unset] [(.int (vv.toInt16.toInt32))]))
      refine Go.st (fun _ k' => XS.iload X91.here hx rfl (hb hby at_38) rfl k') ?_
      show Go p e below s _ _ _ (T91.setTop (mkF m 40 #[.val (.int kk), .val (.int vv), .val (.int (8 : Int32)), .val (.ref a_HEARTBEAT), .val (.int (vv.toInt16.toInt32)), .val (.int (0 : Int32)), .val (.int (3 : Int32)), .unset] [(.int (3 : Int32)), (.int (vv.toInt16.toInt32))]))
      by_cases hc95 : (3 : Int32) < (vv.toInt16.toInt32)
      · refine Go.st (fun _ k' => XS.icmpYes X91.here hx rfl (pc0 := 40) (pc' := 47) rfl (hb hby at_40) rfl (XT.ii_gt_t hc95) (by decide) (by decide) k') ?_
        show Go p e below s _ _ _ (T91.setTop (mkF m 47 #[.val (.int kk), .val (.int vv), .val (.int (8 : Int32)), .val (.ref a_HEARTBEAT), .val (.int (vv.toInt16.toInt32)), .val (.int (0 : Int32)), .val (.int (3 : Int32)), .unset] []))
        refine Go.st (fun _ k' => XS.iconst X91.here hx rfl (hb hby at_47) k') ?_
        show Go p e below s _ _ _ (T91.setTop (mkF m 48 #[.val (.int kk), .val (.int vv), .val (.int (8 : Int32)), .val (.ref a_HEARTBEAT), .val (.int (vv.toInt16.toInt32)), .val (.int (0 : Int32)), .val (.int (3 : Int32)), .unset] [(.int (0 : Int32))]))
        refine Go.st (fun _ k' => XS.istore X91.here hx rfl (hb hby at_48) rfl (l' := #[.val (.int kk), .val (.int vv), .val (.int (8 : Int32)), .val (.ref a_HEARTBEAT), .val (.int (vv.toInt16.toInt32)), .val (.int (0 : Int32)), .val (.int (3 : Int32)), .val (.int (0 : Int32))]) rfl k') ?_
        show Go p e below s _ _ _ (T91.setTop (mkF m 50 #[.val (.int kk), .val (.int vv), .val (.int (8 : Int32)), .val (.ref a_HEARTBEAT), .val (.int (vv.toInt16.toInt32)), .val (.int (0 : Int32)), .val (.int (3 : Int32)), .val (.int (0 : Int32))] []))
        refine Go.st (fun _ k' => XS.aloadN X91.here hx rfl (hb hby at_50) rfl rfl k') ?_
        show Go p e below s _ _ _ (T91.setTop (mkF m 51 #[.val (.int kk), .val (.int vv), .val (.int (8 : Int32)), .val (.ref a_HEARTBEAT), .val (.int (vv.toInt16.toInt32)), .val (.int (0 : Int32)), .val (.int (3 : Int32)), .val (.int (0 : Int32))] [(.ref a_HEARTBEAT)]))
        refine Go.st (fun _ k' => XS.iload X91.here hx rfl (hb hby at_51) rfl k') ?_
        show Go p e below s _ _ _ (T91.setTop (mkF m 53 #[.val (.int kk), .val (.int vv), .val (.int (8 : Int32)), .val (.ref a_HEARTBEAT), .val (.int (vv.toInt16.toInt32)), .val (.int (0 : Int32)), .val (.int (3 : Int32)), .val (.int (0 : Int32))] [(.int (vv.toInt16.toInt32)), (.ref a_HEARTBEAT)]))
        obtain ⟨cq96, kq96, q96a, q96b, q96c⟩ := isOf hZ eq91 E_HEARTBEAT
        obtain ⟨_, _, ⟨T96, L96, k96, n96⟩, -, X96, ⟨Lc96, hQ96, l96, y96, z96⟩, st96⟩ := X91.virtualBack hx (y := (⟨"com/example/tenure_of_partitions/tenureofpartitions/ApiKey", "serves", "(S)Z"⟩ : MethodName)) (z := (⟨"com/example/tenure_of_partitions/tenureofpartitions/ApiKey", "serves", "(S)Z"⟩ : MethodName)) hown (mvT hZ (wdx hw 14 rfl)) (mvT hZ (wdx hw 15 rfl)) (notFace_of_selects (args := #[]) (mvT hZ (wdx hw 17 rfl))) (mvT hZ (wdx hw 17 rfl)) (mvT hZ (wdx hw 16 rfl)) (by decide) (backOf (W := 0) (rm4 l Z a0 hw [] a_HEARTBEAT (vv.toInt16.toInt32) (0 : Int32) (3 : Int32) h0 n0 O0 F_HEARTBEAT_minVersion F_HEARTBEAT_maxVersion) hZ (wdx hw 18 rfl) (wdx hw 6 rfl) (by decide) (by decide)) q96a q96c (g := (mkF m 53 #[.val (.int kk), .val (.int vv), .val (.int (8 : Int32)), .val (.ref a_HEARTBEAT), .val (.int (vv.toInt16.toInt32)), .val (.int (0 : Int32)), .val (.int (3 : Int32)), .val (.int (0 : Int32))] [(.int (vv.toInt16.toInt32)), (.ref a_HEARTBEAT)])) rfl (by rw [hml]; rfl) (Steps.refl _) (argsL := [(.int (vv.toInt16.toInt32))]) (rest := []) (lenOf pd__S_Z rfl) rfl (by show 2 * 0 + _ ≤ _; exact Nat.le_of_eq rfl) (hb hby at_53) (fun _ _ => ⟨rfl, eq91, (by exact Nat.le_of_ble_eq_true rfl), (by exact Nat.le_of_ble_eq_true rfl)⟩)
        dsimp only [Pt.U, Pt.locs, Pt.cells, Pt.slots] at X96 l96 y96 z96 st96 hQ96
        subst l96 y96 z96
        obtain ⟨rfl, Nq96, eq96⟩ := hQ96
        have N96 := Fr.app N91 Nq96
        refine Go.tr st96 ?_
        show Go p e below s _ _ _ (T96.setTop (mkF m 56 #[.val (.int kk), .val (.int vv), .val (.int (8 : Int32)), .val (.ref a_HEARTBEAT), .val (.int (vv.toInt16.toInt32)), .val (.int (0 : Int32)), .val (.int (3 : Int32)), .val (.int (0 : Int32))] [(.int (if (vv.toInt16.toInt32) < (0 : Int32) then (0 : Int32) else if (3 : Int32) < (vv.toInt16.toInt32) then 0 else 1))]))
        refine Go.st (fun _ k' => XS.iload X96.here hx rfl (hb hby at_56) rfl k') ?_
        show Go p e below s _ _ _ (T96.setTop (mkF m 58 #[.val (.int kk), .val (.int vv), .val (.int (8 : Int32)), .val (.ref a_HEARTBEAT), .val (.int (vv.toInt16.toInt32)), .val (.int (0 : Int32)), .val (.int (3 : Int32)), .val (.int (0 : Int32))] [(.int (0 : Int32)), (.int (if (vv.toInt16.toInt32) < (0 : Int32) then (0 : Int32) else if (3 : Int32) < (vv.toInt16.toInt32) then 0 else 1))]))
        by_cases hc97 : (if (vv.toInt16.toInt32) < (0 : Int32) then (0 : Int32) else if (3 : Int32) < (vv.toInt16.toInt32) then 0 else 1) = (0 : Int32)
        · refine Go.st (fun _ k' => XS.icmpNo X96.here hx rfl (hb hby at_58) rfl (XT.ii_ne_f hc97) k') ?_
          show Go p e below s _ _ _ (T96.setTop (mkF m 61 #[.val (.int kk), .val (.int vv), .val (.int (8 : Int32)), .val (.ref a_HEARTBEAT), .val (.int (vv.toInt16.toInt32)), .val (.int (0 : Int32)), .val (.int (3 : Int32)), .val (.int (0 : Int32))] []))
          refine Go.st (fun _ k' => XS.iconst X96.here hx rfl (hb hby at_61) k') ?_
          show Go p e below s _ _ _ (T96.setTop (mkF m 62 #[.val (.int kk), .val (.int vv), .val (.int (8 : Int32)), .val (.ref a_HEARTBEAT), .val (.int (vv.toInt16.toInt32)), .val (.int (0 : Int32)), .val (.int (3 : Int32)), .val (.int (0 : Int32))] [(.int (1 : Int32))]))
          refine Go.st (fun _ k' => XS.goto X96.here hx rfl (pc0 := 62) (pc' := 66) rfl (hb hby at_62) (by decide) (by decide) k') ?_
          show Go p e below s _ _ _ (T96.setTop (mkF m 66 #[.val (.int kk), .val (.int vv), .val (.int (8 : Int32)), .val (.ref a_HEARTBEAT), .val (.int (vv.toInt16.toInt32)), .val (.int (0 : Int32)), .val (.int (3 : Int32)), .val (.int (0 : Int32))] [(.int (1 : Int32))]))
          refine Go.retB X96 hx hlk (t := .boolean) Bd.returns (by simp) (hb hby at_66) (by decide) (by decide) eq96 ?_
          exact ⟨rfl, N96, trivial⟩
        · refine Go.st (fun _ k' => XS.icmpYes X96.here hx rfl (pc0 := 58) (pc' := 65) rfl (hb hby at_58) rfl (XT.ii_ne_t hc97) (by decide) (by decide) k') ?_
          show Go p e below s _ _ _ (T96.setTop (mkF m 65 #[.val (.int kk), .val (.int vv), .val (.int (8 : Int32)), .val (.ref a_HEARTBEAT), .val (.int (vv.toInt16.toInt32)), .val (.int (0 : Int32)), .val (.int (3 : Int32)), .val (.int (0 : Int32))] []))
          refine Go.st (fun _ k' => XS.iconst X96.here hx rfl (hb hby at_65) k') ?_
          show Go p e below s _ _ _ (T96.setTop (mkF m 66 #[.val (.int kk), .val (.int vv), .val (.int (8 : Int32)), .val (.ref a_HEARTBEAT), .val (.int (vv.toInt16.toInt32)), .val (.int (0 : Int32)), .val (.int (3 : Int32)), .val (.int (0 : Int32))] [(.int (0 : Int32))]))
          refine Go.retB X96 hx hlk (t := .boolean) Bd.returns (by simp) (hb hby at_66) (by decide) (by decide) eq96 ?_
          exact absurd (by simp [hc92, hc95]) hc97
      · refine Go.st (fun _ k' => XS.icmpNo X91.here hx rfl (hb hby at_40) rfl (XT.ii_gt_f hc95) k') ?_
        show Go p e below s _ _ _ (T91.setTop (mkF m 43 #[.val (.int kk), .val (.int vv), .val (.int (8 : Int32)), .val (.ref a_HEARTBEAT), .val (.int (vv.toInt16.toInt32)), .val (.int (0 : Int32)), .val (.int (3 : Int32)), .unset] []))
        refine Go.st (fun _ k' => XS.iconst X91.here hx rfl (hb hby at_43) k') ?_
        show Go p e below s _ _ _ (T91.setTop (mkF m 44 #[.val (.int kk), .val (.int vv), .val (.int (8 : Int32)), .val (.ref a_HEARTBEAT), .val (.int (vv.toInt16.toInt32)), .val (.int (0 : Int32)), .val (.int (3 : Int32)), .unset] [(.int (1 : Int32))]))
        refine Go.st (fun _ k' => XS.goto X91.here hx rfl (pc0 := 44) (pc' := 48) rfl (hb hby at_44) (by decide) (by decide) k') ?_
        show Go p e below s _ _ _ (T91.setTop (mkF m 48 #[.val (.int kk), .val (.int vv), .val (.int (8 : Int32)), .val (.ref a_HEARTBEAT), .val (.int (vv.toInt16.toInt32)), .val (.int (0 : Int32)), .val (.int (3 : Int32)), .unset] [(.int (1 : Int32))]))
        refine Go.st (fun _ k' => XS.istore X91.here hx rfl (hb hby at_48) rfl (l' := #[.val (.int kk), .val (.int vv), .val (.int (8 : Int32)), .val (.ref a_HEARTBEAT), .val (.int (vv.toInt16.toInt32)), .val (.int (0 : Int32)), .val (.int (3 : Int32)), .val (.int (1 : Int32))]) rfl k') ?_
        show Go p e below s _ _ _ (T91.setTop (mkF m 50 #[.val (.int kk), .val (.int vv), .val (.int (8 : Int32)), .val (.ref a_HEARTBEAT), .val (.int (vv.toInt16.toInt32)), .val (.int (0 : Int32)), .val (.int (3 : Int32)), .val (.int (1 : Int32))] []))
        refine Go.st (fun _ k' => XS.aloadN X91.here hx rfl (hb hby at_50) rfl rfl k') ?_
        show Go p e below s _ _ _ (T91.setTop (mkF m 51 #[.val (.int kk), .val (.int vv), .val (.int (8 : Int32)), .val (.ref a_HEARTBEAT), .val (.int (vv.toInt16.toInt32)), .val (.int (0 : Int32)), .val (.int (3 : Int32)), .val (.int (1 : Int32))] [(.ref a_HEARTBEAT)]))
        refine Go.st (fun _ k' => XS.iload X91.here hx rfl (hb hby at_51) rfl k') ?_
        show Go p e below s _ _ _ (T91.setTop (mkF m 53 #[.val (.int kk), .val (.int vv), .val (.int (8 : Int32)), .val (.ref a_HEARTBEAT), .val (.int (vv.toInt16.toInt32)), .val (.int (0 : Int32)), .val (.int (3 : Int32)), .val (.int (1 : Int32))] [(.int (vv.toInt16.toInt32)), (.ref a_HEARTBEAT)]))
        obtain ⟨cq98, kq98, q98a, q98b, q98c⟩ := isOf hZ eq91 E_HEARTBEAT
        obtain ⟨_, _, ⟨T98, L98, k98, n98⟩, -, X98, ⟨Lc98, hQ98, l98, y98, z98⟩, st98⟩ := X91.virtualBack hx (y := (⟨"com/example/tenure_of_partitions/tenureofpartitions/ApiKey", "serves", "(S)Z"⟩ : MethodName)) (z := (⟨"com/example/tenure_of_partitions/tenureofpartitions/ApiKey", "serves", "(S)Z"⟩ : MethodName)) hown (mvT hZ (wdx hw 14 rfl)) (mvT hZ (wdx hw 15 rfl)) (notFace_of_selects (args := #[]) (mvT hZ (wdx hw 17 rfl))) (mvT hZ (wdx hw 17 rfl)) (mvT hZ (wdx hw 16 rfl)) (by decide) (backOf (W := 0) (rm4 l Z a0 hw [] a_HEARTBEAT (vv.toInt16.toInt32) (0 : Int32) (3 : Int32) h0 n0 O0 F_HEARTBEAT_minVersion F_HEARTBEAT_maxVersion) hZ (wdx hw 18 rfl) (wdx hw 6 rfl) (by decide) (by decide)) q98a q98c (g := (mkF m 53 #[.val (.int kk), .val (.int vv), .val (.int (8 : Int32)), .val (.ref a_HEARTBEAT), .val (.int (vv.toInt16.toInt32)), .val (.int (0 : Int32)), .val (.int (3 : Int32)), .val (.int (1 : Int32))] [(.int (vv.toInt16.toInt32)), (.ref a_HEARTBEAT)])) rfl (by rw [hml]; rfl) (Steps.refl _) (argsL := [(.int (vv.toInt16.toInt32))]) (rest := []) (lenOf pd__S_Z rfl) rfl (by show 2 * 0 + _ ≤ _; exact Nat.le_of_eq rfl) (hb hby at_53) (fun _ _ => ⟨rfl, eq91, (by exact Nat.le_of_ble_eq_true rfl), (by exact Nat.le_of_ble_eq_true rfl)⟩)
        dsimp only [Pt.U, Pt.locs, Pt.cells, Pt.slots] at X98 l98 y98 z98 st98 hQ98
        subst l98 y98 z98
        obtain ⟨rfl, Nq98, eq98⟩ := hQ98
        have N98 := Fr.app N91 Nq98
        refine Go.tr st98 ?_
        show Go p e below s _ _ _ (T98.setTop (mkF m 56 #[.val (.int kk), .val (.int vv), .val (.int (8 : Int32)), .val (.ref a_HEARTBEAT), .val (.int (vv.toInt16.toInt32)), .val (.int (0 : Int32)), .val (.int (3 : Int32)), .val (.int (1 : Int32))] [(.int (if (vv.toInt16.toInt32) < (0 : Int32) then (0 : Int32) else if (3 : Int32) < (vv.toInt16.toInt32) then 0 else 1))]))
        refine Go.st (fun _ k' => XS.iload X98.here hx rfl (hb hby at_56) rfl k') ?_
        show Go p e below s _ _ _ (T98.setTop (mkF m 58 #[.val (.int kk), .val (.int vv), .val (.int (8 : Int32)), .val (.ref a_HEARTBEAT), .val (.int (vv.toInt16.toInt32)), .val (.int (0 : Int32)), .val (.int (3 : Int32)), .val (.int (1 : Int32))] [(.int (1 : Int32)), (.int (if (vv.toInt16.toInt32) < (0 : Int32) then (0 : Int32) else if (3 : Int32) < (vv.toInt16.toInt32) then 0 else 1))]))
        by_cases hc99 : (if (vv.toInt16.toInt32) < (0 : Int32) then (0 : Int32) else if (3 : Int32) < (vv.toInt16.toInt32) then 0 else 1) = (1 : Int32)
        · refine Go.st (fun _ k' => XS.icmpNo X98.here hx rfl (hb hby at_58) rfl (XT.ii_ne_f hc99) k') ?_
          show Go p e below s _ _ _ (T98.setTop (mkF m 61 #[.val (.int kk), .val (.int vv), .val (.int (8 : Int32)), .val (.ref a_HEARTBEAT), .val (.int (vv.toInt16.toInt32)), .val (.int (0 : Int32)), .val (.int (3 : Int32)), .val (.int (1 : Int32))] []))
          refine Go.st (fun _ k' => XS.iconst X98.here hx rfl (hb hby at_61) k') ?_
          show Go p e below s _ _ _ (T98.setTop (mkF m 62 #[.val (.int kk), .val (.int vv), .val (.int (8 : Int32)), .val (.ref a_HEARTBEAT), .val (.int (vv.toInt16.toInt32)), .val (.int (0 : Int32)), .val (.int (3 : Int32)), .val (.int (1 : Int32))] [(.int (1 : Int32))]))
          refine Go.st (fun _ k' => XS.goto X98.here hx rfl (pc0 := 62) (pc' := 66) rfl (hb hby at_62) (by decide) (by decide) k') ?_
          show Go p e below s _ _ _ (T98.setTop (mkF m 66 #[.val (.int kk), .val (.int vv), .val (.int (8 : Int32)), .val (.ref a_HEARTBEAT), .val (.int (vv.toInt16.toInt32)), .val (.int (0 : Int32)), .val (.int (3 : Int32)), .val (.int (1 : Int32))] [(.int (1 : Int32))]))
          refine Go.retB X98 hx hlk (t := .boolean) Bd.returns (by simp) (hb hby at_66) (by decide) (by decide) eq98 ?_
          exact ⟨rfl, N98, trivial⟩
        · refine Go.st (fun _ k' => XS.icmpYes X98.here hx rfl (pc0 := 58) (pc' := 65) rfl (hb hby at_58) rfl (XT.ii_ne_t hc99) (by decide) (by decide) k') ?_
          show Go p e below s _ _ _ (T98.setTop (mkF m 65 #[.val (.int kk), .val (.int vv), .val (.int (8 : Int32)), .val (.ref a_HEARTBEAT), .val (.int (vv.toInt16.toInt32)), .val (.int (0 : Int32)), .val (.int (3 : Int32)), .val (.int (1 : Int32))] []))
          refine Go.st (fun _ k' => XS.iconst X98.here hx rfl (hb hby at_65) k') ?_
          show Go p e below s _ _ _ (T98.setTop (mkF m 66 #[.val (.int kk), .val (.int vv), .val (.int (8 : Int32)), .val (.ref a_HEARTBEAT), .val (.int (vv.toInt16.toInt32)), .val (.int (0 : Int32)), .val (.int (3 : Int32)), .val (.int (1 : Int32))] [(.int (0 : Int32))]))
          refine Go.retB X98 hx hlk (t := .boolean) Bd.returns (by simp) (hb hby at_66) (by decide) (by decide) eq98 ?_
          exact absurd (by simp [hc92, hc95]) hc99
  · rw [hi]
    show Go p e below s _ _ _ (s₁.setTop (mkF m 8 #[.val (.int kk), .val (.int vv), .val (.int (9 : Int32)), .unset, .unset, .unset, .unset, .unset] []))
    refine Go.st (fun _ k' => XS.iloadN X0.here hx rfl (hb hby at_8) rfl k') ?_
    show Go p e below s _ _ _ (s₁.setTop (mkF m 9 #[.val (.int kk), .val (.int vv), .val (.int (9 : Int32)), .unset, .unset, .unset, .unset, .unset] [(.int (9 : Int32))]))
    obtain ⟨_, _, ⟨T100, L100, k100, n100⟩, -, X100, ⟨Lc100, hQ100, l100, y100, z100⟩, st100⟩ := Jvm.LawKit.callS X0 hx (y := (⟨"com/example/tenure_of_partitions/tenureofpartitions/ApiKeyServesPinLaw", "pick", "(I)Lcom/example/tenure_of_partitions/tenureofpartitions/ApiKey;"⟩ : MethodName)) hown (mvT hZ (wdx hw 1 rfl)) (mvT hZ (wdx hw 2 rfl)) (mvT hZ (wdx hw 3 rfl)) (mvT hZ (wdx hw 4 rfl)) (by decide) (backOf (W := 0) (rm1 l Z a0 hw [] (9 : Int32) a_PRODUCE a_FETCH a_LIST_OFFSETS a_METADATA a_OFFSET_COMMIT a_OFFSET_FETCH a_FIND_COORDINATOR a_JOIN_GROUP a_HEARTBEAT a_LEAVE_GROUP a_SYNC_GROUP a_DESCRIBE_GROUPS a_LIST_GROUPS a_API_VERSIONS h0 n0 O0 S_PRODUCE S_FETCH S_LIST_OFFSETS S_METADATA S_OFFSET_COMMIT S_OFFSET_FETCH S_FIND_COORDINATOR S_JOIN_GROUP S_HEARTBEAT S_LEAVE_GROUP S_SYNC_GROUP S_DESCRIBE_GROUPS S_LIST_GROUPS S_API_VERSIONS) hZ (wdx hw 4 rfl) (wdx hw 3 rfl) (by decide) (by decide)) (g := (mkF m 9 #[.val (.int kk), .val (.int vv), .val (.int (9 : Int32)), .unset, .unset, .unset, .unset, .unset] [(.int (9 : Int32))])) rfl (by rw [hml]; rfl) (argsL := [(.int (9 : Int32))]) (rest := []) (lenOf pd__I_Lcom_example_tenure_of_partitions_tenureofpartitions_ApiKey_ rfl) rfl (by show 2 * 0 + _ ≤ _; exact Nat.le_of_eq rfl) (hb hby at_9) (fun _ _ => ⟨rfl, e0, (by exact Nat.le_of_ble_eq_true rfl), (by exact Nat.le_of_ble_eq_true rfl)⟩)
    dsimp only [Pt.U, Pt.locs, Pt.cells, Pt.slots] at X100 l100 y100 z100 st100 hQ100
    subst l100 y100 z100
    obtain ⟨rfl, Nq100, eq100⟩ := hQ100
    have N100 := Fr.app N0 Nq100
    refine Go.st st100 ?_
    show Go p e below s _ _ _ (T100.setTop (mkF m 12 #[.val (.int kk), .val (.int vv), .val (.int (9 : Int32)), .unset, .unset, .unset, .unset, .unset] [(.ref (fpick (9 : Int32) a_PRODUCE a_FETCH a_LIST_OFFSETS a_METADATA a_OFFSET_COMMIT a_OFFSET_FETCH a_FIND_COORDINATOR a_JOIN_GROUP a_HEARTBEAT a_LEAVE_GROUP a_SYNC_GROUP a_DESCRIBE_GROUPS a_LIST_GROUPS a_API_VERSIONS))]))
    show Go p e below s _ _ _ (T100.setTop (mkF m 12 #[.val (.int kk), .val (.int vv), .val (.int (9 : Int32)), .unset, .unset, .unset, .unset, .unset] [(.ref a_LEAVE_GROUP)]))
    refine Go.st (fun _ k' => XS.astoreN X100.here hx rfl (hb hby at_12) rfl rfl (l' := #[.val (.int kk), .val (.int vv), .val (.int (9 : Int32)), .val (.ref a_LEAVE_GROUP), .unset, .unset, .unset, .unset]) rfl k') ?_
    show Go p e below s _ _ _ (T100.setTop (mkF m 13 #[.val (.int kk), .val (.int vv), .val (.int (9 : Int32)), .val (.ref a_LEAVE_GROUP), .unset, .unset, .unset, .unset] []))
    refine Go.st (fun _ k' => XS.iloadN X100.here hx rfl (hb hby at_13) rfl k') ?_
    show Go p e below s _ _ _ (T100.setTop (mkF m 14 #[.val (.int kk), .val (.int vv), .val (.int (9 : Int32)), .val (.ref a_LEAVE_GROUP), .unset, .unset, .unset, .unset] [(.int vv)]))
    refine Go.st (fun _ k' => XS.i2s X100.here hx rfl (hb hby at_14) rfl k') ?_
    show Go p e below s _ _ _ (T100.setTop (mkF m 15 #[.val (.int kk), .val (.int vv), .val (.int (9 : Int32)), .val (.ref a_LEAVE_GROUP), .unset, .unset, .unset, .unset] [(.int (vv.toInt16.toInt32))]))
    refine Go.st (fun _ k' => XS.istore X100.here hx rfl (hb hby at_15) rfl (l' := #[.val (.int kk), .val (.int vv), .val (.int (9 : Int32)), .val (.ref a_LEAVE_GROUP), .val (.int (vv.toInt16.toInt32)), .unset, .unset, .unset]) rfl k') ?_
    show Go p e below s _ _ _ (T100.setTop (mkF m 17 #[.val (.int kk), .val (.int vv), .val (.int (9 : Int32)), .val (.ref a_LEAVE_GROUP), .val (.int (vv.toInt16.toInt32)), .unset, .unset, .unset] []))
    refine Go.st (fun _ k' => XS.iloadN X100.here hx rfl (hb hby at_17) rfl k') ?_
    show Go p e below s _ _ _ (T100.setTop (mkF m 18 #[.val (.int kk), .val (.int vv), .val (.int (9 : Int32)), .val (.ref a_LEAVE_GROUP), .val (.int (vv.toInt16.toInt32)), .unset, .unset, .unset] [(.int (9 : Int32))]))
    obtain ⟨_, _, ⟨T101, L101, k101, n101⟩, -, X101, ⟨Lc101, hQ101, l101, y101, z101⟩, st101⟩ := Jvm.LawKit.callS X100 hx (y := (⟨"com/example/tenure_of_partitions/tenureofpartitions/ApiKeyServesPinLaw", "lo", "(I)I"⟩ : MethodName)) hown (mvT hZ (wdx hw 8 rfl)) (mvT hZ (wdx hw 9 rfl)) (mvT hZ (wdx hw 3 rfl)) (mvT hZ (wdx hw 10 rfl)) (by decide) (backOf (W := 0) (rm2 l Z a0 hw [] (9 : Int32) h0 n0 O0 ) hZ (wdx hw 10 rfl) (wdx hw 3 rfl) (by decide) (by decide)) (g := (mkF m 18 #[.val (.int kk), .val (.int vv), .val (.int (9 : Int32)), .val (.ref a_LEAVE_GROUP), .val (.int (vv.toInt16.toInt32)), .unset, .unset, .unset] [(.int (9 : Int32))])) rfl (by rw [hml]; rfl) (argsL := [(.int (9 : Int32))]) (rest := []) (lenOf pd__I_I rfl) rfl (by show 2 * 0 + _ ≤ _; exact Nat.le_of_eq rfl) (hb hby at_18) (fun _ _ => ⟨rfl, eq100, (by exact Nat.le_of_ble_eq_true rfl), (by exact Nat.le_of_ble_eq_true rfl)⟩)
    dsimp only [Pt.U, Pt.locs, Pt.cells, Pt.slots] at X101 l101 y101 z101 st101 hQ101
    subst l101 y101 z101
    obtain ⟨rfl, Nq101, eq101⟩ := hQ101
    have N101 := Fr.app N100 Nq101
    refine Go.st st101 ?_
    show Go p e below s _ _ _ (T101.setTop (mkF m 21 #[.val (.int kk), .val (.int vv), .val (.int (9 : Int32)), .val (.ref a_LEAVE_GROUP), .val (.int (vv.toInt16.toInt32)), .unset, .unset, .unset] [(.int (flo (9 : Int32)))]))
    show Go p e below s _ _ _ (T101.setTop (mkF m 21 #[.val (.int kk), .val (.int vv), .val (.int (9 : Int32)), .val (.ref a_LEAVE_GROUP), .val (.int (vv.toInt16.toInt32)), .unset, .unset, .unset] [(.int (0 : Int32))]))
    refine Go.st (fun _ k' => XS.istore X101.here hx rfl (hb hby at_21) rfl (l' := #[.val (.int kk), .val (.int vv), .val (.int (9 : Int32)), .val (.ref a_LEAVE_GROUP), .val (.int (vv.toInt16.toInt32)), .val (.int (0 : Int32)), .unset, .unset]) rfl k') ?_
    show Go p e below s _ _ _ (T101.setTop (mkF m 23 #[.val (.int kk), .val (.int vv), .val (.int (9 : Int32)), .val (.ref a_LEAVE_GROUP), .val (.int (vv.toInt16.toInt32)), .val (.int (0 : Int32)), .unset, .unset] []))
    refine Go.st (fun _ k' => XS.iloadN X101.here hx rfl (hb hby at_23) rfl k') ?_
    show Go p e below s _ _ _ (T101.setTop (mkF m 24 #[.val (.int kk), .val (.int vv), .val (.int (9 : Int32)), .val (.ref a_LEAVE_GROUP), .val (.int (vv.toInt16.toInt32)), .val (.int (0 : Int32)), .unset, .unset] [(.int (9 : Int32))]))
    obtain ⟨_, _, ⟨T102, L102, k102, n102⟩, -, X102, ⟨Lc102, hQ102, l102, y102, z102⟩, st102⟩ := Jvm.LawKit.callS X101 hx (y := (⟨"com/example/tenure_of_partitions/tenureofpartitions/ApiKeyServesPinLaw", "hi", "(I)I"⟩ : MethodName)) hown (mvT hZ (wdx hw 11 rfl)) (mvT hZ (wdx hw 12 rfl)) (mvT hZ (wdx hw 3 rfl)) (mvT hZ (wdx hw 13 rfl)) (by decide) (backOf (W := 0) (rm3 l Z a0 hw [] (9 : Int32) h0 n0 O0 ) hZ (wdx hw 13 rfl) (wdx hw 3 rfl) (by decide) (by decide)) (g := (mkF m 24 #[.val (.int kk), .val (.int vv), .val (.int (9 : Int32)), .val (.ref a_LEAVE_GROUP), .val (.int (vv.toInt16.toInt32)), .val (.int (0 : Int32)), .unset, .unset] [(.int (9 : Int32))])) rfl (by rw [hml]; rfl) (argsL := [(.int (9 : Int32))]) (rest := []) (lenOf pd__I_I rfl) rfl (by show 2 * 0 + _ ≤ _; exact Nat.le_of_eq rfl) (hb hby at_24) (fun _ _ => ⟨rfl, eq101, (by exact Nat.le_of_ble_eq_true rfl), (by exact Nat.le_of_ble_eq_true rfl)⟩)
    dsimp only [Pt.U, Pt.locs, Pt.cells, Pt.slots] at X102 l102 y102 z102 st102 hQ102
    subst l102 y102 z102
    obtain ⟨rfl, Nq102, eq102⟩ := hQ102
    have N102 := Fr.app N101 Nq102
    refine Go.st st102 ?_
    show Go p e below s _ _ _ (T102.setTop (mkF m 27 #[.val (.int kk), .val (.int vv), .val (.int (9 : Int32)), .val (.ref a_LEAVE_GROUP), .val (.int (vv.toInt16.toInt32)), .val (.int (0 : Int32)), .unset, .unset] [(.int (fhi (9 : Int32)))]))
    show Go p e below s _ _ _ (T102.setTop (mkF m 27 #[.val (.int kk), .val (.int vv), .val (.int (9 : Int32)), .val (.ref a_LEAVE_GROUP), .val (.int (vv.toInt16.toInt32)), .val (.int (0 : Int32)), .unset, .unset] [(.int (3 : Int32))]))
    refine Go.st (fun _ k' => XS.istore X102.here hx rfl (hb hby at_27) rfl (l' := #[.val (.int kk), .val (.int vv), .val (.int (9 : Int32)), .val (.ref a_LEAVE_GROUP), .val (.int (vv.toInt16.toInt32)), .val (.int (0 : Int32)), .val (.int (3 : Int32)), .unset]) rfl k') ?_
    show Go p e below s _ _ _ (T102.setTop (mkF m 29 #[.val (.int kk), .val (.int vv), .val (.int (9 : Int32)), .val (.ref a_LEAVE_GROUP), .val (.int (vv.toInt16.toInt32)), .val (.int (0 : Int32)), .val (.int (3 : Int32)), .unset] []))
    refine Go.st (fun _ k' => XS.iload X102.here hx rfl (hb hby at_29) rfl k') ?_
    show Go p e below s _ _ _ (T102.setTop (mkF m 31 #[.val (.int kk), .val (.int vv), .val (.int (9 : Int32)), .val (.ref a_LEAVE_GROUP), .val (.int (vv.toInt16.toInt32)), .val (.int (0 : Int32)), .val (.int (3 : Int32)), .unset] [(.int (vv.toInt16.toInt32))]))
    refine Go.st (fun _ k' => XS.iload X102.here hx rfl (hb hby at_31) rfl k') ?_
    show Go p e below s _ _ _ (T102.setTop (mkF m 33 #[.val (.int kk), .val (.int vv), .val (.int (9 : Int32)), .val (.ref a_LEAVE_GROUP), .val (.int (vv.toInt16.toInt32)), .val (.int (0 : Int32)), .val (.int (3 : Int32)), .unset] [(.int (0 : Int32)), (.int (vv.toInt16.toInt32))]))
    by_cases hc103 : (vv.toInt16.toInt32) < (0 : Int32)
    · refine Go.st (fun _ k' => XS.icmpYes X102.here hx rfl (pc0 := 33) (pc' := 47) rfl (hb hby at_33) rfl (XT.ii_lt_t hc103) (by decide) (by decide) k') ?_
      show Go p e below s _ _ _ (T102.setTop (mkF m 47 #[.val (.int kk), .val (.int vv), .val (.int (9 : Int32)), .val (.ref a_LEAVE_GROUP), .val (.int (vv.toInt16.toInt32)), .val (.int (0 : Int32)), .val (.int (3 : Int32)), .unset] []))
      refine Go.st (fun _ k' => XS.iconst X102.here hx rfl (hb hby at_47) k') ?_
      show Go p e below s _ _ _ (T102.setTop (mkF m 48 #[.val (.int kk), .val (.int vv), .val (.int (9 : Int32)), .val (.ref a_LEAVE_GROUP), .val (.int (vv.toInt16.toInt32)), .val (.int (0 : Int32)), .val (.int (3 : Int32)), .unset] [(.int (0 : Int32))]))
      refine Go.st (fun _ k' => XS.istore X102.here hx rfl (hb hby at_48) rfl (l' := #[.val (.int kk), .val (.int vv), .val (.int (9 : Int32)), .val (.ref a_LEAVE_GROUP), .val (.int (vv.toInt16.toInt32)), .val (.int (0 : Int32)), .val (.int (3 : Int32)), .val (.int (0 : Int32))]) rfl k') ?_
      show Go p e below s _ _ _ (T102.setTop (mkF m 50 #[.val (.int kk), .val (.int vv), .val (.int (9 : Int32)), .val (.ref a_LEAVE_GROUP), .val (.int (vv.toInt16.toInt32)), .val (.int (0 : Int32)), .val (.int (3 : Int32)), .val (.int (0 : Int32))] []))
      refine Go.st (fun _ k' => XS.aloadN X102.here hx rfl (hb hby at_50) rfl rfl k') ?_
      show Go p e below s _ _ _ (T102.setTop (mkF m 51 #[.val (.int kk), .val (.int vv), .val (.int (9 : Int32)), .val (.ref a_LEAVE_GROUP), .val (.int (vv.toInt16.toInt32)), .val (.int (0 : Int32)), .val (.int (3 : Int32)), .val (.int (0 : Int32))] [(.ref a_LEAVE_GROUP)]))
      refine Go.st (fun _ k' => XS.iload X102.here hx rfl (hb hby at_51) rfl k') ?_
      show Go p e below s _ _ _ (T102.setTop (mkF m 53 #[.val (.int kk), .val (.int vv), .val (.int (9 : Int32)), .val (.ref a_LEAVE_GROUP), .val (.int (vv.toInt16.toInt32)), .val (.int (0 : Int32)), .val (.int (3 : Int32)), .val (.int (0 : Int32))] [(.int (vv.toInt16.toInt32)), (.ref a_LEAVE_GROUP)]))
      obtain ⟨cq104, kq104, q104a, q104b, q104c⟩ := isOf hZ eq102 E_LEAVE_GROUP
      obtain ⟨_, _, ⟨T104, L104, k104, n104⟩, -, X104, ⟨Lc104, hQ104, l104, y104, z104⟩, st104⟩ := X102.virtualBack hx (y := (⟨"com/example/tenure_of_partitions/tenureofpartitions/ApiKey", "serves", "(S)Z"⟩ : MethodName)) (z := (⟨"com/example/tenure_of_partitions/tenureofpartitions/ApiKey", "serves", "(S)Z"⟩ : MethodName)) hown (mvT hZ (wdx hw 14 rfl)) (mvT hZ (wdx hw 15 rfl)) (notFace_of_selects (args := #[]) (mvT hZ (wdx hw 17 rfl))) (mvT hZ (wdx hw 17 rfl)) (mvT hZ (wdx hw 16 rfl)) (by decide) (backOf (W := 0) (rm4 l Z a0 hw [] a_LEAVE_GROUP (vv.toInt16.toInt32) (0 : Int32) (3 : Int32) h0 n0 O0 F_LEAVE_GROUP_minVersion F_LEAVE_GROUP_maxVersion) hZ (wdx hw 18 rfl) (wdx hw 6 rfl) (by decide) (by decide)) q104a q104c (g := (mkF m 53 #[.val (.int kk), .val (.int vv), .val (.int (9 : Int32)), .val (.ref a_LEAVE_GROUP), .val (.int (vv.toInt16.toInt32)), .val (.int (0 : Int32)), .val (.int (3 : Int32)), .val (.int (0 : Int32))] [(.int (vv.toInt16.toInt32)), (.ref a_LEAVE_GROUP)])) rfl (by rw [hml]; rfl) (Steps.refl _) (argsL := [(.int (vv.toInt16.toInt32))]) (rest := []) (lenOf pd__S_Z rfl) rfl (by show 2 * 0 + _ ≤ _; exact Nat.le_of_eq rfl) (hb hby at_53) (fun _ _ => ⟨rfl, eq102, (by exact Nat.le_of_ble_eq_true rfl), (by exact Nat.le_of_ble_eq_true rfl)⟩)
      dsimp only [Pt.U, Pt.locs, Pt.cells, Pt.slots] at X104 l104 y104 z104 st104 hQ104
      subst l104 y104 z104
      obtain ⟨rfl, Nq104, eq104⟩ := hQ104
      have N104 := Fr.app N102 Nq104
      refine Go.tr st104 ?_
      show Go p e below s _ _ _ (T104.setTop (mkF m 56 #[.val (.int kk), .val (.int vv), .val (.int (9 : Int32)), .val (.ref a_LEAVE_GROUP), .val (.int (vv.toInt16.toInt32)), .val (.int (0 : Int32)), .val (.int (3 : Int32)), .val (.int (0 : Int32))] [(.int (if (vv.toInt16.toInt32) < (0 : Int32) then (0 : Int32) else if (3 : Int32) < (vv.toInt16.toInt32) then 0 else 1))]))
      refine Go.st (fun _ k' => XS.iload X104.here hx rfl (hb hby at_56) rfl k') ?_
      show Go p e below s _ _ _ (T104.setTop (mkF m 58 #[.val (.int kk), .val (.int vv), .val (.int (9 : Int32)), .val (.ref a_LEAVE_GROUP), .val (.int (vv.toInt16.toInt32)), .val (.int (0 : Int32)), .val (.int (3 : Int32)), .val (.int (0 : Int32))] [(.int (0 : Int32)), (.int (if (vv.toInt16.toInt32) < (0 : Int32) then (0 : Int32) else if (3 : Int32) < (vv.toInt16.toInt32) then 0 else 1))]))
      by_cases hc105 : (if (vv.toInt16.toInt32) < (0 : Int32) then (0 : Int32) else if (3 : Int32) < (vv.toInt16.toInt32) then 0 else 1) = (0 : Int32)
      · refine Go.st (fun _ k' => XS.icmpNo X104.here hx rfl (hb hby at_58) rfl (XT.ii_ne_f hc105) k') ?_
        show Go p e below s _ _ _ (T104.setTop (mkF m 61 #[.val (.int kk), .val (.int vv), .val (.int (9 : Int32)), .val (.ref a_LEAVE_GROUP), .val (.int (vv.toInt16.toInt32)), .val (.int (0 : Int32)), .val (.int (3 : Int32)), .val (.int (0 : Int32))] []))
        refine Go.st (fun _ k' => XS.iconst X104.here hx rfl (hb hby at_61) k') ?_
        show Go p e below s _ _ _ (T104.setTop (mkF m 62 #[.val (.int kk), .val (.int vv), .val (.int (9 : Int32)), .val (.ref a_LEAVE_GROUP), .val (.int (vv.toInt16.toInt32)), .val (.int (0 : Int32)), .val (.int (3 : Int32)), .val (.int (0 : Int32))] [(.int (1 : Int32))]))
        refine Go.st (fun _ k' => XS.goto X104.here hx rfl (pc0 := 62) (pc' := 66) rfl (hb hby at_62) (by decide) (by decide) k') ?_
        show Go p e below s _ _ _ (T104.setTop (mkF m 66 #[.val (.int kk), .val (.int vv), .val (.int (9 : Int32)), .val (.ref a_LEAVE_GROUP), .val (.int (vv.toInt16.toInt32)), .val (.int (0 : Int32)), .val (.int (3 : Int32)), .val (.int (0 : Int32))] [(.int (1 : Int32))]))
        refine Go.retB X104 hx hlk (t := .boolean) Bd.returns (by simp) (hb hby at_66) (by decide) (by decide) eq104 ?_
        exact ⟨rfl, N104, trivial⟩
      · refine Go.st (fun _ k' => XS.icmpYes X104.here hx rfl (pc0 := 58) (pc' := 65) rfl (hb hby at_58) rfl (XT.ii_ne_t hc105) (by decide) (by decide) k') ?_
        show Go p e below s _ _ _ (T104.setTop (mkF m 65 #[.val (.int kk), .val (.int vv), .val (.int (9 : Int32)), .val (.ref a_LEAVE_GROUP), .val (.int (vv.toInt16.toInt32)), .val (.int (0 : Int32)), .val (.int (3 : Int32)), .val (.int (0 : Int32))] []))
        refine Go.st (fun _ k' => XS.iconst X104.here hx rfl (hb hby at_65) k') ?_
        show Go p e below s _ _ _ (T104.setTop (mkF m 66 #[.val (.int kk), .val (.int vv), .val (.int (9 : Int32)), .val (.ref a_LEAVE_GROUP), .val (.int (vv.toInt16.toInt32)), .val (.int (0 : Int32)), .val (.int (3 : Int32)), .val (.int (0 : Int32))] [(.int (0 : Int32))]))
        refine Go.retB X104 hx hlk (t := .boolean) Bd.returns (by simp) (hb hby at_66) (by decide) (by decide) eq104 ?_
        exact absurd (by simp [hc103]) hc105
    · refine Go.st (fun _ k' => XS.icmpNo X102.here hx rfl (hb hby at_33) rfl (XT.ii_lt_f hc103) k') ?_
      show Go p e below s _ _ _ (T102.setTop (mkF m 36 #[.val (.int kk), .val (.int vv), .val (.int (9 : Int32)), .val (.ref a_LEAVE_GROUP), .val (.int (vv.toInt16.toInt32)), .val (.int (0 : Int32)), .val (.int (3 : Int32)), .unset] []))
      refine Go.st (fun _ k' => XS.iload X102.here hx rfl (hb hby at_36) rfl k') ?_
      show Go p e below s _ _ _ (T102.setTop (mkF m 38 #[.val (.int kk), .val (.int vv), .val (.int (9 : Int32)), .val (.ref a_LEAVE_GROUP), .val (.int (vv.toInt16.toInt32)), .val (.int (0 : Int32)), .val (.int (3 : Int32)), .unset] [(.int (vv.toInt16.toInt32))]))
      refine Go.st (fun _ k' => XS.iload X102.here hx rfl (hb hby at_38) rfl k') ?_
      show Go p e below s _ _ _ (T102.setTop (mkF m 40 #[.val (.int kk), .val (.int vv), .val (.int (9 : Int32)), .val (.ref a_LEAVE_GROUP), .val (.int (vv.toInt16.toInt32)), .val (.int (0 : Int32)), .val (.int (3 : Int32)), .unset] [(.int (3 : Int32)), (.int (vv.toInt16.toInt32))]))
      by_cases hc106 : (3 : Int32) < (vv.toInt16.toInt32)
      · refine Go.st (fun _ k' => XS.icmpYes X102.here hx rfl (pc0 := 40) (pc' := 47) rfl (hb hby at_40) rfl (XT.ii_gt_t hc106) (by decide) (by decide) k') ?_
        show Go p e below s _ _ _ (T102.setTop (mkF m 47 #[.val (.int kk), .val (.int vv), .val (.int (9 : Int32)), .val (.ref a_LEAVE_GROUP), .val (.int (vv.toInt16.toInt32)), .val (.int (0 : Int32)), .val (.int (3 : Int32)), .unset] []))
        refine Go.st (fun _ k' => XS.iconst X102.here hx rfl (hb hby at_47) k') ?_
        show Go p e below s _ _ _ (T102.setTop (mkF m 48 #[.val (.int kk), .val (.int vv), .val (.int (9 : Int32)), .val (.ref a_LEAVE_GROUP), .val (.int (vv.toInt16.toInt32)), .val (.int (0 : Int32)), .val (.int (3 : Int32)), .unset] [(.int (0 : Int32))]))
        refine Go.st (fun _ k' => XS.istore X102.here hx rfl (hb hby at_48) rfl (l' := #[.val (.int kk), .val (.int vv), .val (.int (9 : Int32)), .val (.ref a_LEAVE_GROUP), .val (.int (vv.toInt16.toInt32)), .val (.int (0 : Int32)), .val (.int (3 : Int32)), .val (.int (0 : Int32))]) rfl k') ?_
        show Go p e below s _ _ _ (T102.setTop (mkF m 50 #[.val (.int kk), .val (.int vv), .val (.int (9 : Int32)), .val (.ref a_LEAVE_GROUP), .val (.int (vv.toInt16.toInt32)), .val (.int (0 : Int32)), .val (.int (3 : Int32)), .val (.int (0 : Int32))] []))
        refine Go.st (fun _ k' => XS.aloadN X102.here hx rfl (hb hby at_50) rfl rfl k') ?_
        show Go p e below s _ _ _ (T102.setTop (mkF m 51 #[.val (.int kk), .val (.int vv), .val (.int (9 : Int32)), .val (.ref a_LEAVE_GROUP), .val (.int (vv.toInt16.toInt32)), .val (.int (0 : Int32)), .val (.int (3 : Int32)), .val (.int (0 : Int32))] [(.ref a_LEAVE_GROUP)]))
        refine Go.st (fun _ k' => XS.iload X102.here hx rfl (hb hby at_51) rfl k') ?_
        show Go p e below s _ _ _ (T102.setTop (mkF m 53 #[.val (.int kk), .val (.int vv), .val (.int (9 : Int32)), .val (.ref a_LEAVE_GROUP), .val (.int (vv.toInt16.toInt32)), .val (.int (0 : Int32)), .val (.int (3 : Int32)), .val (.int (0 : Int32))] [(.int (vv.toInt16.toInt32)), (.ref a_LEAVE_GROUP)]))
        obtain ⟨cq107, kq107, q107a, q107b, q107c⟩ := isOf hZ eq102 E_LEAVE_GROUP
        obtain ⟨_, _, ⟨T107, L107, k107, n107⟩, -, X107, ⟨Lc107, hQ107, l107, y107, z107⟩, st107⟩ := X102.virtualBack hx (y := (⟨"com/example/tenure_of_partitions/tenureofpartitions/ApiKey", "serves", "(S)Z"⟩ : MethodName)) (z := (⟨"com/example/tenure_of_partitions/tenureofpartitions/ApiKey", "serves", "(S)Z"⟩ : MethodName)) hown (mvT hZ (wdx hw 14 rfl)) (mvT hZ (wdx hw 15 rfl)) (notFace_of_selects (args := #[]) (mvT hZ (wdx hw 17 rfl))) (mvT hZ (wdx hw 17 rfl)) (mvT hZ (wdx hw 16 rfl)) (by decide) (backOf (W := 0) (rm4 l Z a0 hw [] a_LEAVE_GROUP (vv.toInt16.toInt32) (0 : Int32) (3 : Int32) h0 n0 O0 F_LEAVE_GROUP_minVersion F_LEAVE_GROUP_maxVersion) hZ (wdx hw 18 rfl) (wdx hw 6 rfl) (by decide) (by decide)) q107a q107c (g := (mkF m 53 #[.val (.int kk), .val (.int vv), .val (.int (9 : Int32)), .val (.ref a_LEAVE_GROUP), .val (.int (vv.toInt16.toInt32)), .val (.int (0 : Int32)), .val (.int (3 : Int32)), .val (.int (0 : Int32))] [(.int (vv.toInt16.toInt32)), (.ref a_LEAVE_GROUP)])) rfl (by rw [hml]; rfl) (Steps.refl _) (argsL := [(.int (vv.toInt16.toInt32))]) (rest := []) (lenOf pd__S_Z rfl) rfl (by show 2 * 0 + _ ≤ _; exact Nat.le_of_eq rfl) (hb hby at_53) (fun _ _ => ⟨rfl, eq102, (by exact Nat.le_of_ble_eq_true rfl), (by exact Nat.le_of_ble_eq_true rfl)⟩)
        dsimp only [Pt.U, Pt.locs, Pt.cells, Pt.slots] at X107 l107 y107 z107 st107 hQ107
        subst l107 y107 z107
        obtain ⟨rfl, Nq107, eq107⟩ := hQ107
        have N107 := Fr.app N102 Nq107
        refine Go.tr st107 ?_
        show Go p e below s _ _ _ (T107.setTop (mkF m 56 #[.val (.int kk), .val (.int vv), .val (.int (9 : Int32)), .val (.ref a_LEAVE_GROUP), .val (.int (vv.toInt16.toInt32)), .val (.int (0 : Int32)), .val (.int (3 : Int32)), .val (.int (0 : Int32))] [(.int (if (vv.toInt16.toInt32) < (0 : Int32) then (0 : Int32) else if (3 : Int32) < (vv.toInt16.toInt32) then 0 else 1))]))
        refine Go.st (fun _ k' => XS.iload X107.here hx rfl (hb hby at_56) rfl k') ?_
        show Go p e below s _ _ _ (T107.setTop (mkF m 58 #[.val (.int kk), .val (.int vv), .val (.int (9 : Int32)), .val (.ref a_LEAVE_GROUP), .val (.int (vv.toInt16.toInt32)), .val (.int (0 : Int32)), .val (.int (3 : Int32)), .val (.int (0 : Int32))] [(.int (0 : Int32)), (.int (if (vv.toInt16.toInt32) < (0 : Int32) then (0 : Int32) else if (3 : Int32) < (vv.toInt16.toInt32) then 0 else 1))]))
        by_cases hc108 : (if (vv.toInt16.toInt32) < (0 : Int32) then (0 : Int32) else if (3 : Int32) < (vv.toInt16.toInt32) then 0 else 1) = (0 : Int32)
        · refine Go.st (fun _ k' => XS.icmpNo X107.here hx rfl (hb hby at_58) rfl (XT.ii_ne_f hc108) k') ?_
          show Go p e below s _ _ _ (T107.setTop (mkF m 61 #[.val (.int kk), .val (.int vv), .val (.int (9 : Int32)), .val (.ref a_LEAVE_GROUP), .val (.int (vv.toInt16.toInt32)), .val (.int (0 : Int32)), .val (.int (3 : Int32)), .val (.int (0 : Int32))] []))
          refine Go.st (fun _ k' => XS.iconst X107.here hx rfl (hb hby at_61) k') ?_
          show Go p e below s _ _ _ (T107.setTop (mkF m 62 #[.val (.int kk), .val (.int vv), .val (.int (9 : Int32)), .val (.ref a_LEAVE_GROUP), .val (.int (vv.toInt16.toInt32)), .val (.int (0 : Int32)), .val (.int (3 : Int32)), .val (.int (0 : Int32))] [(.int (1 : Int32))]))
          refine Go.st (fun _ k' => XS.goto X107.here hx rfl (pc0 := 62) (pc' := 66) rfl (hb hby at_62) (by decide) (by decide) k') ?_
          show Go p e below s _ _ _ (T107.setTop (mkF m 66 #[.val (.int kk), .val (.int vv), .val (.int (9 : Int32)), .val (.ref a_LEAVE_GROUP), .val (.int (vv.toInt16.toInt32)), .val (.int (0 : Int32)), .val (.int (3 : Int32)), .val (.int (0 : Int32))] [(.int (1 : Int32))]))
          refine Go.retB X107 hx hlk (t := .boolean) Bd.returns (by simp) (hb hby at_66) (by decide) (by decide) eq107 ?_
          exact ⟨rfl, N107, trivial⟩
        · refine Go.st (fun _ k' => XS.icmpYes X107.here hx rfl (pc0 := 58) (pc' := 65) rfl (hb hby at_58) rfl (XT.ii_ne_t hc108) (by decide) (by decide) k') ?_
          show Go p e below s _ _ _ (T107.setTop (mkF m 65 #[.val (.int kk), .val (.int vv), .val (.int (9 : Int32)), .val (.ref a_LEAVE_GROUP), .val (.int (vv.toInt16.toInt32)), .val (.int (0 : Int32)), .val (.int (3 : Int32)), .val (.int (0 : Int32))] []))
          refine Go.st (fun _ k' => XS.iconst X107.here hx rfl (hb hby at_65) k') ?_
          show Go p e below s _ _ _ (T107.setTop (mkF m 66 #[.val (.int kk), .val (.int vv), .val (.int (9 : Int32)), .val (.ref a_LEAVE_GROUP), .val (.int (vv.toInt16.toInt32)), .val (.int (0 : Int32)), .val (.int (3 : Int32)), .val (.int (0 : Int32))] [(.int (0 : Int32))]))
          refine Go.retB X107 hx hlk (t := .boolean) Bd.returns (by simp) (hb hby at_66) (by decide) (by decide) eq107 ?_
          exact absurd (by simp [hc103, hc106]) hc108
      · refine Go.st (fun _ k' => XS.icmpNo X102.here hx rfl (hb hby at_40) rfl (XT.ii_gt_f hc106) k') ?_
        show Go p e below s _ _ _ (T102.setTop (mkF m 43 #[.val (.int kk), .val (.int vv), .val (.int (9 : Int32)), .val (.ref a_LEAVE_GROUP), .val (.int (vv.toInt16.toInt32)), .val (.int (0 : Int32)), .val (.int (3 : Int32)), .unset] []))
        refine Go.st (fun _ k' => XS.iconst X102.here hx rfl (hb hby at_43) k') ?_
        show Go p e below s _ _ _ (T102.setTop (mkF m 44 #[.val (.int kk), .val (.int vv), .val (.int (9 : Int32)), .val (.ref a_LEAVE_GROUP), .val (.int (vv.toInt16.toInt32)), .val (.int (0 : Int32)), .val (.int (3 : Int32)), .unset] [(.int (1 : Int32))]))
        refine Go.st (fun _ k' => XS.goto X102.here hx rfl (pc0 := 44) (pc' := 48) rfl (hb hby at_44) (by decide) (by decide) k') ?_
        show Go p e below s _ _ _ (T102.setTop (mkF m 48 #[.val (.int kk), .val (.int vv), .val (.int (9 : Int32)), .val (.ref a_LEAVE_GROUP), .val (.int (vv.toInt16.toInt32)), .val (.int (0 : Int32)), .val (.int (3 : Int32)), .unset] [(.int (1 : Int32))]))
        refine Go.st (fun _ k' => XS.istore X102.here hx rfl (hb hby at_48) rfl (l' := #[.val (.int kk), .val (.int vv), .val (.int (9 : Int32)), .val (.ref a_LEAVE_GROUP), .val (.int (vv.toInt16.toInt32)), .val (.int (0 : Int32)), .val (.int (3 : Int32)), .val (.int (1 : Int32))]) rfl k') ?_
        show Go p e below s _ _ _ (T102.setTop (mkF m 50 #[.val (.int kk), .val (.int vv), .val (.int (9 : Int32)), .val (.ref a_LEAVE_GROUP), .val (.int (vv.toInt16.toInt32)), .val (.int (0 : Int32)), .val (.int (3 : Int32)), .val (.int (1 : Int32))] []))
        refine Go.st (fun _ k' => XS.aloadN X102.here hx rfl (hb hby at_50) rfl rfl k') ?_
        show Go p e below s _ _ _ (T102.setTop (mkF m 51 #[.val (.int kk), .val (.int vv), .val (.int (9 : Int32)), .val (.ref a_LEAVE_GROUP), .val (.int (vv.toInt16.toInt32)), .val (.int (0 : Int32)), .val (.int (3 : Int32)), .val (.int (1 : Int32))] [(.ref a_LEAVE_GROUP)]))
        refine Go.st (fun _ k' => XS.iload X102.here hx rfl (hb hby at_51) rfl k') ?_
        show Go p e below s _ _ _ (T102.setTop (mkF m 53 #[.val (.int kk), .val (.int vv), .val (.int (9 : Int32)), .val (.ref a_LEAVE_GROUP), .val (.int (vv.toInt16.toInt32)), .val (.int (0 : Int32)), .val (.int (3 : Int32)), .val (.int (1 : Int32))] [(.int (vv.toInt16.toInt32)), (.ref a_LEAVE_GROUP)]))
        obtain ⟨cq109, kq109, q109a, q109b, q109c⟩ := isOf hZ eq102 E_LEAVE_GROUP
        obtain ⟨_, _, ⟨T109, L109, k109, n109⟩, -, X109, ⟨Lc109, hQ109, l109, y109, z109⟩, st109⟩ := X102.virtualBack hx (y := (⟨"com/example/tenure_of_partitions/tenureofpartitions/ApiKey", "serves", "(S)Z"⟩ : MethodName)) (z := (⟨"com/example/tenure_of_partitions/tenureofpartitions/ApiKey", "serves", "(S)Z"⟩ : MethodName)) hown (mvT hZ (wdx hw 14 rfl)) (mvT hZ (wdx hw 15 rfl)) (notFace_of_selects (args := #[]) (mvT hZ (wdx hw 17 rfl))) (mvT hZ (wdx hw 17 rfl)) (mvT hZ (wdx hw 16 rfl)) (by decide) (backOf (W := 0) (rm4 l Z a0 hw [] a_LEAVE_GROUP (vv.toInt16.toInt32) (0 : Int32) (3 : Int32) h0 n0 O0 F_LEAVE_GROUP_minVersion F_LEAVE_GROUP_maxVersion) hZ (wdx hw 18 rfl) (wdx hw 6 rfl) (by decide) (by decide)) q109a q109c (g := (mkF m 53 #[.val (.int kk), .val (.int vv), .val (.int (9 : Int32)), .val (.ref a_LEAVE_GROUP), .val (.int (vv.toInt16.toInt32)), .val (.int (0 : Int32)), .val (.int (3 : Int32)), .val (.int (1 : Int32))] [(.int (vv.toInt16.toInt32)), (.ref a_LEAVE_GROUP)])) rfl (by rw [hml]; rfl) (Steps.refl _) (argsL := [(.int (vv.toInt16.toInt32))]) (rest := []) (lenOf pd__S_Z rfl) rfl (by show 2 * 0 + _ ≤ _; exact Nat.le_of_eq rfl) (hb hby at_53) (fun _ _ => ⟨rfl, eq102, (by exact Nat.le_of_ble_eq_true rfl), (by exact Nat.le_of_ble_eq_true rfl)⟩)
        dsimp only [Pt.U, Pt.locs, Pt.cells, Pt.slots] at X109 l109 y109 z109 st109 hQ109
        subst l109 y109 z109
        obtain ⟨rfl, Nq109, eq109⟩ := hQ109
        have N109 := Fr.app N102 Nq109
        refine Go.tr st109 ?_
        show Go p e below s _ _ _ (T109.setTop (mkF m 56 #[.val (.int kk), .val (.int vv), .val (.int (9 : Int32)), .val (.ref a_LEAVE_GROUP), .val (.int (vv.toInt16.toInt32)), .val (.int (0 : Int32)), .val (.int (3 : Int32)), .val (.int (1 : Int32))] [(.int (if (vv.toInt16.toInt32) < (0 : Int32) then (0 : Int32) else if (3 : Int32) < (vv.toInt16.toInt32) then 0 else 1))]))
        refine Go.st (fun _ k' => XS.iload X109.here hx rfl (hb hby at_56) rfl k') ?_
        show Go p e below s _ _ _ (T109.setTop (mkF m 58 #[.val (.int kk), .val (.int vv), .val (.int (9 : Int32)), .val (.ref a_LEAVE_GROUP), .val (.int (vv.toInt16.toInt32)), .val (.int (0 : Int32)), .val (.int (3 : Int32)), .val (.int (1 : Int32))] [(.int (1 : Int32)), (.int (if (vv.toInt16.toInt32) < (0 : Int32) then (0 : Int32) else if (3 : Int32) < (vv.toInt16.toInt32) then 0 else 1))]))
        by_cases hc110 : (if (vv.toInt16.toInt32) < (0 : Int32) then (0 : Int32) else if (3 : Int32) < (vv.toInt16.toInt32) then 0 else 1) = (1 : Int32)
        · refine Go.st (fun _ k' => XS.icmpNo X109.here hx rfl (hb hby at_58) rfl (XT.ii_ne_f hc110) k') ?_
          show Go p e below s _ _ _ (T109.setTop (mkF m 61 #[.val (.int kk), .val (.int vv), .val (.int (9 : Int32)), .val (.ref a_LEAVE_GROUP), .val (.int (vv.toInt16.toInt32)), .val (.int (0 : Int32)), .val (.int (3 : Int32)), .val (.int (1 : Int32))] []))
          refine Go.st (fun _ k' => XS.iconst X109.here hx rfl (hb hby at_61) k') ?_
          show Go p e below s _ _ _ (T109.setTop (mkF m 62 #[.val (.int kk), .val (.int vv), .val (.int (9 : Int32)), .val (.ref a_LEAVE_GROUP), .val (.int (vv.toInt16.toInt32)), .val (.int (0 : Int32)), .val (.int (3 : Int32)), .val (.int (1 : Int32))] [(.int (1 : Int32))]))
          refine Go.st (fun _ k' => XS.goto X109.here hx rfl (pc0 := 62) (pc' := 66) rfl (hb hby at_62) (by decide) (by decide) k') ?_
          show Go p e below s _ _ _ (T109.setTop (mkF m 66 #[.val (.int kk), .val (.int vv), .val (.int (9 : Int32)), .val (.ref a_LEAVE_GROUP), .val (.int (vv.toInt16.toInt32)), .val (.int (0 : Int32)), .val (.int (3 : Int32)), .val (.int (1 : Int32))] [(.int (1 : Int32))]))
          refine Go.retB X109 hx hlk (t := .boolean) Bd.returns (by simp) (hb hby at_66) (by decide) (by decide) eq109 ?_
          exact ⟨rfl, N109, trivial⟩
        · refine Go.st (fun _ k' => XS.icmpYes X109.here hx rfl (pc0 := 58) (pc' := 65) rfl (hb hby at_58) rfl (XT.ii_ne_t hc110) (by decide) (by decide) k') ?_
          show Go p e below s _ _ _ (T109.setTop (mkF m 65 #[.val (.int kk), .val (.int vv), .val (.int (9 : Int32)), .val (.ref a_LEAVE_GROUP), .val (.int (vv.toInt16.toInt32)), .val (.int (0 : Int32)), .val (.int (3 : Int32)), .val (.int (1 : Int32))] []))
          refine Go.st (fun _ k' => XS.iconst X109.here hx rfl (hb hby at_65) k') ?_
          show Go p e below s _ _ _ (T109.setTop (mkF m 66 #[.val (.int kk), .val (.int vv), .val (.int (9 : Int32)), .val (.ref a_LEAVE_GROUP), .val (.int (vv.toInt16.toInt32)), .val (.int (0 : Int32)), .val (.int (3 : Int32)), .val (.int (1 : Int32))] [(.int (0 : Int32))]))
          refine Go.retB X109 hx hlk (t := .boolean) Bd.returns (by simp) (hb hby at_66) (by decide) (by decide) eq109 ?_
          exact absurd (by simp [hc103, hc106]) hc110
  · rw [hi]
    show Go p e below s _ _ _ (s₁.setTop (mkF m 8 #[.val (.int kk), .val (.int vv), .val (.int (10 : Int32)), .unset, .unset, .unset, .unset, .unset] []))
    refine Go.st (fun _ k' => XS.iloadN X0.here hx rfl (hb hby at_8) rfl k') ?_
    show Go p e below s _ _ _ (s₁.setTop (mkF m 9 #[.val (.int kk), .val (.int vv), .val (.int (10 : Int32)), .unset, .unset, .unset, .unset, .unset] [(.int (10 : Int32))]))
    obtain ⟨_, _, ⟨T111, L111, k111, n111⟩, -, X111, ⟨Lc111, hQ111, l111, y111, z111⟩, st111⟩ := Jvm.LawKit.callS X0 hx (y := (⟨"com/example/tenure_of_partitions/tenureofpartitions/ApiKeyServesPinLaw", "pick", "(I)Lcom/example/tenure_of_partitions/tenureofpartitions/ApiKey;"⟩ : MethodName)) hown (mvT hZ (wdx hw 1 rfl)) (mvT hZ (wdx hw 2 rfl)) (mvT hZ (wdx hw 3 rfl)) (mvT hZ (wdx hw 4 rfl)) (by decide) (backOf (W := 0) (rm1 l Z a0 hw [] (10 : Int32) a_PRODUCE a_FETCH a_LIST_OFFSETS a_METADATA a_OFFSET_COMMIT a_OFFSET_FETCH a_FIND_COORDINATOR a_JOIN_GROUP a_HEARTBEAT a_LEAVE_GROUP a_SYNC_GROUP a_DESCRIBE_GROUPS a_LIST_GROUPS a_API_VERSIONS h0 n0 O0 S_PRODUCE S_FETCH S_LIST_OFFSETS S_METADATA S_OFFSET_COMMIT S_OFFSET_FETCH S_FIND_COORDINATOR S_JOIN_GROUP S_HEARTBEAT S_LEAVE_GROUP S_SYNC_GROUP S_DESCRIBE_GROUPS S_LIST_GROUPS S_API_VERSIONS) hZ (wdx hw 4 rfl) (wdx hw 3 rfl) (by decide) (by decide)) (g := (mkF m 9 #[.val (.int kk), .val (.int vv), .val (.int (10 : Int32)), .unset, .unset, .unset, .unset, .unset] [(.int (10 : Int32))])) rfl (by rw [hml]; rfl) (argsL := [(.int (10 : Int32))]) (rest := []) (lenOf pd__I_Lcom_example_tenure_of_partitions_tenureofpartitions_ApiKey_ rfl) rfl (by show 2 * 0 + _ ≤ _; exact Nat.le_of_eq rfl) (hb hby at_9) (fun _ _ => ⟨rfl, e0, (by exact Nat.le_of_ble_eq_true rfl), (by exact Nat.le_of_ble_eq_true rfl)⟩)
    dsimp only [Pt.U, Pt.locs, Pt.cells, Pt.slots] at X111 l111 y111 z111 st111 hQ111
    subst l111 y111 z111
    obtain ⟨rfl, Nq111, eq111⟩ := hQ111
    have N111 := Fr.app N0 Nq111
    refine Go.st st111 ?_
    show Go p e below s _ _ _ (T111.setTop (mkF m 12 #[.val (.int kk), .val (.int vv), .val (.int (10 : Int32)), .unset, .unset, .unset, .unset, .unset] [(.ref (fpick (10 : Int32) a_PRODUCE a_FETCH a_LIST_OFFSETS a_METADATA a_OFFSET_COMMIT a_OFFSET_FETCH a_FIND_COORDINATOR a_JOIN_GROUP a_HEARTBEAT a_LEAVE_GROUP a_SYNC_GROUP a_DESCRIBE_GROUPS a_LIST_GROUPS a_API_VERSIONS))]))
    show Go p e below s _ _ _ (T111.setTop (mkF m 12 #[.val (.int kk), .val (.int vv), .val (.int (10 : Int32)), .unset, .unset, .unset, .unset, .unset] [(.ref a_SYNC_GROUP)]))
    refine Go.st (fun _ k' => XS.astoreN X111.here hx rfl (hb hby at_12) rfl rfl (l' := #[.val (.int kk), .val (.int vv), .val (.int (10 : Int32)), .val (.ref a_SYNC_GROUP), .unset, .unset, .unset, .unset]) rfl k') ?_
    show Go p e below s _ _ _ (T111.setTop (mkF m 13 #[.val (.int kk), .val (.int vv), .val (.int (10 : Int32)), .val (.ref a_SYNC_GROUP), .unset, .unset, .unset, .unset] []))
    refine Go.st (fun _ k' => XS.iloadN X111.here hx rfl (hb hby at_13) rfl k') ?_
    show Go p e below s _ _ _ (T111.setTop (mkF m 14 #[.val (.int kk), .val (.int vv), .val (.int (10 : Int32)), .val (.ref a_SYNC_GROUP), .unset, .unset, .unset, .unset] [(.int vv)]))
    refine Go.st (fun _ k' => XS.i2s X111.here hx rfl (hb hby at_14) rfl k') ?_
    show Go p e below s _ _ _ (T111.setTop (mkF m 15 #[.val (.int kk), .val (.int vv), .val (.int (10 : Int32)), .val (.ref a_SYNC_GROUP), .unset, .unset, .unset, .unset] [(.int (vv.toInt16.toInt32))]))
    refine Go.st (fun _ k' => XS.istore X111.here hx rfl (hb hby at_15) rfl (l' := #[.val (.int kk), .val (.int vv), .val (.int (10 : Int32)), .val (.ref a_SYNC_GROUP), .val (.int (vv.toInt16.toInt32)), .unset, .unset, .unset]) rfl k') ?_
    show Go p e below s _ _ _ (T111.setTop (mkF m 17 #[.val (.int kk), .val (.int vv), .val (.int (10 : Int32)), .val (.ref a_SYNC_GROUP), .val (.int (vv.toInt16.toInt32)), .unset, .unset, .unset] []))
    refine Go.st (fun _ k' => XS.iloadN X111.here hx rfl (hb hby at_17) rfl k') ?_
    show Go p e below s _ _ _ (T111.setTop (mkF m 18 #[.val (.int kk), .val (.int vv), .val (.int (10 : Int32)), .val (.ref a_SYNC_GROUP), .val (.int (vv.toInt16.toInt32)), .unset, .unset, .unset] [(.int (10 : Int32))]))
    obtain ⟨_, _, ⟨T112, L112, k112, n112⟩, -, X112, ⟨Lc112, hQ112, l112, y112, z112⟩, st112⟩ := Jvm.LawKit.callS X111 hx (y := (⟨"com/example/tenure_of_partitions/tenureofpartitions/ApiKeyServesPinLaw", "lo", "(I)I"⟩ : MethodName)) hown (mvT hZ (wdx hw 8 rfl)) (mvT hZ (wdx hw 9 rfl)) (mvT hZ (wdx hw 3 rfl)) (mvT hZ (wdx hw 10 rfl)) (by decide) (backOf (W := 0) (rm2 l Z a0 hw [] (10 : Int32) h0 n0 O0 ) hZ (wdx hw 10 rfl) (wdx hw 3 rfl) (by decide) (by decide)) (g := (mkF m 18 #[.val (.int kk), .val (.int vv), .val (.int (10 : Int32)), .val (.ref a_SYNC_GROUP), .val (.int (vv.toInt16.toInt32)), .unset, .unset, .unset] [(.int (10 : Int32))])) rfl (by rw [hml]; rfl) (argsL := [(.int (10 : Int32))]) (rest := []) (lenOf pd__I_I rfl) rfl (by show 2 * 0 + _ ≤ _; exact Nat.le_of_eq rfl) (hb hby at_18) (fun _ _ => ⟨rfl, eq111, (by exact Nat.le_of_ble_eq_true rfl), (by exact Nat.le_of_ble_eq_true rfl)⟩)
    dsimp only [Pt.U, Pt.locs, Pt.cells, Pt.slots] at X112 l112 y112 z112 st112 hQ112
    subst l112 y112 z112
    obtain ⟨rfl, Nq112, eq112⟩ := hQ112
    have N112 := Fr.app N111 Nq112
    refine Go.st st112 ?_
    show Go p e below s _ _ _ (T112.setTop (mkF m 21 #[.val (.int kk), .val (.int vv), .val (.int (10 : Int32)), .val (.ref a_SYNC_GROUP), .val (.int (vv.toInt16.toInt32)), .unset, .unset, .unset] [(.int (flo (10 : Int32)))]))
    show Go p e below s _ _ _ (T112.setTop (mkF m 21 #[.val (.int kk), .val (.int vv), .val (.int (10 : Int32)), .val (.ref a_SYNC_GROUP), .val (.int (vv.toInt16.toInt32)), .unset, .unset, .unset] [(.int (0 : Int32))]))
    refine Go.st (fun _ k' => XS.istore X112.here hx rfl (hb hby at_21) rfl (l' := #[.val (.int kk), .val (.int vv), .val (.int (10 : Int32)), .val (.ref a_SYNC_GROUP), .val (.int (vv.toInt16.toInt32)), .val (.int (0 : Int32)), .unset, .unset]) rfl k') ?_
    show Go p e below s _ _ _ (T112.setTop (mkF m 23 #[.val (.int kk), .val (.int vv), .val (.int (10 : Int32)), .val (.ref a_SYNC_GROUP), .val (.int (vv.toInt16.toInt32)), .val (.int (0 : Int32)), .unset, .unset] []))
    refine Go.st (fun _ k' => XS.iloadN X112.here hx rfl (hb hby at_23) rfl k') ?_
    show Go p e below s _ _ _ (T112.setTop (mkF m 24 #[.val (.int kk), .val (.int vv), .val (.int (10 : Int32)), .val (.ref a_SYNC_GROUP), .val (.int (vv.toInt16.toInt32)), .val (.int (0 : Int32)), .unset, .unset] [(.int (10 : Int32))]))
    obtain ⟨_, _, ⟨T113, L113, k113, n113⟩, -, X113, ⟨Lc113, hQ113, l113, y113, z113⟩, st113⟩ := Jvm.LawKit.callS X112 hx (y := (⟨"com/example/tenure_of_partitions/tenureofpartitions/ApiKeyServesPinLaw", "hi", "(I)I"⟩ : MethodName)) hown (mvT hZ (wdx hw 11 rfl)) (mvT hZ (wdx hw 12 rfl)) (mvT hZ (wdx hw 3 rfl)) (mvT hZ (wdx hw 13 rfl)) (by decide) (backOf (W := 0) (rm3 l Z a0 hw [] (10 : Int32) h0 n0 O0 ) hZ (wdx hw 13 rfl) (wdx hw 3 rfl) (by decide) (by decide)) (g := (mkF m 24 #[.val (.int kk), .val (.int vv), .val (.int (10 : Int32)), .val (.ref a_SYNC_GROUP), .val (.int (vv.toInt16.toInt32)), .val (.int (0 : Int32)), .unset, .unset] [(.int (10 : Int32))])) rfl (by rw [hml]; rfl) (argsL := [(.int (10 : Int32))]) (rest := []) (lenOf pd__I_I rfl) rfl (by show 2 * 0 + _ ≤ _; exact Nat.le_of_eq rfl) (hb hby at_24) (fun _ _ => ⟨rfl, eq112, (by exact Nat.le_of_ble_eq_true rfl), (by exact Nat.le_of_ble_eq_true rfl)⟩)
    dsimp only [Pt.U, Pt.locs, Pt.cells, Pt.slots] at X113 l113 y113 z113 st113 hQ113
    subst l113 y113 z113
    obtain ⟨rfl, Nq113, eq113⟩ := hQ113
    have N113 := Fr.app N112 Nq113
    refine Go.st st113 ?_
    show Go p e below s _ _ _ (T113.setTop (mkF m 27 #[.val (.int kk), .val (.int vv), .val (.int (10 : Int32)), .val (.ref a_SYNC_GROUP), .val (.int (vv.toInt16.toInt32)), .val (.int (0 : Int32)), .unset, .unset] [(.int (fhi (10 : Int32)))]))
    show Go p e below s _ _ _ (T113.setTop (mkF m 27 #[.val (.int kk), .val (.int vv), .val (.int (10 : Int32)), .val (.ref a_SYNC_GROUP), .val (.int (vv.toInt16.toInt32)), .val (.int (0 : Int32)), .unset, .unset] [(.int (3 : Int32))]))
    refine Go.st (fun _ k' => XS.istore X113.here hx rfl (hb hby at_27) rfl (l' := #[.val (.int kk), .val (.int vv), .val (.int (10 : Int32)), .val (.ref a_SYNC_GROUP), .val (.int (vv.toInt16.toInt32)), .val (.int (0 : Int32)), .val (.int (3 : Int32)), .unset]) rfl k') ?_
    show Go p e below s _ _ _ (T113.setTop (mkF m 29 #[.val (.int kk), .val (.int vv), .val (.int (10 : Int32)), .val (.ref a_SYNC_GROUP), .val (.int (vv.toInt16.toInt32)), .val (.int (0 : Int32)), .val (.int (3 : Int32)), .unset] []))
    refine Go.st (fun _ k' => XS.iload X113.here hx rfl (hb hby at_29) rfl k') ?_
    show Go p e below s _ _ _ (T113.setTop (mkF m 31 #[.val (.int kk), .val (.int vv), .val (.int (10 : Int32)), .val (.ref a_SYNC_GROUP), .val (.int (vv.toInt16.toInt32)), .val (.int (0 : Int32)), .val (.int (3 : Int32)), .unset] [(.int (vv.toInt16.toInt32))]))
    refine Go.st (fun _ k' => XS.iload X113.here hx rfl (hb hby at_31) rfl k') ?_
    show Go p e below s _ _ _ (T113.setTop (mkF m 33 #[.val (.int kk), .val (.int vv), .val (.int (10 : Int32)), .val (.ref a_SYNC_GROUP), .val (.int (vv.toInt16.toInt32)), .val (.int (0 : Int32)), .val (.int (3 : Int32)), .unset] [(.int (0 : Int32)), (.int (vv.toInt16.toInt32))]))
    by_cases hc114 : (vv.toInt16.toInt32) < (0 : Int32)
    · refine Go.st (fun _ k' => XS.icmpYes X113.here hx rfl (pc0 := 33) (pc' := 47) rfl (hb hby at_33) rfl (XT.ii_lt_t hc114) (by decide) (by decide) k') ?_
      show Go p e below s _ _ _ (T113.setTop (mkF m 47 #[.val (.int kk), .val (.int vv), .val (.int (10 : Int32)), .val (.ref a_SYNC_GROUP), .val (.int (vv.toInt16.toInt32)), .val (.int (0 : Int32)), .val (.int (3 : Int32)), .unset] []))
      refine Go.st (fun _ k' => XS.iconst X113.here hx rfl (hb hby at_47) k') ?_
      show Go p e below s _ _ _ (T113.setTop (mkF m 48 #[.val (.int kk), .val (.int vv), .val (.int (10 : Int32)), .val (.ref a_SYNC_GROUP), .val (.int (vv.toInt16.toInt32)), .val (.int (0 : Int32)), .val (.int (3 : Int32)), .unset] [(.int (0 : Int32))]))
      refine Go.st (fun _ k' => XS.istore X113.here hx rfl (hb hby at_48) rfl (l' := #[.val (.int kk), .val (.int vv), .val (.int (10 : Int32)), .val (.ref a_SYNC_GROUP), .val (.int (vv.toInt16.toInt32)), .val (.int (0 : Int32)), .val (.int (3 : Int32)), .val (.int (0 : Int32))]) rfl k') ?_
      show Go p e below s _ _ _ (T113.setTop (mkF m 50 #[.val (.int kk), .val (.int vv), .val (.int (10 : Int32)), .val (.ref a_SYNC_GROUP), .val (.int (vv.toInt16.toInt32)), .val (.int (0 : Int32)), .val (.int (3 : Int32)), .val (.int (0 : Int32))] []))
      refine Go.st (fun _ k' => XS.aloadN X113.here hx rfl (hb hby at_50) rfl rfl k') ?_
      show Go p e below s _ _ _ (T113.setTop (mkF m 51 #[.val (.int kk), .val (.int vv), .val (.int (10 : Int32)), .val (.ref a_SYNC_GROUP), .val (.int (vv.toInt16.toInt32)), .val (.int (0 : Int32)), .val (.int (3 : Int32)), .val (.int (0 : Int32))] [(.ref a_SYNC_GROUP)]))
      refine Go.st (fun _ k' => XS.iload X113.here hx rfl (hb hby at_51) rfl k') ?_
      show Go p e below s _ _ _ (T113.setTop (mkF m 53 #[.val (.int kk), .val (.int vv), .val (.int (10 : Int32)), .val (.ref a_SYNC_GROUP), .val (.int (vv.toInt16.toInt32)), .val (.int (0 : Int32)), .val (.int (3 : Int32)), .val (.int (0 : Int32))] [(.int (vv.toInt16.toInt32)), (.ref a_SYNC_GROUP)]))
      obtain ⟨cq115, kq115, q115a, q115b, q115c⟩ := isOf hZ eq113 E_SYNC_GROUP
      obtain ⟨_, _, ⟨T115, L115, k115, n115⟩, -, X115, ⟨Lc115, hQ115, l115, y115, z115⟩, st115⟩ := X113.virtualBack hx (y := (⟨"com/example/tenure_of_partitions/tenureofpartitions/ApiKey", "serves", "(S)Z"⟩ : MethodName)) (z := (⟨"com/example/tenure_of_partitions/tenureofpartitions/ApiKey", "serves", "(S)Z"⟩ : MethodName)) hown (mvT hZ (wdx hw 14 rfl)) (mvT hZ (wdx hw 15 rfl)) (notFace_of_selects (args := #[]) (mvT hZ (wdx hw 17 rfl))) (mvT hZ (wdx hw 17 rfl)) (mvT hZ (wdx hw 16 rfl)) (by decide) (backOf (W := 0) (rm4 l Z a0 hw [] a_SYNC_GROUP (vv.toInt16.toInt32) (0 : Int32) (3 : Int32) h0 n0 O0 F_SYNC_GROUP_minVersion F_SYNC_GROUP_maxVersion) hZ (wdx hw 18 rfl) (wdx hw 6 rfl) (by decide) (by decide)) q115a q115c (g := (mkF m 53 #[.val (.int kk), .val (.int vv), .val (.int (10 : Int32)), .val (.ref a_SYNC_GROUP), .val (.int (vv.toInt16.toInt32)), .val (.int (0 : Int32)), .val (.int (3 : Int32)), .val (.int (0 : Int32))] [(.int (vv.toInt16.toInt32)), (.ref a_SYNC_GROUP)])) rfl (by rw [hml]; rfl) (Steps.refl _) (argsL := [(.int (vv.toInt16.toInt32))]) (rest := []) (lenOf pd__S_Z rfl) rfl (by show 2 * 0 + _ ≤ _; exact Nat.le_of_eq rfl) (hb hby at_53) (fun _ _ => ⟨rfl, eq113, (by exact Nat.le_of_ble_eq_true rfl), (by exact Nat.le_of_ble_eq_true rfl)⟩)
      dsimp only [Pt.U, Pt.locs, Pt.cells, Pt.slots] at X115 l115 y115 z115 st115 hQ115
      subst l115 y115 z115
      obtain ⟨rfl, Nq115, eq115⟩ := hQ115
      have N115 := Fr.app N113 Nq115
      refine Go.tr st115 ?_
      show Go p e below s _ _ _ (T115.setTop (mkF m 56 #[.val (.int kk), .val (.int vv), .val (.int (10 : Int32)), .val (.ref a_SYNC_GROUP), .val (.int (vv.toInt16.toInt32)), .val (.int (0 : Int32)), .val (.int (3 : Int32)), .val (.int (0 : Int32))] [(.int (if (vv.toInt16.toInt32) < (0 : Int32) then (0 : Int32) else if (3 : Int32) < (vv.toInt16.toInt32) then 0 else 1))]))
      refine Go.st (fun _ k' => XS.iload X115.here hx rfl (hb hby at_56) rfl k') ?_
      show Go p e below s _ _ _ (T115.setTop (mkF m 58 #[.val (.int kk), .val (.int vv), .val (.int (10 : Int32)), .val (.ref a_SYNC_GROUP), .val (.int (vv.toInt16.toInt32)), .val (.int (0 : Int32)), .val (.int (3 : Int32)), .val (.int (0 : Int32))] [(.int (0 : Int32)), (.int (if (vv.toInt16.toInt32) < (0 : Int32) then (0 : Int32) else if (3 : Int32) < (vv.toInt16.toInt32) then 0 else 1))]))
      by_cases hc116 : (if (vv.toInt16.toInt32) < (0 : Int32) then (0 : Int32) else if (3 : Int32) < (vv.toInt16.toInt32) then 0 else 1) = (0 : Int32)
      · refine Go.st (fun _ k' => XS.icmpNo X115.here hx rfl (hb hby at_58) rfl (XT.ii_ne_f hc116) k') ?_
        show Go p e below s _ _ _ (T115.setTop (mkF m 61 #[.val (.int kk), .val (.int vv), .val (.int (10 : Int32)), .val (.ref a_SYNC_GROUP), .val (.int (vv.toInt16.toInt32)), .val (.int (0 : Int32)), .val (.int (3 : Int32)), .val (.int (0 : Int32))] []))
        refine Go.st (fun _ k' => XS.iconst X115.here hx rfl (hb hby at_61) k') ?_
        show Go p e below s _ _ _ (T115.setTop (mkF m 62 #[.val (.int kk), .val (.int vv), .val (.int (10 : Int32)), .val (.ref a_SYNC_GROUP), .val (.int (vv.toInt16.toInt32)), .val (.int (0 : Int32)), .val (.int (3 : Int32)), .val (.int (0 : Int32))] [(.int (1 : Int32))]))
        refine Go.st (fun _ k' => XS.goto X115.here hx rfl (pc0 := 62) (pc' := 66) rfl (hb hby at_62) (by decide) (by decide) k') ?_
        show Go p e below s _ _ _ (T115.setTop (mkF m 66 #[.val (.int kk), .val (.int vv), .val (.int (10 : Int32)), .val (.ref a_SYNC_GROUP), .val (.int (vv.toInt16.toInt32)), .val (.int (0 : Int32)), .val (.int (3 : Int32)), .val (.int (0 : Int32))] [(.int (1 : Int32))]))
        refine Go.retB X115 hx hlk (t := .boolean) Bd.returns (by simp) (hb hby at_66) (by decide) (by decide) eq115 ?_
        exact ⟨rfl, N115, trivial⟩
      · refine Go.st (fun _ k' => XS.icmpYes X115.here hx rfl (pc0 := 58) (pc' := 65) rfl (hb hby at_58) rfl (XT.ii_ne_t hc116) (by decide) (by decide) k') ?_
        show Go p e below s _ _ _ (T115.setTop (mkF m 65 #[.val (.int kk), .val (.int vv), .val (.int (10 : Int32)), .val (.ref a_SYNC_GROUP), .val (.int (vv.toInt16.toInt32)), .val (.int (0 : Int32)), .val (.int (3 : Int32)), .val (.int (0 : Int32))] []))
        refine Go.st (fun _ k' => XS.iconst X115.here hx rfl (hb hby at_65) k') ?_
        show Go p e below s _ _ _ (T115.setTop (mkF m 66 #[.val (.int kk), .val (.int vv), .val (.int (10 : Int32)), .val (.ref a_SYNC_GROUP), .val (.int (vv.toInt16.toInt32)), .val (.int (0 : Int32)), .val (.int (3 : Int32)), .val (.int (0 : Int32))] [(.int (0 : Int32))]))
        refine Go.retB X115 hx hlk (t := .boolean) Bd.returns (by simp) (hb hby at_66) (by decide) (by decide) eq115 ?_
        exact absurd (by simp [hc114]) hc116
    · refine Go.st (fun _ k' => XS.icmpNo X113.here hx rfl (hb hby at_33) rfl (XT.ii_lt_f hc114) k') ?_
      show Go p e below s _ _ _ (T113.setTop (mkF m 36 #[.val (.int kk), .val (.int vv), .val (.int (10 : Int32)), .val (.ref a_SYNC_GROUP), .val (.int (vv.toInt16.toInt32)), .val (.int (0 : Int32)), .val (.int (3 : Int32)), .unset] []))
      refine Go.st (fun _ k' => XS.iload X113.here hx rfl (hb hby at_36) rfl k') ?_
      show Go p e below s _ _ _ (T113.setTop (mkF m 38 #[.val (.int kk), .val (.int vv), .val (.int (10 : Int32)), .val (.ref a_SYNC_GROUP), .val (.int (vv.toInt16.toInt32)), .val (.int (0 : Int32)), .val (.int (3 : Int32)), .unset] [(.int (vv.toInt16.toInt32))]))
      refine Go.st (fun _ k' => XS.iload X113.here hx rfl (hb hby at_38) rfl k') ?_
      show Go p e below s _ _ _ (T113.setTop (mkF m 40 #[.val (.int kk), .val (.int vv), .val (.int (10 : Int32)), .val (.ref a_SYNC_GROUP), .val (.int (vv.toInt16.toInt32)), .val (.int (0 : Int32)), .val (.int (3 : Int32)), .unset] [(.int (3 : Int32)), (.int (vv.toInt16.toInt32))]))
      by_cases hc117 : (3 : Int32) < (vv.toInt16.toInt32)
      · refine Go.st (fun _ k' => XS.icmpYes X113.here hx rfl (pc0 := 40) (pc' := 47) rfl (hb hby at_40) rfl (XT.ii_gt_t hc117) (by decide) (by decide) k') ?_
        show Go p e below s _ _ _ (T113.setTop (mkF m 47 #[.val (.int kk), .val (.int vv), .val (.int (10 : Int32)), .val (.ref a_SYNC_GROUP), .val (.int (vv.toInt16.toInt32)), .val (.int (0 : Int32)), .val (.int (3 : Int32)), .unset] []))
        refine Go.st (fun _ k' => XS.iconst X113.here hx rfl (hb hby at_47) k') ?_
        show Go p e below s _ _ _ (T113.setTop (mkF m 48 #[.val (.int kk), .val (.int vv), .val (.int (10 : Int32)), .val (.ref a_SYNC_GROUP), .val (.int (vv.toInt16.toInt32)), .val (.int (0 : Int32)), .val (.int (3 : Int32)), .unset] [(.int (0 : Int32))]))
        refine Go.st (fun _ k' => XS.istore X113.here hx rfl (hb hby at_48) rfl (l' := #[.val (.int kk), .val (.int vv), .val (.int (10 : Int32)), .val (.ref a_SYNC_GROUP), .val (.int (vv.toInt16.toInt32)), .val (.int (0 : Int32)), .val (.int (3 : Int32)), .val (.int (0 : Int32))]) rfl k') ?_
        show Go p e below s _ _ _ (T113.setTop (mkF m 50 #[.val (.int kk), .val (.int vv), .val (.int (10 : Int32)), .val (.ref a_SYNC_GROUP), .val (.int (vv.toInt16.toInt32)), .val (.int (0 : Int32)), .val (.int (3 : Int32)), .val (.int (0 : Int32))] []))
        refine Go.st (fun _ k' => XS.aloadN X113.here hx rfl (hb hby at_50) rfl rfl k') ?_
        show Go p e below s _ _ _ (T113.setTop (mkF m 51 #[.val (.int kk), .val (.int vv), .val (.int (10 : Int32)), .val (.ref a_SYNC_GROUP), .val (.int (vv.toInt16.toInt32)), .val (.int (0 : Int32)), .val (.int (3 : Int32)), .val (.int (0 : Int32))] [(.ref a_SYNC_GROUP)]))
        refine Go.st (fun _ k' => XS.iload X113.here hx rfl (hb hby at_51) rfl k') ?_
        show Go p e below s _ _ _ (T113.setTop (mkF m 53 #[.val (.int kk), .val (.int vv), .val (.int (10 : Int32)), .val (.ref a_SYNC_GROUP), .val (.int (vv.toInt16.toInt32)), .val (.int (0 : Int32)), .val (.int (3 : Int32)), .val (.int (0 : Int32))] [(.int (vv.toInt16.toInt32)), (.ref a_SYNC_GROUP)]))
        obtain ⟨cq118, kq118, q118a, q118b, q118c⟩ := isOf hZ eq113 E_SYNC_GROUP
        obtain ⟨_, _, ⟨T118, L118, k118, n118⟩, -, X118, ⟨Lc118, hQ118, l118, y118, z118⟩, st118⟩ := X113.virtualBack hx (y := (⟨"com/example/tenure_of_partitions/tenureofpartitions/ApiKey", "serves", "(S)Z"⟩ : MethodName)) (z := (⟨"com/example/tenure_of_partitions/tenureofpartitions/ApiKey", "serves", "(S)Z"⟩ : MethodName)) hown (mvT hZ (wdx hw 14 rfl)) (mvT hZ (wdx hw 15 rfl)) (notFace_of_selects (args := #[]) (mvT hZ (wdx hw 17 rfl))) (mvT hZ (wdx hw 17 rfl)) (mvT hZ (wdx hw 16 rfl)) (by decide) (backOf (W := 0) (rm4 l Z a0 hw [] a_SYNC_GROUP (vv.toInt16.toInt32) (0 : Int32) (3 : Int32) h0 n0 O0 F_SYNC_GROUP_minVersion F_SYNC_GROUP_maxVersion) hZ (wdx hw 18 rfl) (wdx hw 6 rfl) (by decide) (by decide)) q118a q118c (g := (mkF m 53 #[.val (.int kk), .val (.int vv), .val (.int (10 : Int32)), .val (.ref a_SYNC_GROUP), .val (.int (vv.toInt16.toInt32)), .val (.int (0 : Int32)), .val (.int (3 : Int32)), .val (.int (0 : Int32))] [(.int (vv.toInt16.toInt32)), (.ref a_SYNC_GROUP)])) rfl (by rw [hml]; rfl) (Steps.refl _) (argsL := [(.int (vv.toInt16.toInt32))]) (rest := []) (lenOf pd__S_Z rfl) rfl (by show 2 * 0 + _ ≤ _; exact Nat.le_of_eq rfl) (hb hby at_53) (fun _ _ => ⟨rfl, eq113, (by exact Nat.le_of_ble_eq_true rfl), (by exact Nat.le_of_ble_eq_true rfl)⟩)
        dsimp only [Pt.U, Pt.locs, Pt.cells, Pt.slots] at X118 l118 y118 z118 st118 hQ118
        subst l118 y118 z118
        obtain ⟨rfl, Nq118, eq118⟩ := hQ118
        have N118 := Fr.app N113 Nq118
        refine Go.tr st118 ?_
        show Go p e below s _ _ _ (T118.setTop (mkF m 56 #[.val (.int kk), .val (.int vv), .val (.int (10 : Int32)), .val (.ref a_SYNC_GROUP), .val (.int (vv.toInt16.toInt32)), .val (.int (0 : Int32)), .val (.int (3 : Int32)), .val (.int (0 : Int32))] [(.int (if (vv.toInt16.toInt32) < (0 : Int32) then (0 : Int32) else if (3 : Int32) < (vv.toInt16.toInt32) then 0 else 1))]))
        refine Go.st (fun _ k' => XS.iload X118.here hx rfl (hb hby at_56) rfl k') ?_
        show Go p e below s _ _ _ (T118.setTop (mkF m 58 #[.val (.int kk), .val (.int vv), .val (.int (10 : Int32)), .val (.ref a_SYNC_GROUP), .val (.int (vv.toInt16.toInt32)), .val (.int (0 : Int32)), .val (.int (3 : Int32)), .val (.int (0 : Int32))] [(.int (0 : Int32)), (.int (if (vv.toInt16.toInt32) < (0 : Int32) then (0 : Int32) else if (3 : Int32) < (vv.toInt16.toInt32) then 0 else 1))]))
        by_cases hc119 : (if (vv.toInt16.toInt32) < (0 : Int32) then (0 : Int32) else if (3 : Int32) < (vv.toInt16.toInt32) then 0 else 1) = (0 : Int32)
        · refine Go.st (fun _ k' => XS.icmpNo X118.here hx rfl (hb hby at_58) rfl (XT.ii_ne_f hc119) k') ?_
          show Go p e below s _ _ _ (T118.setTop (mkF m 61 #[.val (.int kk), .val (.int vv), .val (.int (10 : Int32)), .val (.ref a_SYNC_GROUP), .val (.int (vv.toInt16.toInt32)), .val (.int (0 : Int32)), .val (.int (3 : Int32)), .val (.int (0 : Int32))] []))
          refine Go.st (fun _ k' => XS.iconst X118.here hx rfl (hb hby at_61) k') ?_
          show Go p e below s _ _ _ (T118.setTop (mkF m 62 #[.val (.int kk), .val (.int vv), .val (.int (10 : Int32)), .val (.ref a_SYNC_GROUP), .val (.int (vv.toInt16.toInt32)), .val (.int (0 : Int32)), .val (.int (3 : Int32)), .val (.int (0 : Int32))] [(.int (1 : Int32))]))
          refine Go.st (fun _ k' => XS.goto X118.here hx rfl (pc0 := 62) (pc' := 66) rfl (hb hby at_62) (by decide) (by decide) k') ?_
          show Go p e below s _ _ _ (T118.setTop (mkF m 66 #[.val (.int kk), .val (.int vv), .val (.int (10 : Int32)), .val (.ref a_SYNC_GROUP), .val (.int (vv.toInt16.toInt32)), .val (.int (0 : Int32)), .val (.int (3 : Int32)), .val (.int (0 : Int32))] [(.int (1 : Int32))]))
          refine Go.retB X118 hx hlk (t := .boolean) Bd.returns (by simp) (hb hby at_66) (by decide) (by decide) eq118 ?_
          exact ⟨rfl, N118, trivial⟩
        · refine Go.st (fun _ k' => XS.icmpYes X118.here hx rfl (pc0 := 58) (pc' := 65) rfl (hb hby at_58) rfl (XT.ii_ne_t hc119) (by decide) (by decide) k') ?_
          show Go p e below s _ _ _ (T118.setTop (mkF m 65 #[.val (.int kk), .val (.int vv), .val (.int (10 : Int32)), .val (.ref a_SYNC_GROUP), .val (.int (vv.toInt16.toInt32)), .val (.int (0 : Int32)), .val (.int (3 : Int32)), .val (.int (0 : Int32))] []))
          refine Go.st (fun _ k' => XS.iconst X118.here hx rfl (hb hby at_65) k') ?_
          show Go p e below s _ _ _ (T118.setTop (mkF m 66 #[.val (.int kk), .val (.int vv), .val (.int (10 : Int32)), .val (.ref a_SYNC_GROUP), .val (.int (vv.toInt16.toInt32)), .val (.int (0 : Int32)), .val (.int (3 : Int32)), .val (.int (0 : Int32))] [(.int (0 : Int32))]))
          refine Go.retB X118 hx hlk (t := .boolean) Bd.returns (by simp) (hb hby at_66) (by decide) (by decide) eq118 ?_
          exact absurd (by simp [hc114, hc117]) hc119
      · refine Go.st (fun _ k' => XS.icmpNo X113.here hx rfl (hb hby at_40) rfl (XT.ii_gt_f hc117) k') ?_
        show Go p e below s _ _ _ (T113.setTop (mkF m 43 #[.val (.int kk), .val (.int vv), .val (.int (10 : Int32)), .val (.ref a_SYNC_GROUP), .val (.int (vv.toInt16.toInt32)), .val (.int (0 : Int32)), .val (.int (3 : Int32)), .unset] []))
        refine Go.st (fun _ k' => XS.iconst X113.here hx rfl (hb hby at_43) k') ?_
        show Go p e below s _ _ _ (T113.setTop (mkF m 44 #[.val (.int kk), .val (.int vv), .val (.int (10 : Int32)), .val (.ref a_SYNC_GROUP), .val (.int (vv.toInt16.toInt32)), .val (.int (0 : Int32)), .val (.int (3 : Int32)), .unset] [(.int (1 : Int32))]))
        refine Go.st (fun _ k' => XS.goto X113.here hx rfl (pc0 := 44) (pc' := 48) rfl (hb hby at_44) (by decide) (by decide) k') ?_
        show Go p e below s _ _ _ (T113.setTop (mkF m 48 #[.val (.int kk), .val (.int vv), .val (.int (10 : Int32)), .val (.ref a_SYNC_GROUP), .val (.int (vv.toInt16.toInt32)), .val (.int (0 : Int32)), .val (.int (3 : Int32)), .unset] [(.int (1 : Int32))]))
        refine Go.st (fun _ k' => XS.istore X113.here hx rfl (hb hby at_48) rfl (l' := #[.val (.int kk), .val (.int vv), .val (.int (10 : Int32)), .val (.ref a_SYNC_GROUP), .val (.int (vv.toInt16.toInt32)), .val (.int (0 : Int32)), .val (.int (3 : Int32)), .val (.int (1 : Int32))]) rfl k') ?_
        show Go p e below s _ _ _ (T113.setTop (mkF m 50 #[.val (.int kk), .val (.int vv), .val (.int (10 : Int32)), .val (.ref a_SYNC_GROUP), .val (.int (vv.toInt16.toInt32)), .val (.int (0 : Int32)), .val (.int (3 : Int32)), .val (.int (1 : Int32))] []))
        refine Go.st (fun _ k' => XS.aloadN X113.here hx rfl (hb hby at_50) rfl rfl k') ?_
        show Go p e below s _ _ _ (T113.setTop (mkF m 51 #[.val (.int kk), .val (.int vv), .val (.int (10 : Int32)), .val (.ref a_SYNC_GROUP), .val (.int (vv.toInt16.toInt32)), .val (.int (0 : Int32)), .val (.int (3 : Int32)), .val (.int (1 : Int32))] [(.ref a_SYNC_GROUP)]))
        refine Go.st (fun _ k' => XS.iload X113.here hx rfl (hb hby at_51) rfl k') ?_
        show Go p e below s _ _ _ (T113.setTop (mkF m 53 #[.val (.int kk), .val (.int vv), .val (.int (10 : Int32)), .val (.ref a_SYNC_GROUP), .val (.int (vv.toInt16.toInt32)), .val (.int (0 : Int32)), .val (.int (3 : Int32)), .val (.int (1 : Int32))] [(.int (vv.toInt16.toInt32)), (.ref a_SYNC_GROUP)]))
        obtain ⟨cq120, kq120, q120a, q120b, q120c⟩ := isOf hZ eq113 E_SYNC_GROUP
        obtain ⟨_, _, ⟨T120, L120, k120, n120⟩, -, X120, ⟨Lc120, hQ120, l120, y120, z120⟩, st120⟩ := X113.virtualBack hx (y := (⟨"com/example/tenure_of_partitions/tenureofpartitions/ApiKey", "serves", "(S)Z"⟩ : MethodName)) (z := (⟨"com/example/tenure_of_partitions/tenureofpartitions/ApiKey", "serves", "(S)Z"⟩ : MethodName)) hown (mvT hZ (wdx hw 14 rfl)) (mvT hZ (wdx hw 15 rfl)) (notFace_of_selects (args := #[]) (mvT hZ (wdx hw 17 rfl))) (mvT hZ (wdx hw 17 rfl)) (mvT hZ (wdx hw 16 rfl)) (by decide) (backOf (W := 0) (rm4 l Z a0 hw [] a_SYNC_GROUP (vv.toInt16.toInt32) (0 : Int32) (3 : Int32) h0 n0 O0 F_SYNC_GROUP_minVersion F_SYNC_GROUP_maxVersion) hZ (wdx hw 18 rfl) (wdx hw 6 rfl) (by decide) (by decide)) q120a q120c (g := (mkF m 53 #[.val (.int kk), .val (.int vv), .val (.int (10 : Int32)), .val (.ref a_SYNC_GROUP), .val (.int (vv.toInt16.toInt32)), .val (.int (0 : Int32)), .val (.int (3 : Int32)), .val (.int (1 : Int32))] [(.int (vv.toInt16.toInt32)), (.ref a_SYNC_GROUP)])) rfl (by rw [hml]; rfl) (Steps.refl _) (argsL := [(.int (vv.toInt16.toInt32))]) (rest := []) (lenOf pd__S_Z rfl) rfl (by show 2 * 0 + _ ≤ _; exact Nat.le_of_eq rfl) (hb hby at_53) (fun _ _ => ⟨rfl, eq113, (by exact Nat.le_of_ble_eq_true rfl), (by exact Nat.le_of_ble_eq_true rfl)⟩)
        dsimp only [Pt.U, Pt.locs, Pt.cells, Pt.slots] at X120 l120 y120 z120 st120 hQ120
        subst l120 y120 z120
        obtain ⟨rfl, Nq120, eq120⟩ := hQ120
        have N120 := Fr.app N113 Nq120
        refine Go.tr st120 ?_
        show Go p e below s _ _ _ (T120.setTop (mkF m 56 #[.val (.int kk), .val (.int vv), .val (.int (10 : Int32)), .val (.ref a_SYNC_GROUP), .val (.int (vv.toInt16.toInt32)), .val (.int (0 : Int32)), .val (.int (3 : Int32)), .val (.int (1 : Int32))] [(.int (if (vv.toInt16.toInt32) < (0 : Int32) then (0 : Int32) else if (3 : Int32) < (vv.toInt16.toInt32) then 0 else 1))]))
        refine Go.st (fun _ k' => XS.iload X120.here hx rfl (hb hby at_56) rfl k') ?_
        show Go p e below s _ _ _ (T120.setTop (mkF m 58 #[.val (.int kk), .val (.int vv), .val (.int (10 : Int32)), .val (.ref a_SYNC_GROUP), .val (.int (vv.toInt16.toInt32)), .val (.int (0 : Int32)), .val (.int (3 : Int32)), .val (.int (1 : Int32))] [(.int (1 : Int32)), (.int (if (vv.toInt16.toInt32) < (0 : Int32) then (0 : Int32) else if (3 : Int32) < (vv.toInt16.toInt32) then 0 else 1))]))
        by_cases hc121 : (if (vv.toInt16.toInt32) < (0 : Int32) then (0 : Int32) else if (3 : Int32) < (vv.toInt16.toInt32) then 0 else 1) = (1 : Int32)
        · refine Go.st (fun _ k' => XS.icmpNo X120.here hx rfl (hb hby at_58) rfl (XT.ii_ne_f hc121) k') ?_
          show Go p e below s _ _ _ (T120.setTop (mkF m 61 #[.val (.int kk), .val (.int vv), .val (.int (10 : Int32)), .val (.ref a_SYNC_GROUP), .val (.int (vv.toInt16.toInt32)), .val (.int (0 : Int32)), .val (.int (3 : Int32)), .val (.int (1 : Int32))] []))
          refine Go.st (fun _ k' => XS.iconst X120.here hx rfl (hb hby at_61) k') ?_
          show Go p e below s _ _ _ (T120.setTop (mkF m 62 #[.val (.int kk), .val (.int vv), .val (.int (10 : Int32)), .val (.ref a_SYNC_GROUP), .val (.int (vv.toInt16.toInt32)), .val (.int (0 : Int32)), .val (.int (3 : Int32)), .val (.int (1 : Int32))] [(.int (1 : Int32))]))
          refine Go.st (fun _ k' => XS.goto X120.here hx rfl (pc0 := 62) (pc' := 66) rfl (hb hby at_62) (by decide) (by decide) k') ?_
          show Go p e below s _ _ _ (T120.setTop (mkF m 66 #[.val (.int kk), .val (.int vv), .val (.int (10 : Int32)), .val (.ref a_SYNC_GROUP), .val (.int (vv.toInt16.toInt32)), .val (.int (0 : Int32)), .val (.int (3 : Int32)), .val (.int (1 : Int32))] [(.int (1 : Int32))]))
          refine Go.retB X120 hx hlk (t := .boolean) Bd.returns (by simp) (hb hby at_66) (by decide) (by decide) eq120 ?_
          exact ⟨rfl, N120, trivial⟩
        · refine Go.st (fun _ k' => XS.icmpYes X120.here hx rfl (pc0 := 58) (pc' := 65) rfl (hb hby at_58) rfl (XT.ii_ne_t hc121) (by decide) (by decide) k') ?_
          show Go p e below s _ _ _ (T120.setTop (mkF m 65 #[.val (.int kk), .val (.int vv), .val (.int (10 : Int32)), .val (.ref a_SYNC_GROUP), .val (.int (vv.toInt16.toInt32)), .val (.int (0 : Int32)), .val (.int (3 : Int32)), .val (.int (1 : Int32))] []))
          refine Go.st (fun _ k' => XS.iconst X120.here hx rfl (hb hby at_65) k') ?_
          show Go p e below s _ _ _ (T120.setTop (mkF m 66 #[.val (.int kk), .val (.int vv), .val (.int (10 : Int32)), .val (.ref a_SYNC_GROUP), .val (.int (vv.toInt16.toInt32)), .val (.int (0 : Int32)), .val (.int (3 : Int32)), .val (.int (1 : Int32))] [(.int (0 : Int32))]))
          refine Go.retB X120 hx hlk (t := .boolean) Bd.returns (by simp) (hb hby at_66) (by decide) (by decide) eq120 ?_
          exact absurd (by simp [hc114, hc117]) hc121
  · rw [hi]
    show Go p e below s _ _ _ (s₁.setTop (mkF m 8 #[.val (.int kk), .val (.int vv), .val (.int (11 : Int32)), .unset, .unset, .unset, .unset, .unset] []))
    refine Go.st (fun _ k' => XS.iloadN X0.here hx rfl (hb hby at_8) rfl k') ?_
    show Go p e below s _ _ _ (s₁.setTop (mkF m 9 #[.val (.int kk), .val (.int vv), .val (.int (11 : Int32)), .unset, .unset, .unset, .unset, .unset] [(.int (11 : Int32))]))
    obtain ⟨_, _, ⟨T122, L122, k122, n122⟩, -, X122, ⟨Lc122, hQ122, l122, y122, z122⟩, st122⟩ := Jvm.LawKit.callS X0 hx (y := (⟨"com/example/tenure_of_partitions/tenureofpartitions/ApiKeyServesPinLaw", "pick", "(I)Lcom/example/tenure_of_partitions/tenureofpartitions/ApiKey;"⟩ : MethodName)) hown (mvT hZ (wdx hw 1 rfl)) (mvT hZ (wdx hw 2 rfl)) (mvT hZ (wdx hw 3 rfl)) (mvT hZ (wdx hw 4 rfl)) (by decide) (backOf (W := 0) (rm1 l Z a0 hw [] (11 : Int32) a_PRODUCE a_FETCH a_LIST_OFFSETS a_METADATA a_OFFSET_COMMIT a_OFFSET_FETCH a_FIND_COORDINATOR a_JOIN_GROUP a_HEARTBEAT a_LEAVE_GROUP a_SYNC_GROUP a_DESCRIBE_GROUPS a_LIST_GROUPS a_API_VERSIONS h0 n0 O0 S_PRODUCE S_FETCH S_LIST_OFFSETS S_METADATA S_OFFSET_COMMIT S_OFFSET_FETCH S_FIND_COORDINATOR S_JOIN_GROUP S_HEARTBEAT S_LEAVE_GROUP S_SYNC_GROUP S_DESCRIBE_GROUPS S_LIST_GROUPS S_API_VERSIONS) hZ (wdx hw 4 rfl) (wdx hw 3 rfl) (by decide) (by decide)) (g := (mkF m 9 #[.val (.int kk), .val (.int vv), .val (.int (11 : Int32)), .unset, .unset, .unset, .unset, .unset] [(.int (11 : Int32))])) rfl (by rw [hml]; rfl) (argsL := [(.int (11 : Int32))]) (rest := []) (lenOf pd__I_Lcom_example_tenure_of_partitions_tenureofpartitions_ApiKey_ rfl) rfl (by show 2 * 0 + _ ≤ _; exact Nat.le_of_eq rfl) (hb hby at_9) (fun _ _ => ⟨rfl, e0, (by exact Nat.le_of_ble_eq_true rfl), (by exact Nat.le_of_ble_eq_true rfl)⟩)
    dsimp only [Pt.U, Pt.locs, Pt.cells, Pt.slots] at X122 l122 y122 z122 st122 hQ122
    subst l122 y122 z122
    obtain ⟨rfl, Nq122, eq122⟩ := hQ122
    have N122 := Fr.app N0 Nq122
    refine Go.st st122 ?_
    show Go p e below s _ _ _ (T122.setTop (mkF m 12 #[.val (.int kk), .val (.int vv), .val (.int (11 : Int32)), .unset, .unset, .unset, .unset, .unset] [(.ref (fpick (11 : Int32) a_PRODUCE a_FETCH a_LIST_OFFSETS a_METADATA a_OFFSET_COMMIT a_OFFSET_FETCH a_FIND_COORDINATOR a_JOIN_GROUP a_HEARTBEAT a_LEAVE_GROUP a_SYNC_GROUP a_DESCRIBE_GROUPS a_LIST_GROUPS a_API_VERSIONS))]))
    show Go p e below s _ _ _ (T122.setTop (mkF m 12 #[.val (.int kk), .val (.int vv), .val (.int (11 : Int32)), .unset, .unset, .unset, .unset, .unset] [(.ref a_DESCRIBE_GROUPS)]))
    refine Go.st (fun _ k' => XS.astoreN X122.here hx rfl (hb hby at_12) rfl rfl (l' := #[.val (.int kk), .val (.int vv), .val (.int (11 : Int32)), .val (.ref a_DESCRIBE_GROUPS), .unset, .unset, .unset, .unset]) rfl k') ?_
    show Go p e below s _ _ _ (T122.setTop (mkF m 13 #[.val (.int kk), .val (.int vv), .val (.int (11 : Int32)), .val (.ref a_DESCRIBE_GROUPS), .unset, .unset, .unset, .unset] []))
    refine Go.st (fun _ k' => XS.iloadN X122.here hx rfl (hb hby at_13) rfl k') ?_
    show Go p e below s _ _ _ (T122.setTop (mkF m 14 #[.val (.int kk), .val (.int vv), .val (.int (11 : Int32)), .val (.ref a_DESCRIBE_GROUPS), .unset, .unset, .unset, .unset] [(.int vv)]))
    refine Go.st (fun _ k' => XS.i2s X122.here hx rfl (hb hby at_14) rfl k') ?_
    show Go p e below s _ _ _ (T122.setTop (mkF m 15 #[.val (.int kk), .val (.int vv), .val (.int (11 : Int32)), .val (.ref a_DESCRIBE_GROUPS), .unset, .unset, .unset, .unset] [(.int (vv.toInt16.toInt32))]))
    refine Go.st (fun _ k' => XS.istore X122.here hx rfl (hb hby at_15) rfl (l' := #[.val (.int kk), .val (.int vv), .val (.int (11 : Int32)), .val (.ref a_DESCRIBE_GROUPS), .val (.int (vv.toInt16.toInt32)), .unset, .unset, .unset]) rfl k') ?_
    show Go p e below s _ _ _ (T122.setTop (mkF m 17 #[.val (.int kk), .val (.int vv), .val (.int (11 : Int32)), .val (.ref a_DESCRIBE_GROUPS), .val (.int (vv.toInt16.toInt32)), .unset, .unset, .unset] []))
    refine Go.st (fun _ k' => XS.iloadN X122.here hx rfl (hb hby at_17) rfl k') ?_
    show Go p e below s _ _ _ (T122.setTop (mkF m 18 #[.val (.int kk), .val (.int vv), .val (.int (11 : Int32)), .val (.ref a_DESCRIBE_GROUPS), .val (.int (vv.toInt16.toInt32)), .unset, .unset, .unset] [(.int (11 : Int32))]))
    obtain ⟨_, _, ⟨T123, L123, k123, n123⟩, -, X123, ⟨Lc123, hQ123, l123, y123, z123⟩, st123⟩ := Jvm.LawKit.callS X122 hx (y := (⟨"com/example/tenure_of_partitions/tenureofpartitions/ApiKeyServesPinLaw", "lo", "(I)I"⟩ : MethodName)) hown (mvT hZ (wdx hw 8 rfl)) (mvT hZ (wdx hw 9 rfl)) (mvT hZ (wdx hw 3 rfl)) (mvT hZ (wdx hw 10 rfl)) (by decide) (backOf (W := 0) (rm2 l Z a0 hw [] (11 : Int32) h0 n0 O0 ) hZ (wdx hw 10 rfl) (wdx hw 3 rfl) (by decide) (by decide)) (g := (mkF m 18 #[.val (.int kk), .val (.int vv), .val (.int (11 : Int32)), .val (.ref a_DESCRIBE_GROUPS), .val (.int (vv.toInt16.toInt32)), .unset, .unset, .unset] [(.int (11 : Int32))])) rfl (by rw [hml]; rfl) (argsL := [(.int (11 : Int32))]) (rest := []) (lenOf pd__I_I rfl) rfl (by show 2 * 0 + _ ≤ _; exact Nat.le_of_eq rfl) (hb hby at_18) (fun _ _ => ⟨rfl, eq122, (by exact Nat.le_of_ble_eq_true rfl), (by exact Nat.le_of_ble_eq_true rfl)⟩)
    dsimp only [Pt.U, Pt.locs, Pt.cells, Pt.slots] at X123 l123 y123 z123 st123 hQ123
    subst l123 y123 z123
    obtain ⟨rfl, Nq123, eq123⟩ := hQ123
    have N123 := Fr.app N122 Nq123
    refine Go.st st123 ?_
    show Go p e below s _ _ _ (T123.setTop (mkF m 21 #[.val (.int kk), .val (.int vv), .val (.int (11 : Int32)), .val (.ref a_DESCRIBE_GROUPS), .val (.int (vv.toInt16.toInt32)), .unset, .unset, .unset] [(.int (flo (11 : Int32)))]))
    show Go p e below s _ _ _ (T123.setTop (mkF m 21 #[.val (.int kk), .val (.int vv), .val (.int (11 : Int32)), .val (.ref a_DESCRIBE_GROUPS), .val (.int (vv.toInt16.toInt32)), .unset, .unset, .unset] [(.int (0 : Int32))]))
    refine Go.st (fun _ k' => XS.istore X123.here hx rfl (hb hby at_21) rfl (l' := #[.val (.int kk), .val (.int vv), .val (.int (11 : Int32)), .val (.ref a_DESCRIBE_GROUPS), .val (.int (vv.toInt16.toInt32)), .val (.int (0 : Int32)), .unset, .unset]) rfl k') ?_
    show Go p e below s _ _ _ (T123.setTop (mkF m 23 #[.val (.int kk), .val (.int vv), .val (.int (11 : Int32)), .val (.ref a_DESCRIBE_GROUPS), .val (.int (vv.toInt16.toInt32)), .val (.int (0 : Int32)), .unset, .unset] []))
    refine Go.st (fun _ k' => XS.iloadN X123.here hx rfl (hb hby at_23) rfl k') ?_
    show Go p e below s _ _ _ (T123.setTop (mkF m 24 #[.val (.int kk), .val (.int vv), .val (.int (11 : Int32)), .val (.ref a_DESCRIBE_GROUPS), .val (.int (vv.toInt16.toInt32)), .val (.int (0 : Int32)), .unset, .unset] [(.int (11 : Int32))]))
    obtain ⟨_, _, ⟨T124, L124, k124, n124⟩, -, X124, ⟨Lc124, hQ124, l124, y124, z124⟩, st124⟩ := Jvm.LawKit.callS X123 hx (y := (⟨"com/example/tenure_of_partitions/tenureofpartitions/ApiKeyServesPinLaw", "hi", "(I)I"⟩ : MethodName)) hown (mvT hZ (wdx hw 11 rfl)) (mvT hZ (wdx hw 12 rfl)) (mvT hZ (wdx hw 3 rfl)) (mvT hZ (wdx hw 13 rfl)) (by decide) (backOf (W := 0) (rm3 l Z a0 hw [] (11 : Int32) h0 n0 O0 ) hZ (wdx hw 13 rfl) (wdx hw 3 rfl) (by decide) (by decide)) (g := (mkF m 24 #[.val (.int kk), .val (.int vv), .val (.int (11 : Int32)), .val (.ref a_DESCRIBE_GROUPS), .val (.int (vv.toInt16.toInt32)), .val (.int (0 : Int32)), .unset, .unset] [(.int (11 : Int32))])) rfl (by rw [hml]; rfl) (argsL := [(.int (11 : Int32))]) (rest := []) (lenOf pd__I_I rfl) rfl (by show 2 * 0 + _ ≤ _; exact Nat.le_of_eq rfl) (hb hby at_24) (fun _ _ => ⟨rfl, eq123, (by exact Nat.le_of_ble_eq_true rfl), (by exact Nat.le_of_ble_eq_true rfl)⟩)
    dsimp only [Pt.U, Pt.locs, Pt.cells, Pt.slots] at X124 l124 y124 z124 st124 hQ124
    subst l124 y124 z124
    obtain ⟨rfl, Nq124, eq124⟩ := hQ124
    have N124 := Fr.app N123 Nq124
    refine Go.st st124 ?_
    show Go p e below s _ _ _ (T124.setTop (mkF m 27 #[.val (.int kk), .val (.int vv), .val (.int (11 : Int32)), .val (.ref a_DESCRIBE_GROUPS), .val (.int (vv.toInt16.toInt32)), .val (.int (0 : Int32)), .unset, .unset] [(.int (fhi (11 : Int32)))]))
    show Go p e below s _ _ _ (T124.setTop (mkF m 27 #[.val (.int kk), .val (.int vv), .val (.int (11 : Int32)), .val (.ref a_DESCRIBE_GROUPS), .val (.int (vv.toInt16.toInt32)), .val (.int (0 : Int32)), .unset, .unset] [(.int (4 : Int32))]))
    refine Go.st (fun _ k' => XS.istore X124.here hx rfl (hb hby at_27) rfl (l' := #[.val (.int kk), .val (.int vv), .val (.int (11 : Int32)), .val (.ref a_DESCRIBE_GROUPS), .val (.int (vv.toInt16.toInt32)), .val (.int (0 : Int32)), .val (.int (4 : Int32)), .unset]) rfl k') ?_
    show Go p e below s _ _ _ (T124.setTop (mkF m 29 #[.val (.int kk), .val (.int vv), .val (.int (11 : Int32)), .val (.ref a_DESCRIBE_GROUPS), .val (.int (vv.toInt16.toInt32)), .val (.int (0 : Int32)), .val (.int (4 : Int32)), .unset] []))
    refine Go.st (fun _ k' => XS.iload X124.here hx rfl (hb hby at_29) rfl k') ?_
    show Go p e below s _ _ _ (T124.setTop (mkF m 31 #[.val (.int kk), .val (.int vv), .val (.int (11 : Int32)), .val (.ref a_DESCRIBE_GROUPS), .val (.int (vv.toInt16.toInt32)), .val (.int (0 : Int32)), .val (.int (4 : Int32)), .unset] [(.int (vv.toInt16.toInt32))]))
    refine Go.st (fun _ k' => XS.iload X124.here hx rfl (hb hby at_31) rfl k') ?_
    show Go p e below s _ _ _ (T124.setTop (mkF m 33 #[.val (.int kk), .val (.int vv), .val (.int (11 : Int32)), .val (.ref a_DESCRIBE_GROUPS), .val (.int (vv.toInt16.toInt32)), .val (.int (0 : Int32)), .val (.int (4 : Int32)), .unset] [(.int (0 : Int32)), (.int (vv.toInt16.toInt32))]))
    by_cases hc125 : (vv.toInt16.toInt32) < (0 : Int32)
    · refine Go.st (fun _ k' => XS.icmpYes X124.here hx rfl (pc0 := 33) (pc' := 47) rfl (hb hby at_33) rfl (XT.ii_lt_t hc125) (by decide) (by decide) k') ?_
      show Go p e below s _ _ _ (T124.setTop (mkF m 47 #[.val (.int kk), .val (.int vv), .val (.int (11 : Int32)), .val (.ref a_DESCRIBE_GROUPS), .val (.int (vv.toInt16.toInt32)), .val (.int (0 : Int32)), .val (.int (4 : Int32)), .unset] []))
      refine Go.st (fun _ k' => XS.iconst X124.here hx rfl (hb hby at_47) k') ?_
      show Go p e below s _ _ _ (T124.setTop (mkF m 48 #[.val (.int kk), .val (.int vv), .val (.int (11 : Int32)), .val (.ref a_DESCRIBE_GROUPS), .val (.int (vv.toInt16.toInt32)), .val (.int (0 : Int32)), .val (.int (4 : Int32)), .unset] [(.int (0 : Int32))]))
      refine Go.st (fun _ k' => XS.istore X124.here hx rfl (hb hby at_48) rfl (l' := #[.val (.int kk), .val (.int vv), .val (.int (11 : Int32)), .val (.ref a_DESCRIBE_GROUPS), .val (.int (vv.toInt16.toInt32)), .val (.int (0 : Int32)), .val (.int (4 : Int32)), .val (.int (0 : Int32))]) rfl k') ?_
      show Go p e below s _ _ _ (T124.setTop (mkF m 50 #[.val (.int kk), .val (.int vv), .val (.int (11 : Int32)), .val (.ref a_DESCRIBE_GROUPS), .val (.int (vv.toInt16.toInt32)), .val (.int (0 : Int32)), .val (.int (4 : Int32)), .val (.int (0 : Int32))] []))
      refine Go.st (fun _ k' => XS.aloadN X124.here hx rfl (hb hby at_50) rfl rfl k') ?_
      show Go p e below s _ _ _ (T124.setTop (mkF m 51 #[.val (.int kk), .val (.int vv), .val (.int (11 : Int32)), .val (.ref a_DESCRIBE_GROUPS), .val (.int (vv.toInt16.toInt32)), .val (.int (0 : Int32)), .val (.int (4 : Int32)), .val (.int (0 : Int32))] [(.ref a_DESCRIBE_GROUPS)]))
      refine Go.st (fun _ k' => XS.iload X124.here hx rfl (hb hby at_51) rfl k') ?_
      show Go p e below s _ _ _ (T124.setTop (mkF m 53 #[.val (.int kk), .val (.int vv), .val (.int (11 : Int32)), .val (.ref a_DESCRIBE_GROUPS), .val (.int (vv.toInt16.toInt32)), .val (.int (0 : Int32)), .val (.int (4 : Int32)), .val (.int (0 : Int32))] [(.int (vv.toInt16.toInt32)), (.ref a_DESCRIBE_GROUPS)]))
      obtain ⟨cq126, kq126, q126a, q126b, q126c⟩ := isOf hZ eq124 E_DESCRIBE_GROUPS
      obtain ⟨_, _, ⟨T126, L126, k126, n126⟩, -, X126, ⟨Lc126, hQ126, l126, y126, z126⟩, st126⟩ := X124.virtualBack hx (y := (⟨"com/example/tenure_of_partitions/tenureofpartitions/ApiKey", "serves", "(S)Z"⟩ : MethodName)) (z := (⟨"com/example/tenure_of_partitions/tenureofpartitions/ApiKey", "serves", "(S)Z"⟩ : MethodName)) hown (mvT hZ (wdx hw 14 rfl)) (mvT hZ (wdx hw 15 rfl)) (notFace_of_selects (args := #[]) (mvT hZ (wdx hw 17 rfl))) (mvT hZ (wdx hw 17 rfl)) (mvT hZ (wdx hw 16 rfl)) (by decide) (backOf (W := 0) (rm4 l Z a0 hw [] a_DESCRIBE_GROUPS (vv.toInt16.toInt32) (0 : Int32) (4 : Int32) h0 n0 O0 F_DESCRIBE_GROUPS_minVersion F_DESCRIBE_GROUPS_maxVersion) hZ (wdx hw 18 rfl) (wdx hw 6 rfl) (by decide) (by decide)) q126a q126c (g := (mkF m 53 #[.val (.int kk), .val (.int vv), .val (.int (11 : Int32)), .val (.ref a_DESCRIBE_GROUPS), .val (.int (vv.toInt16.toInt32)), .val (.int (0 : Int32)), .val (.int (4 : Int32)), .val (.int (0 : Int32))] [(.int (vv.toInt16.toInt32)), (.ref a_DESCRIBE_GROUPS)])) rfl (by rw [hml]; rfl) (Steps.refl _) (argsL := [(.int (vv.toInt16.toInt32))]) (rest := []) (lenOf pd__S_Z rfl) rfl (by show 2 * 0 + _ ≤ _; exact Nat.le_of_eq rfl) (hb hby at_53) (fun _ _ => ⟨rfl, eq124, (by exact Nat.le_of_ble_eq_true rfl), (by exact Nat.le_of_ble_eq_true rfl)⟩)
      dsimp only [Pt.U, Pt.locs, Pt.cells, Pt.slots] at X126 l126 y126 z126 st126 hQ126
      subst l126 y126 z126
      obtain ⟨rfl, Nq126, eq126⟩ := hQ126
      have N126 := Fr.app N124 Nq126
      refine Go.tr st126 ?_
      show Go p e below s _ _ _ (T126.setTop (mkF m 56 #[.val (.int kk), .val (.int vv), .val (.int (11 : Int32)), .val (.ref a_DESCRIBE_GROUPS), .val (.int (vv.toInt16.toInt32)), .val (.int (0 : Int32)), .val (.int (4 : Int32)), .val (.int (0 : Int32))] [(.int (if (vv.toInt16.toInt32) < (0 : Int32) then (0 : Int32) else if (4 : Int32) < (vv.toInt16.toInt32) then 0 else 1))]))
      refine Go.st (fun _ k' => XS.iload X126.here hx rfl (hb hby at_56) rfl k') ?_
      show Go p e below s _ _ _ (T126.setTop (mkF m 58 #[.val (.int kk), .val (.int vv), .val (.int (11 : Int32)), .val (.ref a_DESCRIBE_GROUPS), .val (.int (vv.toInt16.toInt32)), .val (.int (0 : Int32)), .val (.int (4 : Int32)), .val (.int (0 : Int32))] [(.int (0 : Int32)), (.int (if (vv.toInt16.toInt32) < (0 : Int32) then (0 : Int32) else if (4 : Int32) < (vv.toInt16.toInt32) then 0 else 1))]))
      by_cases hc127 : (if (vv.toInt16.toInt32) < (0 : Int32) then (0 : Int32) else if (4 : Int32) < (vv.toInt16.toInt32) then 0 else 1) = (0 : Int32)
      · refine Go.st (fun _ k' => XS.icmpNo X126.here hx rfl (hb hby at_58) rfl (XT.ii_ne_f hc127) k') ?_
        show Go p e below s _ _ _ (T126.setTop (mkF m 61 #[.val (.int kk), .val (.int vv), .val (.int (11 : Int32)), .val (.ref a_DESCRIBE_GROUPS), .val (.int (vv.toInt16.toInt32)), .val (.int (0 : Int32)), .val (.int (4 : Int32)), .val (.int (0 : Int32))] []))
        refine Go.st (fun _ k' => XS.iconst X126.here hx rfl (hb hby at_61) k') ?_
        show Go p e below s _ _ _ (T126.setTop (mkF m 62 #[.val (.int kk), .val (.int vv), .val (.int (11 : Int32)), .val (.ref a_DESCRIBE_GROUPS), .val (.int (vv.toInt16.toInt32)), .val (.int (0 : Int32)), .val (.int (4 : Int32)), .val (.int (0 : Int32))] [(.int (1 : Int32))]))
        refine Go.st (fun _ k' => XS.goto X126.here hx rfl (pc0 := 62) (pc' := 66) rfl (hb hby at_62) (by decide) (by decide) k') ?_
        show Go p e below s _ _ _ (T126.setTop (mkF m 66 #[.val (.int kk), .val (.int vv), .val (.int (11 : Int32)), .val (.ref a_DESCRIBE_GROUPS), .val (.int (vv.toInt16.toInt32)), .val (.int (0 : Int32)), .val (.int (4 : Int32)), .val (.int (0 : Int32))] [(.int (1 : Int32))]))
        refine Go.retB X126 hx hlk (t := .boolean) Bd.returns (by simp) (hb hby at_66) (by decide) (by decide) eq126 ?_
        exact ⟨rfl, N126, trivial⟩
      · refine Go.st (fun _ k' => XS.icmpYes X126.here hx rfl (pc0 := 58) (pc' := 65) rfl (hb hby at_58) rfl (XT.ii_ne_t hc127) (by decide) (by decide) k') ?_
        show Go p e below s _ _ _ (T126.setTop (mkF m 65 #[.val (.int kk), .val (.int vv), .val (.int (11 : Int32)), .val (.ref a_DESCRIBE_GROUPS), .val (.int (vv.toInt16.toInt32)), .val (.int (0 : Int32)), .val (.int (4 : Int32)), .val (.int (0 : Int32))] []))
        refine Go.st (fun _ k' => XS.iconst X126.here hx rfl (hb hby at_65) k') ?_
        show Go p e below s _ _ _ (T126.setTop (mkF m 66 #[.val (.int kk), .val (.int vv), .val (.int (11 : Int32)), .val (.ref a_DESCRIBE_GROUPS), .val (.int (vv.toInt16.toInt32)), .val (.int (0 : Int32)), .val (.int (4 : Int32)), .val (.int (0 : Int32))] [(.int (0 : Int32))]))
        refine Go.retB X126 hx hlk (t := .boolean) Bd.returns (by simp) (hb hby at_66) (by decide) (by decide) eq126 ?_
        exact absurd (by simp [hc125]) hc127
    · refine Go.st (fun _ k' => XS.icmpNo X124.here hx rfl (hb hby at_33) rfl (XT.ii_lt_f hc125) k') ?_
      show Go p e below s _ _ _ (T124.setTop (mkF m 36 #[.val (.int kk), .val (.int vv), .val (.int (11 : Int32)), .val (.ref a_DESCRIBE_GROUPS), .val (.int (vv.toInt16.toInt32)), .val (.int (0 : Int32)), .val (.int (4 : Int32)), .unset] []))
      refine Go.st (fun _ k' => XS.iload X124.here hx rfl (hb hby at_36) rfl k') ?_
      show Go p e below s _ _ _ (T124.setTop (mkF m 38 #[.val (.int kk), .val (.int vv), .val (.int (11 : Int32)), .val (.ref a_DESCRIBE_GROUPS), .val (.int (vv.toInt16.toInt32)), .val (.int (0 : Int32)), .val (.int (4 : Int32)), .unset] [(.int (vv.toInt16.toInt32))]))
      refine Go.st (fun _ k' => XS.iload X124.here hx rfl (hb hby at_38) rfl k') ?_
      show Go p e below s _ _ _ (T124.setTop (mkF m 40 #[.val (.int kk), .val (.int vv), .val (.int (11 : Int32)), .val (.ref a_DESCRIBE_GROUPS), .val (.int (vv.toInt16.toInt32)), .val (.int (0 : Int32)), .val (.int (4 : Int32)), .unset] [(.int (4 : Int32)), (.int (vv.toInt16.toInt32))]))
      by_cases hc128 : (4 : Int32) < (vv.toInt16.toInt32)
      · refine Go.st (fun _ k' => XS.icmpYes X124.here hx rfl (pc0 := 40) (pc' := 47) rfl (hb hby at_40) rfl (XT.ii_gt_t hc128) (by decide) (by decide) k') ?_
        show Go p e below s _ _ _ (T124.setTop (mkF m 47 #[.val (.int kk), .val (.int vv), .val (.int (11 : Int32)), .val (.ref a_DESCRIBE_GROUPS), .val (.int (vv.toInt16.toInt32)), .val (.int (0 : Int32)), .val (.int (4 : Int32)), .unset] []))
        refine Go.st (fun _ k' => XS.iconst X124.here hx rfl (hb hby at_47) k') ?_
        show Go p e below s _ _ _ (T124.setTop (mkF m 48 #[.val (.int kk), .val (.int vv), .val (.int (11 : Int32)), .val (.ref a_DESCRIBE_GROUPS), .val (.int (vv.toInt16.toInt32)), .val (.int (0 : Int32)), .val (.int (4 : Int32)), .unset] [(.int (0 : Int32))]))
        refine Go.st (fun _ k' => XS.istore X124.here hx rfl (hb hby at_48) rfl (l' := #[.val (.int kk), .val (.int vv), .val (.int (11 : Int32)), .val (.ref a_DESCRIBE_GROUPS), .val (.int (vv.toInt16.toInt32)), .val (.int (0 : Int32)), .val (.int (4 : Int32)), .val (.int (0 : Int32))]) rfl k') ?_
        show Go p e below s _ _ _ (T124.setTop (mkF m 50 #[.val (.int kk), .val (.int vv), .val (.int (11 : Int32)), .val (.ref a_DESCRIBE_GROUPS), .val (.int (vv.toInt16.toInt32)), .val (.int (0 : Int32)), .val (.int (4 : Int32)), .val (.int (0 : Int32))] []))
        refine Go.st (fun _ k' => XS.aloadN X124.here hx rfl (hb hby at_50) rfl rfl k') ?_
        show Go p e below s _ _ _ (T124.setTop (mkF m 51 #[.val (.int kk), .val (.int vv), .val (.int (11 : Int32)), .val (.ref a_DESCRIBE_GROUPS), .val (.int (vv.toInt16.toInt32)), .val (.int (0 : Int32)), .val (.int (4 : Int32)), .val (.int (0 : Int32))] [(.ref a_DESCRIBE_GROUPS)]))
        refine Go.st (fun _ k' => XS.iload X124.here hx rfl (hb hby at_51) rfl k') ?_
        show Go p e below s _ _ _ (T124.setTop (mkF m 53 #[.val (.int kk), .val (.int vv), .val (.int (11 : Int32)), .val (.ref a_DESCRIBE_GROUPS), .val (.int (vv.toInt16.toInt32)), .val (.int (0 : Int32)), .val (.int (4 : Int32)), .val (.int (0 : Int32))] [(.int (vv.toInt16.toInt32)), (.ref a_DESCRIBE_GROUPS)]))
        obtain ⟨cq129, kq129, q129a, q129b, q129c⟩ := isOf hZ eq124 E_DESCRIBE_GROUPS
        obtain ⟨_, _, ⟨T129, L129, k129, n129⟩, -, X129, ⟨Lc129, hQ129, l129, y129, z129⟩, st129⟩ := X124.virtualBack hx (y := (⟨"com/example/tenure_of_partitions/tenureofpartitions/ApiKey", "serves", "(S)Z"⟩ : MethodName)) (z := (⟨"com/example/tenure_of_partitions/tenureofpartitions/ApiKey", "serves", "(S)Z"⟩ : MethodName)) hown (mvT hZ (wdx hw 14 rfl)) (mvT hZ (wdx hw 15 rfl)) (notFace_of_selects (args := #[]) (mvT hZ (wdx hw 17 rfl))) (mvT hZ (wdx hw 17 rfl)) (mvT hZ (wdx hw 16 rfl)) (by decide) (backOf (W := 0) (rm4 l Z a0 hw [] a_DESCRIBE_GROUPS (vv.toInt16.toInt32) (0 : Int32) (4 : Int32) h0 n0 O0 F_DESCRIBE_GROUPS_minVersion F_DESCRIBE_GROUPS_maxVersion) hZ (wdx hw 18 rfl) (wdx hw 6 rfl) (by decide) (by decide)) q129a q129c (g := (mkF m 53 #[.val (.int kk), .val (.int vv), .val (.int (11 : Int32)), .val (.ref a_DESCRIBE_GROUPS), .val (.int (vv.toInt16.toInt32)), .val (.int (0 : Int32)), .val (.int (4 : Int32)), .val (.int (0 : Int32))] [(.int (vv.toInt16.toInt32)), (.ref a_DESCRIBE_GROUPS)])) rfl (by rw [hml]; rfl) (Steps.refl _) (argsL := [(.int (vv.toInt16.toInt32))]) (rest := []) (lenOf pd__S_Z rfl) rfl (by show 2 * 0 + _ ≤ _; exact Nat.le_of_eq rfl) (hb hby at_53) (fun _ _ => ⟨rfl, eq124, (by exact Nat.le_of_ble_eq_true rfl), (by exact Nat.le_of_ble_eq_true rfl)⟩)
        dsimp only [Pt.U, Pt.locs, Pt.cells, Pt.slots] at X129 l129 y129 z129 st129 hQ129
        subst l129 y129 z129
        obtain ⟨rfl, Nq129, eq129⟩ := hQ129
        have N129 := Fr.app N124 Nq129
        refine Go.tr st129 ?_
        show Go p e below s _ _ _ (T129.setTop (mkF m 56 #[.val (.int kk), .val (.int vv), .val (.int (11 : Int32)), .val (.ref a_DESCRIBE_GROUPS), .val (.int (vv.toInt16.toInt32)), .val (.int (0 : Int32)), .val (.int (4 : Int32)), .val (.int (0 : Int32))] [(.int (if (vv.toInt16.toInt32) < (0 : Int32) then (0 : Int32) else if (4 : Int32) < (vv.toInt16.toInt32) then 0 else 1))]))
        refine Go.st (fun _ k' => XS.iload X129.here hx rfl (hb hby at_56) rfl k') ?_
        show Go p e below s _ _ _ (T129.setTop (mkF m 58 #[.val (.int kk), .val (.int vv), .val (.int (11 : Int32)), .val (.ref a_DESCRIBE_GROUPS), .val (.int (vv.toInt16.toInt32)), .val (.int (0 : Int32)), .val (.int (4 : Int32)), .val (.int (0 : Int32))] [(.int (0 : Int32)), (.int (if (vv.toInt16.toInt32) < (0 : Int32) then (0 : Int32) else if (4 : Int32) < (vv.toInt16.toInt32) then 0 else 1))]))
        by_cases hc130 : (if (vv.toInt16.toInt32) < (0 : Int32) then (0 : Int32) else if (4 : Int32) < (vv.toInt16.toInt32) then 0 else 1) = (0 : Int32)
        · refine Go.st (fun _ k' => XS.icmpNo X129.here hx rfl (hb hby at_58) rfl (XT.ii_ne_f hc130) k') ?_
          show Go p e below s _ _ _ (T129.setTop (mkF m 61 #[.val (.int kk), .val (.int vv), .val (.int (11 : Int32)), .val (.ref a_DESCRIBE_GROUPS), .val (.int (vv.toInt16.toInt32)), .val (.int (0 : Int32)), .val (.int (4 : Int32)), .val (.int (0 : Int32))] []))
          refine Go.st (fun _ k' => XS.iconst X129.here hx rfl (hb hby at_61) k') ?_
          show Go p e below s _ _ _ (T129.setTop (mkF m 62 #[.val (.int kk), .val (.int vv), .val (.int (11 : Int32)), .val (.ref a_DESCRIBE_GROUPS), .val (.int (vv.toInt16.toInt32)), .val (.int (0 : Int32)), .val (.int (4 : Int32)), .val (.int (0 : Int32))] [(.int (1 : Int32))]))
          refine Go.st (fun _ k' => XS.goto X129.here hx rfl (pc0 := 62) (pc' := 66) rfl (hb hby at_62) (by decide) (by decide) k') ?_
          show Go p e below s _ _ _ (T129.setTop (mkF m 66 #[.val (.int kk), .val (.int vv), .val (.int (11 : Int32)), .val (.ref a_DESCRIBE_GROUPS), .val (.int (vv.toInt16.toInt32)), .val (.int (0 : Int32)), .val (.int (4 : Int32)), .val (.int (0 : Int32))] [(.int (1 : Int32))]))
          refine Go.retB X129 hx hlk (t := .boolean) Bd.returns (by simp) (hb hby at_66) (by decide) (by decide) eq129 ?_
          exact ⟨rfl, N129, trivial⟩
        · refine Go.st (fun _ k' => XS.icmpYes X129.here hx rfl (pc0 := 58) (pc' := 65) rfl (hb hby at_58) rfl (XT.ii_ne_t hc130) (by decide) (by decide) k') ?_
          show Go p e below s _ _ _ (T129.setTop (mkF m 65 #[.val (.int kk), .val (.int vv), .val (.int (11 : Int32)), .val (.ref a_DESCRIBE_GROUPS), .val (.int (vv.toInt16.toInt32)), .val (.int (0 : Int32)), .val (.int (4 : Int32)), .val (.int (0 : Int32))] []))
          refine Go.st (fun _ k' => XS.iconst X129.here hx rfl (hb hby at_65) k') ?_
          show Go p e below s _ _ _ (T129.setTop (mkF m 66 #[.val (.int kk), .val (.int vv), .val (.int (11 : Int32)), .val (.ref a_DESCRIBE_GROUPS), .val (.int (vv.toInt16.toInt32)), .val (.int (0 : Int32)), .val (.int (4 : Int32)), .val (.int (0 : Int32))] [(.int (0 : Int32))]))
          refine Go.retB X129 hx hlk (t := .boolean) Bd.returns (by simp) (hb hby at_66) (by decide) (by decide) eq129 ?_
          exact absurd (by simp [hc125, hc128]) hc130
      · refine Go.st (fun _ k' => XS.icmpNo X124.here hx rfl (hb hby at_40) rfl (XT.ii_gt_f hc128) k') ?_
        show Go p e below s _ _ _ (T124.setTop (mkF m 43 #[.val (.int kk), .val (.int vv), .val (.int (11 : Int32)), .val (.ref a_DESCRIBE_GROUPS), .val (.int (vv.toInt16.toInt32)), .val (.int (0 : Int32)), .val (.int (4 : Int32)), .unset] []))
        refine Go.st (fun _ k' => XS.iconst X124.here hx rfl (hb hby at_43) k') ?_
        show Go p e below s _ _ _ (T124.setTop (mkF m 44 #[.val (.int kk), .val (.int vv), .val (.int (11 : Int32)), .val (.ref a_DESCRIBE_GROUPS), .val (.int (vv.toInt16.toInt32)), .val (.int (0 : Int32)), .val (.int (4 : Int32)), .unset] [(.int (1 : Int32))]))
        refine Go.st (fun _ k' => XS.goto X124.here hx rfl (pc0 := 44) (pc' := 48) rfl (hb hby at_44) (by decide) (by decide) k') ?_
        show Go p e below s _ _ _ (T124.setTop (mkF m 48 #[.val (.int kk), .val (.int vv), .val (.int (11 : Int32)), .val (.ref a_DESCRIBE_GROUPS), .val (.int (vv.toInt16.toInt32)), .val (.int (0 : Int32)), .val (.int (4 : Int32)), .unset] [(.int (1 : Int32))]))
        refine Go.st (fun _ k' => XS.istore X124.here hx rfl (hb hby at_48) rfl (l' := #[.val (.int kk), .val (.int vv), .val (.int (11 : Int32)), .val (.ref a_DESCRIBE_GROUPS), .val (.int (vv.toInt16.toInt32)), .val (.int (0 : Int32)), .val (.int (4 : Int32)), .val (.int (1 : Int32))]) rfl k') ?_
        show Go p e below s _ _ _ (T124.setTop (mkF m 50 #[.val (.int kk), .val (.int vv), .val (.int (11 : Int32)), .val (.ref a_DESCRIBE_GROUPS), .val (.int (vv.toInt16.toInt32)), .val (.int (0 : Int32)), .val (.int (4 : Int32)), .val (.int (1 : Int32))] []))
        refine Go.st (fun _ k' => XS.aloadN X124.here hx rfl (hb hby at_50) rfl rfl k') ?_
        show Go p e below s _ _ _ (T124.setTop (mkF m 51 #[.val (.int kk), .val (.int vv), .val (.int (11 : Int32)), .val (.ref a_DESCRIBE_GROUPS), .val (.int (vv.toInt16.toInt32)), .val (.int (0 : Int32)), .val (.int (4 : Int32)), .val (.int (1 : Int32))] [(.ref a_DESCRIBE_GROUPS)]))
        refine Go.st (fun _ k' => XS.iload X124.here hx rfl (hb hby at_51) rfl k') ?_
        show Go p e below s _ _ _ (T124.setTop (mkF m 53 #[.val (.int kk), .val (.int vv), .val (.int (11 : Int32)), .val (.ref a_DESCRIBE_GROUPS), .val (.int (vv.toInt16.toInt32)), .val (.int (0 : Int32)), .val (.int (4 : Int32)), .val (.int (1 : Int32))] [(.int (vv.toInt16.toInt32)), (.ref a_DESCRIBE_GROUPS)]))
        obtain ⟨cq131, kq131, q131a, q131b, q131c⟩ := isOf hZ eq124 E_DESCRIBE_GROUPS
        obtain ⟨_, _, ⟨T131, L131, k131, n131⟩, -, X131, ⟨Lc131, hQ131, l131, y131, z131⟩, st131⟩ := X124.virtualBack hx (y := (⟨"com/example/tenure_of_partitions/tenureofpartitions/ApiKey", "serves", "(S)Z"⟩ : MethodName)) (z := (⟨"com/example/tenure_of_partitions/tenureofpartitions/ApiKey", "serves", "(S)Z"⟩ : MethodName)) hown (mvT hZ (wdx hw 14 rfl)) (mvT hZ (wdx hw 15 rfl)) (notFace_of_selects (args := #[]) (mvT hZ (wdx hw 17 rfl))) (mvT hZ (wdx hw 17 rfl)) (mvT hZ (wdx hw 16 rfl)) (by decide) (backOf (W := 0) (rm4 l Z a0 hw [] a_DESCRIBE_GROUPS (vv.toInt16.toInt32) (0 : Int32) (4 : Int32) h0 n0 O0 F_DESCRIBE_GROUPS_minVersion F_DESCRIBE_GROUPS_maxVersion) hZ (wdx hw 18 rfl) (wdx hw 6 rfl) (by decide) (by decide)) q131a q131c (g := (mkF m 53 #[.val (.int kk), .val (.int vv), .val (.int (11 : Int32)), .val (.ref a_DESCRIBE_GROUPS), .val (.int (vv.toInt16.toInt32)), .val (.int (0 : Int32)), .val (.int (4 : Int32)), .val (.int (1 : Int32))] [(.int (vv.toInt16.toInt32)), (.ref a_DESCRIBE_GROUPS)])) rfl (by rw [hml]; rfl) (Steps.refl _) (argsL := [(.int (vv.toInt16.toInt32))]) (rest := []) (lenOf pd__S_Z rfl) rfl (by show 2 * 0 + _ ≤ _; exact Nat.le_of_eq rfl) (hb hby at_53) (fun _ _ => ⟨rfl, eq124, (by exact Nat.le_of_ble_eq_true rfl), (by exact Nat.le_of_ble_eq_true rfl)⟩)
        dsimp only [Pt.U, Pt.locs, Pt.cells, Pt.slots] at X131 l131 y131 z131 st131 hQ131
        subst l131 y131 z131
        obtain ⟨rfl, Nq131, eq131⟩ := hQ131
        have N131 := Fr.app N124 Nq131
        refine Go.tr st131 ?_
        show Go p e below s _ _ _ (T131.setTop (mkF m 56 #[.val (.int kk), .val (.int vv), .val (.int (11 : Int32)), .val (.ref a_DESCRIBE_GROUPS), .val (.int (vv.toInt16.toInt32)), .val (.int (0 : Int32)), .val (.int (4 : Int32)), .val (.int (1 : Int32))] [(.int (if (vv.toInt16.toInt32) < (0 : Int32) then (0 : Int32) else if (4 : Int32) < (vv.toInt16.toInt32) then 0 else 1))]))
        refine Go.st (fun _ k' => XS.iload X131.here hx rfl (hb hby at_56) rfl k') ?_
        show Go p e below s _ _ _ (T131.setTop (mkF m 58 #[.val (.int kk), .val (.int vv), .val (.int (11 : Int32)), .val (.ref a_DESCRIBE_GROUPS), .val (.int (vv.toInt16.toInt32)), .val (.int (0 : Int32)), .val (.int (4 : Int32)), .val (.int (1 : Int32))] [(.int (1 : Int32)), (.int (if (vv.toInt16.toInt32) < (0 : Int32) then (0 : Int32) else if (4 : Int32) < (vv.toInt16.toInt32) then 0 else 1))]))
        by_cases hc132 : (if (vv.toInt16.toInt32) < (0 : Int32) then (0 : Int32) else if (4 : Int32) < (vv.toInt16.toInt32) then 0 else 1) = (1 : Int32)
        · refine Go.st (fun _ k' => XS.icmpNo X131.here hx rfl (hb hby at_58) rfl (XT.ii_ne_f hc132) k') ?_
          show Go p e below s _ _ _ (T131.setTop (mkF m 61 #[.val (.int kk), .val (.int vv), .val (.int (11 : Int32)), .val (.ref a_DESCRIBE_GROUPS), .val (.int (vv.toInt16.toInt32)), .val (.int (0 : Int32)), .val (.int (4 : Int32)), .val (.int (1 : Int32))] []))
          refine Go.st (fun _ k' => XS.iconst X131.here hx rfl (hb hby at_61) k') ?_
          show Go p e below s _ _ _ (T131.setTop (mkF m 62 #[.val (.int kk), .val (.int vv), .val (.int (11 : Int32)), .val (.ref a_DESCRIBE_GROUPS), .val (.int (vv.toInt16.toInt32)), .val (.int (0 : Int32)), .val (.int (4 : Int32)), .val (.int (1 : Int32))] [(.int (1 : Int32))]))
          refine Go.st (fun _ k' => XS.goto X131.here hx rfl (pc0 := 62) (pc' := 66) rfl (hb hby at_62) (by decide) (by decide) k') ?_
          show Go p e below s _ _ _ (T131.setTop (mkF m 66 #[.val (.int kk), .val (.int vv), .val (.int (11 : Int32)), .val (.ref a_DESCRIBE_GROUPS), .val (.int (vv.toInt16.toInt32)), .val (.int (0 : Int32)), .val (.int (4 : Int32)), .val (.int (1 : Int32))] [(.int (1 : Int32))]))
          refine Go.retB X131 hx hlk (t := .boolean) Bd.returns (by simp) (hb hby at_66) (by decide) (by decide) eq131 ?_
          exact ⟨rfl, N131, trivial⟩
        · refine Go.st (fun _ k' => XS.icmpYes X131.here hx rfl (pc0 := 58) (pc' := 65) rfl (hb hby at_58) rfl (XT.ii_ne_t hc132) (by decide) (by decide) k') ?_
          show Go p e below s _ _ _ (T131.setTop (mkF m 65 #[.val (.int kk), .val (.int vv), .val (.int (11 : Int32)), .val (.ref a_DESCRIBE_GROUPS), .val (.int (vv.toInt16.toInt32)), .val (.int (0 : Int32)), .val (.int (4 : Int32)), .val (.int (1 : Int32))] []))
          refine Go.st (fun _ k' => XS.iconst X131.here hx rfl (hb hby at_65) k') ?_
          show Go p e below s _ _ _ (T131.setTop (mkF m 66 #[.val (.int kk), .val (.int vv), .val (.int (11 : Int32)), .val (.ref a_DESCRIBE_GROUPS), .val (.int (vv.toInt16.toInt32)), .val (.int (0 : Int32)), .val (.int (4 : Int32)), .val (.int (1 : Int32))] [(.int (0 : Int32))]))
          refine Go.retB X131 hx hlk (t := .boolean) Bd.returns (by simp) (hb hby at_66) (by decide) (by decide) eq131 ?_
          exact absurd (by simp [hc125, hc128]) hc132
  · rw [hi]
    show Go p e below s _ _ _ (s₁.setTop (mkF m 8 #[.val (.int kk), .val (.int vv), .val (.int (12 : Int32)), .unset, .unset, .unset, .unset, .unset] []))
    refine Go.st (fun _ k' => XS.iloadN X0.here hx rfl (hb hby at_8) rfl k') ?_
    show Go p e below s _ _ _ (s₁.setTop (mkF m 9 #[.val (.int kk), .val (.int vv), .val (.int (12 : Int32)), .unset, .unset, .unset, .unset, .unset] [(.int (12 : Int32))]))
    obtain ⟨_, _, ⟨T133, L133, k133, n133⟩, -, X133, ⟨Lc133, hQ133, l133, y133, z133⟩, st133⟩ := Jvm.LawKit.callS X0 hx (y := (⟨"com/example/tenure_of_partitions/tenureofpartitions/ApiKeyServesPinLaw", "pick", "(I)Lcom/example/tenure_of_partitions/tenureofpartitions/ApiKey;"⟩ : MethodName)) hown (mvT hZ (wdx hw 1 rfl)) (mvT hZ (wdx hw 2 rfl)) (mvT hZ (wdx hw 3 rfl)) (mvT hZ (wdx hw 4 rfl)) (by decide) (backOf (W := 0) (rm1 l Z a0 hw [] (12 : Int32) a_PRODUCE a_FETCH a_LIST_OFFSETS a_METADATA a_OFFSET_COMMIT a_OFFSET_FETCH a_FIND_COORDINATOR a_JOIN_GROUP a_HEARTBEAT a_LEAVE_GROUP a_SYNC_GROUP a_DESCRIBE_GROUPS a_LIST_GROUPS a_API_VERSIONS h0 n0 O0 S_PRODUCE S_FETCH S_LIST_OFFSETS S_METADATA S_OFFSET_COMMIT S_OFFSET_FETCH S_FIND_COORDINATOR S_JOIN_GROUP S_HEARTBEAT S_LEAVE_GROUP S_SYNC_GROUP S_DESCRIBE_GROUPS S_LIST_GROUPS S_API_VERSIONS) hZ (wdx hw 4 rfl) (wdx hw 3 rfl) (by decide) (by decide)) (g := (mkF m 9 #[.val (.int kk), .val (.int vv), .val (.int (12 : Int32)), .unset, .unset, .unset, .unset, .unset] [(.int (12 : Int32))])) rfl (by rw [hml]; rfl) (argsL := [(.int (12 : Int32))]) (rest := []) (lenOf pd__I_Lcom_example_tenure_of_partitions_tenureofpartitions_ApiKey_ rfl) rfl (by show 2 * 0 + _ ≤ _; exact Nat.le_of_eq rfl) (hb hby at_9) (fun _ _ => ⟨rfl, e0, (by exact Nat.le_of_ble_eq_true rfl), (by exact Nat.le_of_ble_eq_true rfl)⟩)
    dsimp only [Pt.U, Pt.locs, Pt.cells, Pt.slots] at X133 l133 y133 z133 st133 hQ133
    subst l133 y133 z133
    obtain ⟨rfl, Nq133, eq133⟩ := hQ133
    have N133 := Fr.app N0 Nq133
    refine Go.st st133 ?_
    show Go p e below s _ _ _ (T133.setTop (mkF m 12 #[.val (.int kk), .val (.int vv), .val (.int (12 : Int32)), .unset, .unset, .unset, .unset, .unset] [(.ref (fpick (12 : Int32) a_PRODUCE a_FETCH a_LIST_OFFSETS a_METADATA a_OFFSET_COMMIT a_OFFSET_FETCH a_FIND_COORDINATOR a_JOIN_GROUP a_HEARTBEAT a_LEAVE_GROUP a_SYNC_GROUP a_DESCRIBE_GROUPS a_LIST_GROUPS a_API_VERSIONS))]))
    show Go p e below s _ _ _ (T133.setTop (mkF m 12 #[.val (.int kk), .val (.int vv), .val (.int (12 : Int32)), .unset, .unset, .unset, .unset, .unset] [(.ref a_LIST_GROUPS)]))
    refine Go.st (fun _ k' => XS.astoreN X133.here hx rfl (hb hby at_12) rfl rfl (l' := #[.val (.int kk), .val (.int vv), .val (.int (12 : Int32)), .val (.ref a_LIST_GROUPS), .unset, .unset, .unset, .unset]) rfl k') ?_
    show Go p e below s _ _ _ (T133.setTop (mkF m 13 #[.val (.int kk), .val (.int vv), .val (.int (12 : Int32)), .val (.ref a_LIST_GROUPS), .unset, .unset, .unset, .unset] []))
    refine Go.st (fun _ k' => XS.iloadN X133.here hx rfl (hb hby at_13) rfl k') ?_
    show Go p e below s _ _ _ (T133.setTop (mkF m 14 #[.val (.int kk), .val (.int vv), .val (.int (12 : Int32)), .val (.ref a_LIST_GROUPS), .unset, .unset, .unset, .unset] [(.int vv)]))
    refine Go.st (fun _ k' => XS.i2s X133.here hx rfl (hb hby at_14) rfl k') ?_
    show Go p e below s _ _ _ (T133.setTop (mkF m 15 #[.val (.int kk), .val (.int vv), .val (.int (12 : Int32)), .val (.ref a_LIST_GROUPS), .unset, .unset, .unset, .unset] [(.int (vv.toInt16.toInt32))]))
    refine Go.st (fun _ k' => XS.istore X133.here hx rfl (hb hby at_15) rfl (l' := #[.val (.int kk), .val (.int vv), .val (.int (12 : Int32)), .val (.ref a_LIST_GROUPS), .val (.int (vv.toInt16.toInt32)), .unset, .unset, .unset]) rfl k') ?_
    show Go p e below s _ _ _ (T133.setTop (mkF m 17 #[.val (.int kk), .val (.int vv), .val (.int (12 : Int32)), .val (.ref a_LIST_GROUPS), .val (.int (vv.toInt16.toInt32)), .unset, .unset, .unset] []))
    refine Go.st (fun _ k' => XS.iloadN X133.here hx rfl (hb hby at_17) rfl k') ?_
    show Go p e below s _ _ _ (T133.setTop (mkF m 18 #[.val (.int kk), .val (.int vv), .val (.int (12 : Int32)), .val (.ref a_LIST_GROUPS), .val (.int (vv.toInt16.toInt32)), .unset, .unset, .unset] [(.int (12 : Int32))]))
    obtain ⟨_, _, ⟨T134, L134, k134, n134⟩, -, X134, ⟨Lc134, hQ134, l134, y134, z134⟩, st134⟩ := Jvm.LawKit.callS X133 hx (y := (⟨"com/example/tenure_of_partitions/tenureofpartitions/ApiKeyServesPinLaw", "lo", "(I)I"⟩ : MethodName)) hown (mvT hZ (wdx hw 8 rfl)) (mvT hZ (wdx hw 9 rfl)) (mvT hZ (wdx hw 3 rfl)) (mvT hZ (wdx hw 10 rfl)) (by decide) (backOf (W := 0) (rm2 l Z a0 hw [] (12 : Int32) h0 n0 O0 ) hZ (wdx hw 10 rfl) (wdx hw 3 rfl) (by decide) (by decide)) (g := (mkF m 18 #[.val (.int kk), .val (.int vv), .val (.int (12 : Int32)), .val (.ref a_LIST_GROUPS), .val (.int (vv.toInt16.toInt32)), .unset, .unset, .unset] [(.int (12 : Int32))])) rfl (by rw [hml]; rfl) (argsL := [(.int (12 : Int32))]) (rest := []) (lenOf pd__I_I rfl) rfl (by show 2 * 0 + _ ≤ _; exact Nat.le_of_eq rfl) (hb hby at_18) (fun _ _ => ⟨rfl, eq133, (by exact Nat.le_of_ble_eq_true rfl), (by exact Nat.le_of_ble_eq_true rfl)⟩)
    dsimp only [Pt.U, Pt.locs, Pt.cells, Pt.slots] at X134 l134 y134 z134 st134 hQ134
    subst l134 y134 z134
    obtain ⟨rfl, Nq134, eq134⟩ := hQ134
    have N134 := Fr.app N133 Nq134
    refine Go.st st134 ?_
    show Go p e below s _ _ _ (T134.setTop (mkF m 21 #[.val (.int kk), .val (.int vv), .val (.int (12 : Int32)), .val (.ref a_LIST_GROUPS), .val (.int (vv.toInt16.toInt32)), .unset, .unset, .unset] [(.int (flo (12 : Int32)))]))
    show Go p e below s _ _ _ (T134.setTop (mkF m 21 #[.val (.int kk), .val (.int vv), .val (.int (12 : Int32)), .val (.ref a_LIST_GROUPS), .val (.int (vv.toInt16.toInt32)), .unset, .unset, .unset] [(.int (0 : Int32))]))
    refine Go.st (fun _ k' => XS.istore X134.here hx rfl (hb hby at_21) rfl (l' := #[.val (.int kk), .val (.int vv), .val (.int (12 : Int32)), .val (.ref a_LIST_GROUPS), .val (.int (vv.toInt16.toInt32)), .val (.int (0 : Int32)), .unset, .unset]) rfl k') ?_
    show Go p e below s _ _ _ (T134.setTop (mkF m 23 #[.val (.int kk), .val (.int vv), .val (.int (12 : Int32)), .val (.ref a_LIST_GROUPS), .val (.int (vv.toInt16.toInt32)), .val (.int (0 : Int32)), .unset, .unset] []))
    refine Go.st (fun _ k' => XS.iloadN X134.here hx rfl (hb hby at_23) rfl k') ?_
    show Go p e below s _ _ _ (T134.setTop (mkF m 24 #[.val (.int kk), .val (.int vv), .val (.int (12 : Int32)), .val (.ref a_LIST_GROUPS), .val (.int (vv.toInt16.toInt32)), .val (.int (0 : Int32)), .unset, .unset] [(.int (12 : Int32))]))
    obtain ⟨_, _, ⟨T135, L135, k135, n135⟩, -, X135, ⟨Lc135, hQ135, l135, y135, z135⟩, st135⟩ := Jvm.LawKit.callS X134 hx (y := (⟨"com/example/tenure_of_partitions/tenureofpartitions/ApiKeyServesPinLaw", "hi", "(I)I"⟩ : MethodName)) hown (mvT hZ (wdx hw 11 rfl)) (mvT hZ (wdx hw 12 rfl)) (mvT hZ (wdx hw 3 rfl)) (mvT hZ (wdx hw 13 rfl)) (by decide) (backOf (W := 0) (rm3 l Z a0 hw [] (12 : Int32) h0 n0 O0 ) hZ (wdx hw 13 rfl) (wdx hw 3 rfl) (by decide) (by decide)) (g := (mkF m 24 #[.val (.int kk), .val (.int vv), .val (.int (12 : Int32)), .val (.ref a_LIST_GROUPS), .val (.int (vv.toInt16.toInt32)), .val (.int (0 : Int32)), .unset, .unset] [(.int (12 : Int32))])) rfl (by rw [hml]; rfl) (argsL := [(.int (12 : Int32))]) (rest := []) (lenOf pd__I_I rfl) rfl (by show 2 * 0 + _ ≤ _; exact Nat.le_of_eq rfl) (hb hby at_24) (fun _ _ => ⟨rfl, eq134, (by exact Nat.le_of_ble_eq_true rfl), (by exact Nat.le_of_ble_eq_true rfl)⟩)
    dsimp only [Pt.U, Pt.locs, Pt.cells, Pt.slots] at X135 l135 y135 z135 st135 hQ135
    subst l135 y135 z135
    obtain ⟨rfl, Nq135, eq135⟩ := hQ135
    have N135 := Fr.app N134 Nq135
    refine Go.st st135 ?_
    show Go p e below s _ _ _ (T135.setTop (mkF m 27 #[.val (.int kk), .val (.int vv), .val (.int (12 : Int32)), .val (.ref a_LIST_GROUPS), .val (.int (vv.toInt16.toInt32)), .val (.int (0 : Int32)), .unset, .unset] [(.int (fhi (12 : Int32)))]))
    show Go p e below s _ _ _ (T135.setTop (mkF m 27 #[.val (.int kk), .val (.int vv), .val (.int (12 : Int32)), .val (.ref a_LIST_GROUPS), .val (.int (vv.toInt16.toInt32)), .val (.int (0 : Int32)), .unset, .unset] [(.int (0 : Int32))]))
    refine Go.st (fun _ k' => XS.istore X135.here hx rfl (hb hby at_27) rfl (l' := #[.val (.int kk), .val (.int vv), .val (.int (12 : Int32)), .val (.ref a_LIST_GROUPS), .val (.int (vv.toInt16.toInt32)), .val (.int (0 : Int32)), .val (.int (0 : Int32)), .unset]) rfl k') ?_
    show Go p e below s _ _ _ (T135.setTop (mkF m 29 #[.val (.int kk), .val (.int vv), .val (.int (12 : Int32)), .val (.ref a_LIST_GROUPS), .val (.int (vv.toInt16.toInt32)), .val (.int (0 : Int32)), .val (.int (0 : Int32)), .unset] []))
    refine Go.st (fun _ k' => XS.iload X135.here hx rfl (hb hby at_29) rfl k') ?_
    show Go p e below s _ _ _ (T135.setTop (mkF m 31 #[.val (.int kk), .val (.int vv), .val (.int (12 : Int32)), .val (.ref a_LIST_GROUPS), .val (.int (vv.toInt16.toInt32)), .val (.int (0 : Int32)), .val (.int (0 : Int32)), .unset] [(.int (vv.toInt16.toInt32))]))
    refine Go.st (fun _ k' => XS.iload X135.here hx rfl (hb hby at_31) rfl k') ?_
    show Go p e below s _ _ _ (T135.setTop (mkF m 33 #[.val (.int kk), .val (.int vv), .val (.int (12 : Int32)), .val (.ref a_LIST_GROUPS), .val (.int (vv.toInt16.toInt32)), .val (.int (0 : Int32)), .val (.int (0 : Int32)), .unset] [(.int (0 : Int32)), (.int (vv.toInt16.toInt32))]))
    by_cases hc136 : (vv.toInt16.toInt32) < (0 : Int32)
    · refine Go.st (fun _ k' => XS.icmpYes X135.here hx rfl (pc0 := 33) (pc' := 47) rfl (hb hby at_33) rfl (XT.ii_lt_t hc136) (by decide) (by decide) k') ?_
      show Go p e below s _ _ _ (T135.setTop (mkF m 47 #[.val (.int kk), .val (.int vv), .val (.int (12 : Int32)), .val (.ref a_LIST_GROUPS), .val (.int (vv.toInt16.toInt32)), .val (.int (0 : Int32)), .val (.int (0 : Int32)), .unset] []))
      refine Go.st (fun _ k' => XS.iconst X135.here hx rfl (hb hby at_47) k') ?_
      show Go p e below s _ _ _ (T135.setTop (mkF m 48 #[.val (.int kk), .val (.int vv), .val (.int (12 : Int32)), .val (.ref a_LIST_GROUPS), .val (.int (vv.toInt16.toInt32)), .val (.int (0 : Int32)), .val (.int (0 : Int32)), .unset] [(.int (0 : Int32))]))
      refine Go.st (fun _ k' => XS.istore X135.here hx rfl (hb hby at_48) rfl (l' := #[.val (.int kk), .val (.int vv), .val (.int (12 : Int32)), .val (.ref a_LIST_GROUPS), .val (.int (vv.toInt16.toInt32)), .val (.int (0 : Int32)), .val (.int (0 : Int32)), .val (.int (0 : Int32))]) rfl k') ?_
      show Go p e below s _ _ _ (T135.setTop (mkF m 50 #[.val (.int kk), .val (.int vv), .val (.int (12 : Int32)), .val (.ref a_LIST_GROUPS), .val (.int (vv.toInt16.toInt32)), .val (.int (0 : Int32)), .val (.int (0 : Int32)), .val (.int (0 : Int32))] []))
      refine Go.st (fun _ k' => XS.aloadN X135.here hx rfl (hb hby at_50) rfl rfl k') ?_
      show Go p e below s _ _ _ (T135.setTop (mkF m 51 #[.val (.int kk), .val (.int vv), .val (.int (12 : Int32)), .val (.ref a_LIST_GROUPS), .val (.int (vv.toInt16.toInt32)), .val (.int (0 : Int32)), .val (.int (0 : Int32)), .val (.int (0 : Int32))] [(.ref a_LIST_GROUPS)]))
      refine Go.st (fun _ k' => XS.iload X135.here hx rfl (hb hby at_51) rfl k') ?_
      show Go p e below s _ _ _ (T135.setTop (mkF m 53 #[.val (.int kk), .val (.int vv), .val (.int (12 : Int32)), .val (.ref a_LIST_GROUPS), .val (.int (vv.toInt16.toInt32)), .val (.int (0 : Int32)), .val (.int (0 : Int32)), .val (.int (0 : Int32))] [(.int (vv.toInt16.toInt32)), (.ref a_LIST_GROUPS)]))
      obtain ⟨cq137, kq137, q137a, q137b, q137c⟩ := isOf hZ eq135 E_LIST_GROUPS
      obtain ⟨_, _, ⟨T137, L137, k137, n137⟩, -, X137, ⟨Lc137, hQ137, l137, y137, z137⟩, st137⟩ := X135.virtualBack hx (y := (⟨"com/example/tenure_of_partitions/tenureofpartitions/ApiKey", "serves", "(S)Z"⟩ : MethodName)) (z := (⟨"com/example/tenure_of_partitions/tenureofpartitions/ApiKey", "serves", "(S)Z"⟩ : MethodName)) hown (mvT hZ (wdx hw 14 rfl)) (mvT hZ (wdx hw 15 rfl)) (notFace_of_selects (args := #[]) (mvT hZ (wdx hw 17 rfl))) (mvT hZ (wdx hw 17 rfl)) (mvT hZ (wdx hw 16 rfl)) (by decide) (backOf (W := 0) (rm4 l Z a0 hw [] a_LIST_GROUPS (vv.toInt16.toInt32) (0 : Int32) (0 : Int32) h0 n0 O0 F_LIST_GROUPS_minVersion F_LIST_GROUPS_maxVersion) hZ (wdx hw 18 rfl) (wdx hw 6 rfl) (by decide) (by decide)) q137a q137c (g := (mkF m 53 #[.val (.int kk), .val (.int vv), .val (.int (12 : Int32)), .val (.ref a_LIST_GROUPS), .val (.int (vv.toInt16.toInt32)), .val (.int (0 : Int32)), .val (.int (0 : Int32)), .val (.int (0 : Int32))] [(.int (vv.toInt16.toInt32)), (.ref a_LIST_GROUPS)])) rfl (by rw [hml]; rfl) (Steps.refl _) (argsL := [(.int (vv.toInt16.toInt32))]) (rest := []) (lenOf pd__S_Z rfl) rfl (by show 2 * 0 + _ ≤ _; exact Nat.le_of_eq rfl) (hb hby at_53) (fun _ _ => ⟨rfl, eq135, (by exact Nat.le_of_ble_eq_true rfl), (by exact Nat.le_of_ble_eq_true rfl)⟩)
      dsimp only [Pt.U, Pt.locs, Pt.cells, Pt.slots] at X137 l137 y137 z137 st137 hQ137
      subst l137 y137 z137
      obtain ⟨rfl, Nq137, eq137⟩ := hQ137
      have N137 := Fr.app N135 Nq137
      refine Go.tr st137 ?_
      show Go p e below s _ _ _ (T137.setTop (mkF m 56 #[.val (.int kk), .val (.int vv), .val (.int (12 : Int32)), .val (.ref a_LIST_GROUPS), .val (.int (vv.toInt16.toInt32)), .val (.int (0 : Int32)), .val (.int (0 : Int32)), .val (.int (0 : Int32))] [(.int (if (vv.toInt16.toInt32) < (0 : Int32) then (0 : Int32) else if (0 : Int32) < (vv.toInt16.toInt32) then 0 else 1))]))
      refine Go.st (fun _ k' => XS.iload X137.here hx rfl (hb hby at_56) rfl k') ?_
      show Go p e below s _ _ _ (T137.setTop (mkF m 58 #[.val (.int kk), .val (.int vv), .val (.int (12 : Int32)), .val (.ref a_LIST_GROUPS), .val (.int (vv.toInt16.toInt32)), .val (.int (0 : Int32)), .val (.int (0 : Int32)), .val (.int (0 : Int32))] [(.int (0 : Int32)), (.int (if (vv.toInt16.toInt32) < (0 : Int32) then (0 : Int32) else if (0 : Int32) < (vv.toInt16.toInt32) then 0 else 1))]))
      by_cases hc138 : (if (vv.toInt16.toInt32) < (0 : Int32) then (0 : Int32) else if (0 : Int32) < (vv.toInt16.toInt32) then 0 else 1) = (0 : Int32)
      · refine Go.st (fun _ k' => XS.icmpNo X137.here hx rfl (hb hby at_58) rfl (XT.ii_ne_f hc138) k') ?_
        show Go p e below s _ _ _ (T137.setTop (mkF m 61 #[.val (.int kk), .val (.int vv), .val (.int (12 : Int32)), .val (.ref a_LIST_GROUPS), .val (.int (vv.toInt16.toInt32)), .val (.int (0 : Int32)), .val (.int (0 : Int32)), .val (.int (0 : Int32))] []))
        refine Go.st (fun _ k' => XS.iconst X137.here hx rfl (hb hby at_61) k') ?_
        show Go p e below s _ _ _ (T137.setTop (mkF m 62 #[.val (.int kk), .val (.int vv), .val (.int (12 : Int32)), .val (.ref a_LIST_GROUPS), .val (.int (vv.toInt16.toInt32)), .val (.int (0 : Int32)), .val (.int (0 : Int32)), .val (.int (0 : Int32))] [(.int (1 : Int32))]))
        refine Go.st (fun _ k' => XS.goto X137.here hx rfl (pc0 := 62) (pc' := 66) rfl (hb hby at_62) (by decide) (by decide) k') ?_
        show Go p e below s _ _ _ (T137.setTop (mkF m 66 #[.val (.int kk), .val (.int vv), .val (.int (12 : Int32)), .val (.ref a_LIST_GROUPS), .val (.int (vv.toInt16.toInt32)), .val (.int (0 : Int32)), .val (.int (0 : Int32)), .val (.int (0 : Int32))] [(.int (1 : Int32))]))
        refine Go.retB X137 hx hlk (t := .boolean) Bd.returns (by simp) (hb hby at_66) (by decide) (by decide) eq137 ?_
        exact ⟨rfl, N137, trivial⟩
      · refine Go.st (fun _ k' => XS.icmpYes X137.here hx rfl (pc0 := 58) (pc' := 65) rfl (hb hby at_58) rfl (XT.ii_ne_t hc138) (by decide) (by decide) k') ?_
        show Go p e below s _ _ _ (T137.setTop (mkF m 65 #[.val (.int kk), .val (.int vv), .val (.int (12 : Int32)), .val (.ref a_LIST_GROUPS), .val (.int (vv.toInt16.toInt32)), .val (.int (0 : Int32)), .val (.int (0 : Int32)), .val (.int (0 : Int32))] []))
        refine Go.st (fun _ k' => XS.iconst X137.here hx rfl (hb hby at_65) k') ?_
        show Go p e below s _ _ _ (T137.setTop (mkF m 66 #[.val (.int kk), .val (.int vv), .val (.int (12 : Int32)), .val (.ref a_LIST_GROUPS), .val (.int (vv.toInt16.toInt32)), .val (.int (0 : Int32)), .val (.int (0 : Int32)), .val (.int (0 : Int32))] [(.int (0 : Int32))]))
        refine Go.retB X137 hx hlk (t := .boolean) Bd.returns (by simp) (hb hby at_66) (by decide) (by decide) eq137 ?_
        exact absurd (by simp [hc136]) hc138
    · refine Go.st (fun _ k' => XS.icmpNo X135.here hx rfl (hb hby at_33) rfl (XT.ii_lt_f hc136) k') ?_
      show Go p e below s _ _ _ (T135.setTop (mkF m 36 #[.val (.int kk), .val (.int vv), .val (.int (12 : Int32)), .val (.ref a_LIST_GROUPS), .val (.int (vv.toInt16.toInt32)), .val (.int (0 : Int32)), .val (.int (0 : Int32)), .unset] []))
      refine Go.st (fun _ k' => XS.iload X135.here hx rfl (hb hby at_36) rfl k') ?_
      show Go p e below s _ _ _ (T135.setTop (mkF m 38 #[.val (.int kk), .val (.int vv), .val (.int (12 : Int32)), .val (.ref a_LIST_GROUPS), .val (.int (vv.toInt16.toInt32)), .val (.int (0 : Int32)), .val (.int (0 : Int32)), .unset] [(.int (vv.toInt16.toInt32))]))
      refine Go.st (fun _ k' => XS.iload X135.here hx rfl (hb hby at_38) rfl k') ?_
      show Go p e below s _ _ _ (T135.setTop (mkF m 40 #[.val (.int kk), .val (.int vv), .val (.int (12 : Int32)), .val (.ref a_LIST_GROUPS), .val (.int (vv.toInt16.toInt32)), .val (.int (0 : Int32)), .val (.int (0 : Int32)), .unset] [(.int (0 : Int32)), (.int (vv.toInt16.toInt32))]))
      by_cases hc139 : (0 : Int32) < (vv.toInt16.toInt32)
      · refine Go.st (fun _ k' => XS.icmpYes X135.here hx rfl (pc0 := 40) (pc' := 47) rfl (hb hby at_40) rfl (XT.ii_gt_t hc139) (by decide) (by decide) k') ?_
        show Go p e below s _ _ _ (T135.setTop (mkF m 47 #[.val (.int kk), .val (.int vv), .val (.int (12 : Int32)), .val (.ref a_LIST_GROUPS), .val (.int (vv.toInt16.toInt32)), .val (.int (0 : Int32)), .val (.int (0 : Int32)), .unset] []))
        refine Go.st (fun _ k' => XS.iconst X135.here hx rfl (hb hby at_47) k') ?_
        show Go p e below s _ _ _ (T135.setTop (mkF m 48 #[.val (.int kk), .val (.int vv), .val (.int (12 : Int32)), .val (.ref a_LIST_GROUPS), .val (.int (vv.toInt16.toInt32)), .val (.int (0 : Int32)), .val (.int (0 : Int32)), .unset] [(.int (0 : Int32))]))
        refine Go.st (fun _ k' => XS.istore X135.here hx rfl (hb hby at_48) rfl (l' := #[.val (.int kk), .val (.int vv), .val (.int (12 : Int32)), .val (.ref a_LIST_GROUPS), .val (.int (vv.toInt16.toInt32)), .val (.int (0 : Int32)), .val (.int (0 : Int32)), .val (.int (0 : Int32))]) rfl k') ?_
        show Go p e below s _ _ _ (T135.setTop (mkF m 50 #[.val (.int kk), .val (.int vv), .val (.int (12 : Int32)), .val (.ref a_LIST_GROUPS), .val (.int (vv.toInt16.toInt32)), .val (.int (0 : Int32)), .val (.int (0 : Int32)), .val (.int (0 : Int32))] []))
        refine Go.st (fun _ k' => XS.aloadN X135.here hx rfl (hb hby at_50) rfl rfl k') ?_
        show Go p e below s _ _ _ (T135.setTop (mkF m 51 #[.val (.int kk), .val (.int vv), .val (.int (12 : Int32)), .val (.ref a_LIST_GROUPS), .val (.int (vv.toInt16.toInt32)), .val (.int (0 : Int32)), .val (.int (0 : Int32)), .val (.int (0 : Int32))] [(.ref a_LIST_GROUPS)]))
        refine Go.st (fun _ k' => XS.iload X135.here hx rfl (hb hby at_51) rfl k') ?_
        show Go p e below s _ _ _ (T135.setTop (mkF m 53 #[.val (.int kk), .val (.int vv), .val (.int (12 : Int32)), .val (.ref a_LIST_GROUPS), .val (.int (vv.toInt16.toInt32)), .val (.int (0 : Int32)), .val (.int (0 : Int32)), .val (.int (0 : Int32))] [(.int (vv.toInt16.toInt32)), (.ref a_LIST_GROUPS)]))
        obtain ⟨cq140, kq140, q140a, q140b, q140c⟩ := isOf hZ eq135 E_LIST_GROUPS
        obtain ⟨_, _, ⟨T140, L140, k140, n140⟩, -, X140, ⟨Lc140, hQ140, l140, y140, z140⟩, st140⟩ := X135.virtualBack hx (y := (⟨"com/example/tenure_of_partitions/tenureofpartitions/ApiKey", "serves", "(S)Z"⟩ : MethodName)) (z := (⟨"com/example/tenure_of_partitions/tenureofpartitions/ApiKey", "serves", "(S)Z"⟩ : MethodName)) hown (mvT hZ (wdx hw 14 rfl)) (mvT hZ (wdx hw 15 rfl)) (notFace_of_selects (args := #[]) (mvT hZ (wdx hw 17 rfl))) (mvT hZ (wdx hw 17 rfl)) (mvT hZ (wdx hw 16 rfl)) (by decide) (backOf (W := 0) (rm4 l Z a0 hw [] a_LIST_GROUPS (vv.toInt16.toInt32) (0 : Int32) (0 : Int32) h0 n0 O0 F_LIST_GROUPS_minVersion F_LIST_GROUPS_maxVersion) hZ (wdx hw 18 rfl) (wdx hw 6 rfl) (by decide) (by decide)) q140a q140c (g := (mkF m 53 #[.val (.int kk), .val (.int vv), .val (.int (12 : Int32)), .val (.ref a_LIST_GROUPS), .val (.int (vv.toInt16.toInt32)), .val (.int (0 : Int32)), .val (.int (0 : Int32)), .val (.int (0 : Int32))] [(.int (vv.toInt16.toInt32)), (.ref a_LIST_GROUPS)])) rfl (by rw [hml]; rfl) (Steps.refl _) (argsL := [(.int (vv.toInt16.toInt32))]) (rest := []) (lenOf pd__S_Z rfl) rfl (by show 2 * 0 + _ ≤ _; exact Nat.le_of_eq rfl) (hb hby at_53) (fun _ _ => ⟨rfl, eq135, (by exact Nat.le_of_ble_eq_true rfl), (by exact Nat.le_of_ble_eq_true rfl)⟩)
        dsimp only [Pt.U, Pt.locs, Pt.cells, Pt.slots] at X140 l140 y140 z140 st140 hQ140
        subst l140 y140 z140
        obtain ⟨rfl, Nq140, eq140⟩ := hQ140
        have N140 := Fr.app N135 Nq140
        refine Go.tr st140 ?_
        show Go p e below s _ _ _ (T140.setTop (mkF m 56 #[.val (.int kk), .val (.int vv), .val (.int (12 : Int32)), .val (.ref a_LIST_GROUPS), .val (.int (vv.toInt16.toInt32)), .val (.int (0 : Int32)), .val (.int (0 : Int32)), .val (.int (0 : Int32))] [(.int (if (vv.toInt16.toInt32) < (0 : Int32) then (0 : Int32) else if (0 : Int32) < (vv.toInt16.toInt32) then 0 else 1))]))
        refine Go.st (fun _ k' => XS.iload X140.here hx rfl (hb hby at_56) rfl k') ?_
        show Go p e below s _ _ _ (T140.setTop (mkF m 58 #[.val (.int kk), .val (.int vv), .val (.int (12 : Int32)), .val (.ref a_LIST_GROUPS), .val (.int (vv.toInt16.toInt32)), .val (.int (0 : Int32)), .val (.int (0 : Int32)), .val (.int (0 : Int32))] [(.int (0 : Int32)), (.int (if (vv.toInt16.toInt32) < (0 : Int32) then (0 : Int32) else if (0 : Int32) < (vv.toInt16.toInt32) then 0 else 1))]))
        by_cases hc141 : (if (vv.toInt16.toInt32) < (0 : Int32) then (0 : Int32) else if (0 : Int32) < (vv.toInt16.toInt32) then 0 else 1) = (0 : Int32)
        · refine Go.st (fun _ k' => XS.icmpNo X140.here hx rfl (hb hby at_58) rfl (XT.ii_ne_f hc141) k') ?_
          show Go p e below s _ _ _ (T140.setTop (mkF m 61 #[.val (.int kk), .val (.int vv), .val (.int (12 : Int32)), .val (.ref a_LIST_GROUPS), .val (.int (vv.toInt16.toInt32)), .val (.int (0 : Int32)), .val (.int (0 : Int32)), .val (.int (0 : Int32))] []))
          refine Go.st (fun _ k' => XS.iconst X140.here hx rfl (hb hby at_61) k') ?_
          show Go p e below s _ _ _ (T140.setTop (mkF m 62 #[.val (.int kk), .val (.int vv), .val (.int (12 : Int32)), .val (.ref a_LIST_GROUPS), .val (.int (vv.toInt16.toInt32)), .val (.int (0 : Int32)), .val (.int (0 : Int32)), .val (.int (0 : Int32))] [(.int (1 : Int32))]))
          refine Go.st (fun _ k' => XS.goto X140.here hx rfl (pc0 := 62) (pc' := 66) rfl (hb hby at_62) (by decide) (by decide) k') ?_
          show Go p e below s _ _ _ (T140.setTop (mkF m 66 #[.val (.int kk), .val (.int vv), .val (.int (12 : Int32)), .val (.ref a_LIST_GROUPS), .val (.int (vv.toInt16.toInt32)), .val (.int (0 : Int32)), .val (.int (0 : Int32)), .val (.int (0 : Int32))] [(.int (1 : Int32))]))
          refine Go.retB X140 hx hlk (t := .boolean) Bd.returns (by simp) (hb hby at_66) (by decide) (by decide) eq140 ?_
          exact ⟨rfl, N140, trivial⟩
        · refine Go.st (fun _ k' => XS.icmpYes X140.here hx rfl (pc0 := 58) (pc' := 65) rfl (hb hby at_58) rfl (XT.ii_ne_t hc141) (by decide) (by decide) k') ?_
          show Go p e below s _ _ _ (T140.setTop (mkF m 65 #[.val (.int kk), .val (.int vv), .val (.int (12 : Int32)), .val (.ref a_LIST_GROUPS), .val (.int (vv.toInt16.toInt32)), .val (.int (0 : Int32)), .val (.int (0 : Int32)), .val (.int (0 : Int32))] []))
          refine Go.st (fun _ k' => XS.iconst X140.here hx rfl (hb hby at_65) k') ?_
          show Go p e below s _ _ _ (T140.setTop (mkF m 66 #[.val (.int kk), .val (.int vv), .val (.int (12 : Int32)), .val (.ref a_LIST_GROUPS), .val (.int (vv.toInt16.toInt32)), .val (.int (0 : Int32)), .val (.int (0 : Int32)), .val (.int (0 : Int32))] [(.int (0 : Int32))]))
          refine Go.retB X140 hx hlk (t := .boolean) Bd.returns (by simp) (hb hby at_66) (by decide) (by decide) eq140 ?_
          exact absurd (by simp [hc136, hc139]) hc141
      · refine Go.st (fun _ k' => XS.icmpNo X135.here hx rfl (hb hby at_40) rfl (XT.ii_gt_f hc139) k') ?_
        show Go p e below s _ _ _ (T135.setTop (mkF m 43 #[.val (.int kk), .val (.int vv), .val (.int (12 : Int32)), .val (.ref a_LIST_GROUPS), .val (.int (vv.toInt16.toInt32)), .val (.int (0 : Int32)), .val (.int (0 : Int32)), .unset] []))
        refine Go.st (fun _ k' => XS.iconst X135.here hx rfl (hb hby at_43) k') ?_
        show Go p e below s _ _ _ (T135.setTop (mkF m 44 #[.val (.int kk), .val (.int vv), .val (.int (12 : Int32)), .val (.ref a_LIST_GROUPS), .val (.int (vv.toInt16.toInt32)), .val (.int (0 : Int32)), .val (.int (0 : Int32)), .unset] [(.int (1 : Int32))]))
        refine Go.st (fun _ k' => XS.goto X135.here hx rfl (pc0 := 44) (pc' := 48) rfl (hb hby at_44) (by decide) (by decide) k') ?_
        show Go p e below s _ _ _ (T135.setTop (mkF m 48 #[.val (.int kk), .val (.int vv), .val (.int (12 : Int32)), .val (.ref a_LIST_GROUPS), .val (.int (vv.toInt16.toInt32)), .val (.int (0 : Int32)), .val (.int (0 : Int32)), .unset] [(.int (1 : Int32))]))
        refine Go.st (fun _ k' => XS.istore X135.here hx rfl (hb hby at_48) rfl (l' := #[.val (.int kk), .val (.int vv), .val (.int (12 : Int32)), .val (.ref a_LIST_GROUPS), .val (.int (vv.toInt16.toInt32)), .val (.int (0 : Int32)), .val (.int (0 : Int32)), .val (.int (1 : Int32))]) rfl k') ?_
        show Go p e below s _ _ _ (T135.setTop (mkF m 50 #[.val (.int kk), .val (.int vv), .val (.int (12 : Int32)), .val (.ref a_LIST_GROUPS), .val (.int (vv.toInt16.toInt32)), .val (.int (0 : Int32)), .val (.int (0 : Int32)), .val (.int (1 : Int32))] []))
        refine Go.st (fun _ k' => XS.aloadN X135.here hx rfl (hb hby at_50) rfl rfl k') ?_
        show Go p e below s _ _ _ (T135.setTop (mkF m 51 #[.val (.int kk), .val (.int vv), .val (.int (12 : Int32)), .val (.ref a_LIST_GROUPS), .val (.int (vv.toInt16.toInt32)), .val (.int (0 : Int32)), .val (.int (0 : Int32)), .val (.int (1 : Int32))] [(.ref a_LIST_GROUPS)]))
        refine Go.st (fun _ k' => XS.iload X135.here hx rfl (hb hby at_51) rfl k') ?_
        show Go p e below s _ _ _ (T135.setTop (mkF m 53 #[.val (.int kk), .val (.int vv), .val (.int (12 : Int32)), .val (.ref a_LIST_GROUPS), .val (.int (vv.toInt16.toInt32)), .val (.int (0 : Int32)), .val (.int (0 : Int32)), .val (.int (1 : Int32))] [(.int (vv.toInt16.toInt32)), (.ref a_LIST_GROUPS)]))
        obtain ⟨cq142, kq142, q142a, q142b, q142c⟩ := isOf hZ eq135 E_LIST_GROUPS
        obtain ⟨_, _, ⟨T142, L142, k142, n142⟩, -, X142, ⟨Lc142, hQ142, l142, y142, z142⟩, st142⟩ := X135.virtualBack hx (y := (⟨"com/example/tenure_of_partitions/tenureofpartitions/ApiKey", "serves", "(S)Z"⟩ : MethodName)) (z := (⟨"com/example/tenure_of_partitions/tenureofpartitions/ApiKey", "serves", "(S)Z"⟩ : MethodName)) hown (mvT hZ (wdx hw 14 rfl)) (mvT hZ (wdx hw 15 rfl)) (notFace_of_selects (args := #[]) (mvT hZ (wdx hw 17 rfl))) (mvT hZ (wdx hw 17 rfl)) (mvT hZ (wdx hw 16 rfl)) (by decide) (backOf (W := 0) (rm4 l Z a0 hw [] a_LIST_GROUPS (vv.toInt16.toInt32) (0 : Int32) (0 : Int32) h0 n0 O0 F_LIST_GROUPS_minVersion F_LIST_GROUPS_maxVersion) hZ (wdx hw 18 rfl) (wdx hw 6 rfl) (by decide) (by decide)) q142a q142c (g := (mkF m 53 #[.val (.int kk), .val (.int vv), .val (.int (12 : Int32)), .val (.ref a_LIST_GROUPS), .val (.int (vv.toInt16.toInt32)), .val (.int (0 : Int32)), .val (.int (0 : Int32)), .val (.int (1 : Int32))] [(.int (vv.toInt16.toInt32)), (.ref a_LIST_GROUPS)])) rfl (by rw [hml]; rfl) (Steps.refl _) (argsL := [(.int (vv.toInt16.toInt32))]) (rest := []) (lenOf pd__S_Z rfl) rfl (by show 2 * 0 + _ ≤ _; exact Nat.le_of_eq rfl) (hb hby at_53) (fun _ _ => ⟨rfl, eq135, (by exact Nat.le_of_ble_eq_true rfl), (by exact Nat.le_of_ble_eq_true rfl)⟩)
        dsimp only [Pt.U, Pt.locs, Pt.cells, Pt.slots] at X142 l142 y142 z142 st142 hQ142
        subst l142 y142 z142
        obtain ⟨rfl, Nq142, eq142⟩ := hQ142
        have N142 := Fr.app N135 Nq142
        refine Go.tr st142 ?_
        show Go p e below s _ _ _ (T142.setTop (mkF m 56 #[.val (.int kk), .val (.int vv), .val (.int (12 : Int32)), .val (.ref a_LIST_GROUPS), .val (.int (vv.toInt16.toInt32)), .val (.int (0 : Int32)), .val (.int (0 : Int32)), .val (.int (1 : Int32))] [(.int (if (vv.toInt16.toInt32) < (0 : Int32) then (0 : Int32) else if (0 : Int32) < (vv.toInt16.toInt32) then 0 else 1))]))
        refine Go.st (fun _ k' => XS.iload X142.here hx rfl (hb hby at_56) rfl k') ?_
        show Go p e below s _ _ _ (T142.setTop (mkF m 58 #[.val (.int kk), .val (.int vv), .val (.int (12 : Int32)), .val (.ref a_LIST_GROUPS), .val (.int (vv.toInt16.toInt32)), .val (.int (0 : Int32)), .val (.int (0 : Int32)), .val (.int (1 : Int32))] [(.int (1 : Int32)), (.int (if (vv.toInt16.toInt32) < (0 : Int32) then (0 : Int32) else if (0 : Int32) < (vv.toInt16.toInt32) then 0 else 1))]))
        by_cases hc143 : (if (vv.toInt16.toInt32) < (0 : Int32) then (0 : Int32) else if (0 : Int32) < (vv.toInt16.toInt32) then 0 else 1) = (1 : Int32)
        · refine Go.st (fun _ k' => XS.icmpNo X142.here hx rfl (hb hby at_58) rfl (XT.ii_ne_f hc143) k') ?_
          show Go p e below s _ _ _ (T142.setTop (mkF m 61 #[.val (.int kk), .val (.int vv), .val (.int (12 : Int32)), .val (.ref a_LIST_GROUPS), .val (.int (vv.toInt16.toInt32)), .val (.int (0 : Int32)), .val (.int (0 : Int32)), .val (.int (1 : Int32))] []))
          refine Go.st (fun _ k' => XS.iconst X142.here hx rfl (hb hby at_61) k') ?_
          show Go p e below s _ _ _ (T142.setTop (mkF m 62 #[.val (.int kk), .val (.int vv), .val (.int (12 : Int32)), .val (.ref a_LIST_GROUPS), .val (.int (vv.toInt16.toInt32)), .val (.int (0 : Int32)), .val (.int (0 : Int32)), .val (.int (1 : Int32))] [(.int (1 : Int32))]))
          refine Go.st (fun _ k' => XS.goto X142.here hx rfl (pc0 := 62) (pc' := 66) rfl (hb hby at_62) (by decide) (by decide) k') ?_
          show Go p e below s _ _ _ (T142.setTop (mkF m 66 #[.val (.int kk), .val (.int vv), .val (.int (12 : Int32)), .val (.ref a_LIST_GROUPS), .val (.int (vv.toInt16.toInt32)), .val (.int (0 : Int32)), .val (.int (0 : Int32)), .val (.int (1 : Int32))] [(.int (1 : Int32))]))
          refine Go.retB X142 hx hlk (t := .boolean) Bd.returns (by simp) (hb hby at_66) (by decide) (by decide) eq142 ?_
          exact ⟨rfl, N142, trivial⟩
        · refine Go.st (fun _ k' => XS.icmpYes X142.here hx rfl (pc0 := 58) (pc' := 65) rfl (hb hby at_58) rfl (XT.ii_ne_t hc143) (by decide) (by decide) k') ?_
          show Go p e below s _ _ _ (T142.setTop (mkF m 65 #[.val (.int kk), .val (.int vv), .val (.int (12 : Int32)), .val (.ref a_LIST_GROUPS), .val (.int (vv.toInt16.toInt32)), .val (.int (0 : Int32)), .val (.int (0 : Int32)), .val (.int (1 : Int32))] []))
          refine Go.st (fun _ k' => XS.iconst X142.here hx rfl (hb hby at_65) k') ?_
          show Go p e below s _ _ _ (T142.setTop (mkF m 66 #[.val (.int kk), .val (.int vv), .val (.int (12 : Int32)), .val (.ref a_LIST_GROUPS), .val (.int (vv.toInt16.toInt32)), .val (.int (0 : Int32)), .val (.int (0 : Int32)), .val (.int (1 : Int32))] [(.int (0 : Int32))]))
          refine Go.retB X142 hx hlk (t := .boolean) Bd.returns (by simp) (hb hby at_66) (by decide) (by decide) eq142 ?_
          exact absurd (by simp [hc136, hc139]) hc143
  · rw [hi]
    show Go p e below s _ _ _ (s₁.setTop (mkF m 8 #[.val (.int kk), .val (.int vv), .val (.int (13 : Int32)), .unset, .unset, .unset, .unset, .unset] []))
    refine Go.st (fun _ k' => XS.iloadN X0.here hx rfl (hb hby at_8) rfl k') ?_
    show Go p e below s _ _ _ (s₁.setTop (mkF m 9 #[.val (.int kk), .val (.int vv), .val (.int (13 : Int32)), .unset, .unset, .unset, .unset, .unset] [(.int (13 : Int32))]))
    obtain ⟨_, _, ⟨T144, L144, k144, n144⟩, -, X144, ⟨Lc144, hQ144, l144, y144, z144⟩, st144⟩ := Jvm.LawKit.callS X0 hx (y := (⟨"com/example/tenure_of_partitions/tenureofpartitions/ApiKeyServesPinLaw", "pick", "(I)Lcom/example/tenure_of_partitions/tenureofpartitions/ApiKey;"⟩ : MethodName)) hown (mvT hZ (wdx hw 1 rfl)) (mvT hZ (wdx hw 2 rfl)) (mvT hZ (wdx hw 3 rfl)) (mvT hZ (wdx hw 4 rfl)) (by decide) (backOf (W := 0) (rm1 l Z a0 hw [] (13 : Int32) a_PRODUCE a_FETCH a_LIST_OFFSETS a_METADATA a_OFFSET_COMMIT a_OFFSET_FETCH a_FIND_COORDINATOR a_JOIN_GROUP a_HEARTBEAT a_LEAVE_GROUP a_SYNC_GROUP a_DESCRIBE_GROUPS a_LIST_GROUPS a_API_VERSIONS h0 n0 O0 S_PRODUCE S_FETCH S_LIST_OFFSETS S_METADATA S_OFFSET_COMMIT S_OFFSET_FETCH S_FIND_COORDINATOR S_JOIN_GROUP S_HEARTBEAT S_LEAVE_GROUP S_SYNC_GROUP S_DESCRIBE_GROUPS S_LIST_GROUPS S_API_VERSIONS) hZ (wdx hw 4 rfl) (wdx hw 3 rfl) (by decide) (by decide)) (g := (mkF m 9 #[.val (.int kk), .val (.int vv), .val (.int (13 : Int32)), .unset, .unset, .unset, .unset, .unset] [(.int (13 : Int32))])) rfl (by rw [hml]; rfl) (argsL := [(.int (13 : Int32))]) (rest := []) (lenOf pd__I_Lcom_example_tenure_of_partitions_tenureofpartitions_ApiKey_ rfl) rfl (by show 2 * 0 + _ ≤ _; exact Nat.le_of_eq rfl) (hb hby at_9) (fun _ _ => ⟨rfl, e0, (by exact Nat.le_of_ble_eq_true rfl), (by exact Nat.le_of_ble_eq_true rfl)⟩)
    dsimp only [Pt.U, Pt.locs, Pt.cells, Pt.slots] at X144 l144 y144 z144 st144 hQ144
    subst l144 y144 z144
    obtain ⟨rfl, Nq144, eq144⟩ := hQ144
    have N144 := Fr.app N0 Nq144
    refine Go.st st144 ?_
    show Go p e below s _ _ _ (T144.setTop (mkF m 12 #[.val (.int kk), .val (.int vv), .val (.int (13 : Int32)), .unset, .unset, .unset, .unset, .unset] [(.ref (fpick (13 : Int32) a_PRODUCE a_FETCH a_LIST_OFFSETS a_METADATA a_OFFSET_COMMIT a_OFFSET_FETCH a_FIND_COORDINATOR a_JOIN_GROUP a_HEARTBEAT a_LEAVE_GROUP a_SYNC_GROUP a_DESCRIBE_GROUPS a_LIST_GROUPS a_API_VERSIONS))]))
    show Go p e below s _ _ _ (T144.setTop (mkF m 12 #[.val (.int kk), .val (.int vv), .val (.int (13 : Int32)), .unset, .unset, .unset, .unset, .unset] [(.ref a_API_VERSIONS)]))
    refine Go.st (fun _ k' => XS.astoreN X144.here hx rfl (hb hby at_12) rfl rfl (l' := #[.val (.int kk), .val (.int vv), .val (.int (13 : Int32)), .val (.ref a_API_VERSIONS), .unset, .unset, .unset, .unset]) rfl k') ?_
    show Go p e below s _ _ _ (T144.setTop (mkF m 13 #[.val (.int kk), .val (.int vv), .val (.int (13 : Int32)), .val (.ref a_API_VERSIONS), .unset, .unset, .unset, .unset] []))
    refine Go.st (fun _ k' => XS.iloadN X144.here hx rfl (hb hby at_13) rfl k') ?_
    show Go p e below s _ _ _ (T144.setTop (mkF m 14 #[.val (.int kk), .val (.int vv), .val (.int (13 : Int32)), .val (.ref a_API_VERSIONS), .unset, .unset, .unset, .unset] [(.int vv)]))
    refine Go.st (fun _ k' => XS.i2s X144.here hx rfl (hb hby at_14) rfl k') ?_
    show Go p e below s _ _ _ (T144.setTop (mkF m 15 #[.val (.int kk), .val (.int vv), .val (.int (13 : Int32)), .val (.ref a_API_VERSIONS), .unset, .unset, .unset, .unset] [(.int (vv.toInt16.toInt32))]))
    refine Go.st (fun _ k' => XS.istore X144.here hx rfl (hb hby at_15) rfl (l' := #[.val (.int kk), .val (.int vv), .val (.int (13 : Int32)), .val (.ref a_API_VERSIONS), .val (.int (vv.toInt16.toInt32)), .unset, .unset, .unset]) rfl k') ?_
    show Go p e below s _ _ _ (T144.setTop (mkF m 17 #[.val (.int kk), .val (.int vv), .val (.int (13 : Int32)), .val (.ref a_API_VERSIONS), .val (.int (vv.toInt16.toInt32)), .unset, .unset, .unset] []))
    refine Go.st (fun _ k' => XS.iloadN X144.here hx rfl (hb hby at_17) rfl k') ?_
    show Go p e below s _ _ _ (T144.setTop (mkF m 18 #[.val (.int kk), .val (.int vv), .val (.int (13 : Int32)), .val (.ref a_API_VERSIONS), .val (.int (vv.toInt16.toInt32)), .unset, .unset, .unset] [(.int (13 : Int32))]))
    obtain ⟨_, _, ⟨T145, L145, k145, n145⟩, -, X145, ⟨Lc145, hQ145, l145, y145, z145⟩, st145⟩ := Jvm.LawKit.callS X144 hx (y := (⟨"com/example/tenure_of_partitions/tenureofpartitions/ApiKeyServesPinLaw", "lo", "(I)I"⟩ : MethodName)) hown (mvT hZ (wdx hw 8 rfl)) (mvT hZ (wdx hw 9 rfl)) (mvT hZ (wdx hw 3 rfl)) (mvT hZ (wdx hw 10 rfl)) (by decide) (backOf (W := 0) (rm2 l Z a0 hw [] (13 : Int32) h0 n0 O0 ) hZ (wdx hw 10 rfl) (wdx hw 3 rfl) (by decide) (by decide)) (g := (mkF m 18 #[.val (.int kk), .val (.int vv), .val (.int (13 : Int32)), .val (.ref a_API_VERSIONS), .val (.int (vv.toInt16.toInt32)), .unset, .unset, .unset] [(.int (13 : Int32))])) rfl (by rw [hml]; rfl) (argsL := [(.int (13 : Int32))]) (rest := []) (lenOf pd__I_I rfl) rfl (by show 2 * 0 + _ ≤ _; exact Nat.le_of_eq rfl) (hb hby at_18) (fun _ _ => ⟨rfl, eq144, (by exact Nat.le_of_ble_eq_true rfl), (by exact Nat.le_of_ble_eq_true rfl)⟩)
    dsimp only [Pt.U, Pt.locs, Pt.cells, Pt.slots] at X145 l145 y145 z145 st145 hQ145
    subst l145 y145 z145
    obtain ⟨rfl, Nq145, eq145⟩ := hQ145
    have N145 := Fr.app N144 Nq145
    refine Go.st st145 ?_
    show Go p e below s _ _ _ (T145.setTop (mkF m 21 #[.val (.int kk), .val (.int vv), .val (.int (13 : Int32)), .val (.ref a_API_VERSIONS), .val (.int (vv.toInt16.toInt32)), .unset, .unset, .unset] [(.int (flo (13 : Int32)))]))
    show Go p e below s _ _ _ (T145.setTop (mkF m 21 #[.val (.int kk), .val (.int vv), .val (.int (13 : Int32)), .val (.ref a_API_VERSIONS), .val (.int (vv.toInt16.toInt32)), .unset, .unset, .unset] [(.int (0 : Int32))]))
    refine Go.st (fun _ k' => XS.istore X145.here hx rfl (hb hby at_21) rfl (l' := #[.val (.int kk), .val (.int vv), .val (.int (13 : Int32)), .val (.ref a_API_VERSIONS), .val (.int (vv.toInt16.toInt32)), .val (.int (0 : Int32)), .unset, .unset]) rfl k') ?_
    show Go p e below s _ _ _ (T145.setTop (mkF m 23 #[.val (.int kk), .val (.int vv), .val (.int (13 : Int32)), .val (.ref a_API_VERSIONS), .val (.int (vv.toInt16.toInt32)), .val (.int (0 : Int32)), .unset, .unset] []))
    refine Go.st (fun _ k' => XS.iloadN X145.here hx rfl (hb hby at_23) rfl k') ?_
    show Go p e below s _ _ _ (T145.setTop (mkF m 24 #[.val (.int kk), .val (.int vv), .val (.int (13 : Int32)), .val (.ref a_API_VERSIONS), .val (.int (vv.toInt16.toInt32)), .val (.int (0 : Int32)), .unset, .unset] [(.int (13 : Int32))]))
    obtain ⟨_, _, ⟨T146, L146, k146, n146⟩, -, X146, ⟨Lc146, hQ146, l146, y146, z146⟩, st146⟩ := Jvm.LawKit.callS X145 hx (y := (⟨"com/example/tenure_of_partitions/tenureofpartitions/ApiKeyServesPinLaw", "hi", "(I)I"⟩ : MethodName)) hown (mvT hZ (wdx hw 11 rfl)) (mvT hZ (wdx hw 12 rfl)) (mvT hZ (wdx hw 3 rfl)) (mvT hZ (wdx hw 13 rfl)) (by decide) (backOf (W := 0) (rm3 l Z a0 hw [] (13 : Int32) h0 n0 O0 ) hZ (wdx hw 13 rfl) (wdx hw 3 rfl) (by decide) (by decide)) (g := (mkF m 24 #[.val (.int kk), .val (.int vv), .val (.int (13 : Int32)), .val (.ref a_API_VERSIONS), .val (.int (vv.toInt16.toInt32)), .val (.int (0 : Int32)), .unset, .unset] [(.int (13 : Int32))])) rfl (by rw [hml]; rfl) (argsL := [(.int (13 : Int32))]) (rest := []) (lenOf pd__I_I rfl) rfl (by show 2 * 0 + _ ≤ _; exact Nat.le_of_eq rfl) (hb hby at_24) (fun _ _ => ⟨rfl, eq145, (by exact Nat.le_of_ble_eq_true rfl), (by exact Nat.le_of_ble_eq_true rfl)⟩)
    dsimp only [Pt.U, Pt.locs, Pt.cells, Pt.slots] at X146 l146 y146 z146 st146 hQ146
    subst l146 y146 z146
    obtain ⟨rfl, Nq146, eq146⟩ := hQ146
    have N146 := Fr.app N145 Nq146
    refine Go.st st146 ?_
    show Go p e below s _ _ _ (T146.setTop (mkF m 27 #[.val (.int kk), .val (.int vv), .val (.int (13 : Int32)), .val (.ref a_API_VERSIONS), .val (.int (vv.toInt16.toInt32)), .val (.int (0 : Int32)), .unset, .unset] [(.int (fhi (13 : Int32)))]))
    show Go p e below s _ _ _ (T146.setTop (mkF m 27 #[.val (.int kk), .val (.int vv), .val (.int (13 : Int32)), .val (.ref a_API_VERSIONS), .val (.int (vv.toInt16.toInt32)), .val (.int (0 : Int32)), .unset, .unset] [(.int (3 : Int32))]))
    refine Go.st (fun _ k' => XS.istore X146.here hx rfl (hb hby at_27) rfl (l' := #[.val (.int kk), .val (.int vv), .val (.int (13 : Int32)), .val (.ref a_API_VERSIONS), .val (.int (vv.toInt16.toInt32)), .val (.int (0 : Int32)), .val (.int (3 : Int32)), .unset]) rfl k') ?_
    show Go p e below s _ _ _ (T146.setTop (mkF m 29 #[.val (.int kk), .val (.int vv), .val (.int (13 : Int32)), .val (.ref a_API_VERSIONS), .val (.int (vv.toInt16.toInt32)), .val (.int (0 : Int32)), .val (.int (3 : Int32)), .unset] []))
    refine Go.st (fun _ k' => XS.iload X146.here hx rfl (hb hby at_29) rfl k') ?_
    show Go p e below s _ _ _ (T146.setTop (mkF m 31 #[.val (.int kk), .val (.int vv), .val (.int (13 : Int32)), .val (.ref a_API_VERSIONS), .val (.int (vv.toInt16.toInt32)), .val (.int (0 : Int32)), .val (.int (3 : Int32)), .unset] [(.int (vv.toInt16.toInt32))]))
    refine Go.st (fun _ k' => XS.iload X146.here hx rfl (hb hby at_31) rfl k') ?_
    show Go p e below s _ _ _ (T146.setTop (mkF m 33 #[.val (.int kk), .val (.int vv), .val (.int (13 : Int32)), .val (.ref a_API_VERSIONS), .val (.int (vv.toInt16.toInt32)), .val (.int (0 : Int32)), .val (.int (3 : Int32)), .unset] [(.int (0 : Int32)), (.int (vv.toInt16.toInt32))]))
    by_cases hc147 : (vv.toInt16.toInt32) < (0 : Int32)
    · refine Go.st (fun _ k' => XS.icmpYes X146.here hx rfl (pc0 := 33) (pc' := 47) rfl (hb hby at_33) rfl (XT.ii_lt_t hc147) (by decide) (by decide) k') ?_
      show Go p e below s _ _ _ (T146.setTop (mkF m 47 #[.val (.int kk), .val (.int vv), .val (.int (13 : Int32)), .val (.ref a_API_VERSIONS), .val (.int (vv.toInt16.toInt32)), .val (.int (0 : Int32)), .val (.int (3 : Int32)), .unset] []))
      refine Go.st (fun _ k' => XS.iconst X146.here hx rfl (hb hby at_47) k') ?_
      show Go p e below s _ _ _ (T146.setTop (mkF m 48 #[.val (.int kk), .val (.int vv), .val (.int (13 : Int32)), .val (.ref a_API_VERSIONS), .val (.int (vv.toInt16.toInt32)), .val (.int (0 : Int32)), .val (.int (3 : Int32)), .unset] [(.int (0 : Int32))]))
      refine Go.st (fun _ k' => XS.istore X146.here hx rfl (hb hby at_48) rfl (l' := #[.val (.int kk), .val (.int vv), .val (.int (13 : Int32)), .val (.ref a_API_VERSIONS), .val (.int (vv.toInt16.toInt32)), .val (.int (0 : Int32)), .val (.int (3 : Int32)), .val (.int (0 : Int32))]) rfl k') ?_
      show Go p e below s _ _ _ (T146.setTop (mkF m 50 #[.val (.int kk), .val (.int vv), .val (.int (13 : Int32)), .val (.ref a_API_VERSIONS), .val (.int (vv.toInt16.toInt32)), .val (.int (0 : Int32)), .val (.int (3 : Int32)), .val (.int (0 : Int32))] []))
      refine Go.st (fun _ k' => XS.aloadN X146.here hx rfl (hb hby at_50) rfl rfl k') ?_
      show Go p e below s _ _ _ (T146.setTop (mkF m 51 #[.val (.int kk), .val (.int vv), .val (.int (13 : Int32)), .val (.ref a_API_VERSIONS), .val (.int (vv.toInt16.toInt32)), .val (.int (0 : Int32)), .val (.int (3 : Int32)), .val (.int (0 : Int32))] [(.ref a_API_VERSIONS)]))
      refine Go.st (fun _ k' => XS.iload X146.here hx rfl (hb hby at_51) rfl k') ?_
      show Go p e below s _ _ _ (T146.setTop (mkF m 53 #[.val (.int kk), .val (.int vv), .val (.int (13 : Int32)), .val (.ref a_API_VERSIONS), .val (.int (vv.toInt16.toInt32)), .val (.int (0 : Int32)), .val (.int (3 : Int32)), .val (.int (0 : Int32))] [(.int (vv.toInt16.toInt32)), (.ref a_API_VERSIONS)]))
      obtain ⟨cq148, kq148, q148a, q148b, q148c⟩ := isOf hZ eq146 E_API_VERSIONS
      obtain ⟨_, _, ⟨T148, L148, k148, n148⟩, -, X148, ⟨Lc148, hQ148, l148, y148, z148⟩, st148⟩ := X146.virtualBack hx (y := (⟨"com/example/tenure_of_partitions/tenureofpartitions/ApiKey", "serves", "(S)Z"⟩ : MethodName)) (z := (⟨"com/example/tenure_of_partitions/tenureofpartitions/ApiKey", "serves", "(S)Z"⟩ : MethodName)) hown (mvT hZ (wdx hw 14 rfl)) (mvT hZ (wdx hw 15 rfl)) (notFace_of_selects (args := #[]) (mvT hZ (wdx hw 17 rfl))) (mvT hZ (wdx hw 17 rfl)) (mvT hZ (wdx hw 16 rfl)) (by decide) (backOf (W := 0) (rm4 l Z a0 hw [] a_API_VERSIONS (vv.toInt16.toInt32) (0 : Int32) (3 : Int32) h0 n0 O0 F_API_VERSIONS_minVersion F_API_VERSIONS_maxVersion) hZ (wdx hw 18 rfl) (wdx hw 6 rfl) (by decide) (by decide)) q148a q148c (g := (mkF m 53 #[.val (.int kk), .val (.int vv), .val (.int (13 : Int32)), .val (.ref a_API_VERSIONS), .val (.int (vv.toInt16.toInt32)), .val (.int (0 : Int32)), .val (.int (3 : Int32)), .val (.int (0 : Int32))] [(.int (vv.toInt16.toInt32)), (.ref a_API_VERSIONS)])) rfl (by rw [hml]; rfl) (Steps.refl _) (argsL := [(.int (vv.toInt16.toInt32))]) (rest := []) (lenOf pd__S_Z rfl) rfl (by show 2 * 0 + _ ≤ _; exact Nat.le_of_eq rfl) (hb hby at_53) (fun _ _ => ⟨rfl, eq146, (by exact Nat.le_of_ble_eq_true rfl), (by exact Nat.le_of_ble_eq_true rfl)⟩)
      dsimp only [Pt.U, Pt.locs, Pt.cells, Pt.slots] at X148 l148 y148 z148 st148 hQ148
      subst l148 y148 z148
      obtain ⟨rfl, Nq148, eq148⟩ := hQ148
      have N148 := Fr.app N146 Nq148
      refine Go.tr st148 ?_
      show Go p e below s _ _ _ (T148.setTop (mkF m 56 #[.val (.int kk), .val (.int vv), .val (.int (13 : Int32)), .val (.ref a_API_VERSIONS), .val (.int (vv.toInt16.toInt32)), .val (.int (0 : Int32)), .val (.int (3 : Int32)), .val (.int (0 : Int32))] [(.int (if (vv.toInt16.toInt32) < (0 : Int32) then (0 : Int32) else if (3 : Int32) < (vv.toInt16.toInt32) then 0 else 1))]))
      refine Go.st (fun _ k' => XS.iload X148.here hx rfl (hb hby at_56) rfl k') ?_
      show Go p e below s _ _ _ (T148.setTop (mkF m 58 #[.val (.int kk), .val (.int vv), .val (.int (13 : Int32)), .val (.ref a_API_VERSIONS), .val (.int (vv.toInt16.toInt32)), .val (.int (0 : Int32)), .val (.int (3 : Int32)), .val (.int (0 : Int32))] [(.int (0 : Int32)), (.int (if (vv.toInt16.toInt32) < (0 : Int32) then (0 : Int32) else if (3 : Int32) < (vv.toInt16.toInt32) then 0 else 1))]))
      by_cases hc149 : (if (vv.toInt16.toInt32) < (0 : Int32) then (0 : Int32) else if (3 : Int32) < (vv.toInt16.toInt32) then 0 else 1) = (0 : Int32)
      · refine Go.st (fun _ k' => XS.icmpNo X148.here hx rfl (hb hby at_58) rfl (XT.ii_ne_f hc149) k') ?_
        show Go p e below s _ _ _ (T148.setTop (mkF m 61 #[.val (.int kk), .val (.int vv), .val (.int (13 : Int32)), .val (.ref a_API_VERSIONS), .val (.int (vv.toInt16.toInt32)), .val (.int (0 : Int32)), .val (.int (3 : Int32)), .val (.int (0 : Int32))] []))
        refine Go.st (fun _ k' => XS.iconst X148.here hx rfl (hb hby at_61) k') ?_
        show Go p e below s _ _ _ (T148.setTop (mkF m 62 #[.val (.int kk), .val (.int vv), .val (.int (13 : Int32)), .val (.ref a_API_VERSIONS), .val (.int (vv.toInt16.toInt32)), .val (.int (0 : Int32)), .val (.int (3 : Int32)), .val (.int (0 : Int32))] [(.int (1 : Int32))]))
        refine Go.st (fun _ k' => XS.goto X148.here hx rfl (pc0 := 62) (pc' := 66) rfl (hb hby at_62) (by decide) (by decide) k') ?_
        show Go p e below s _ _ _ (T148.setTop (mkF m 66 #[.val (.int kk), .val (.int vv), .val (.int (13 : Int32)), .val (.ref a_API_VERSIONS), .val (.int (vv.toInt16.toInt32)), .val (.int (0 : Int32)), .val (.int (3 : Int32)), .val (.int (0 : Int32))] [(.int (1 : Int32))]))
        refine Go.retB X148 hx hlk (t := .boolean) Bd.returns (by simp) (hb hby at_66) (by decide) (by decide) eq148 ?_
        exact ⟨rfl, N148, trivial⟩
      · refine Go.st (fun _ k' => XS.icmpYes X148.here hx rfl (pc0 := 58) (pc' := 65) rfl (hb hby at_58) rfl (XT.ii_ne_t hc149) (by decide) (by decide) k') ?_
        show Go p e below s _ _ _ (T148.setTop (mkF m 65 #[.val (.int kk), .val (.int vv), .val (.int (13 : Int32)), .val (.ref a_API_VERSIONS), .val (.int (vv.toInt16.toInt32)), .val (.int (0 : Int32)), .val (.int (3 : Int32)), .val (.int (0 : Int32))] []))
        refine Go.st (fun _ k' => XS.iconst X148.here hx rfl (hb hby at_65) k') ?_
        show Go p e below s _ _ _ (T148.setTop (mkF m 66 #[.val (.int kk), .val (.int vv), .val (.int (13 : Int32)), .val (.ref a_API_VERSIONS), .val (.int (vv.toInt16.toInt32)), .val (.int (0 : Int32)), .val (.int (3 : Int32)), .val (.int (0 : Int32))] [(.int (0 : Int32))]))
        refine Go.retB X148 hx hlk (t := .boolean) Bd.returns (by simp) (hb hby at_66) (by decide) (by decide) eq148 ?_
        exact absurd (by simp [hc147]) hc149
    · refine Go.st (fun _ k' => XS.icmpNo X146.here hx rfl (hb hby at_33) rfl (XT.ii_lt_f hc147) k') ?_
      show Go p e below s _ _ _ (T146.setTop (mkF m 36 #[.val (.int kk), .val (.int vv), .val (.int (13 : Int32)), .val (.ref a_API_VERSIONS), .val (.int (vv.toInt16.toInt32)), .val (.int (0 : Int32)), .val (.int (3 : Int32)), .unset] []))
      refine Go.st (fun _ k' => XS.iload X146.here hx rfl (hb hby at_36) rfl k') ?_
      show Go p e below s _ _ _ (T146.setTop (mkF m 38 #[.val (.int kk), .val (.int vv), .val (.int (13 : Int32)), .val (.ref a_API_VERSIONS), .val (.int (vv.toInt16.toInt32)), .val (.int (0 : Int32)), .val (.int (3 : Int32)), .unset] [(.int (vv.toInt16.toInt32))]))
      refine Go.st (fun _ k' => XS.iload X146.here hx rfl (hb hby at_38) rfl k') ?_
      show Go p e below s _ _ _ (T146.setTop (mkF m 40 #[.val (.int kk), .val (.int vv), .val (.int (13 : Int32)), .val (.ref a_API_VERSIONS), .val (.int (vv.toInt16.toInt32)), .val (.int (0 : Int32)), .val (.int (3 : Int32)), .unset] [(.int (3 : Int32)), (.int (vv.toInt16.toInt32))]))
      by_cases hc150 : (3 : Int32) < (vv.toInt16.toInt32)
      · refine Go.st (fun _ k' => XS.icmpYes X146.here hx rfl (pc0 := 40) (pc' := 47) rfl (hb hby at_40) rfl (XT.ii_gt_t hc150) (by decide) (by decide) k') ?_
        show Go p e below s _ _ _ (T146.setTop (mkF m 47 #[.val (.int kk), .val (.int vv), .val (.int (13 : Int32)), .val (.ref a_API_VERSIONS), .val (.int (vv.toInt16.toInt32)), .val (.int (0 : Int32)), .val (.int (3 : Int32)), .unset] []))
        refine Go.st (fun _ k' => XS.iconst X146.here hx rfl (hb hby at_47) k') ?_
        show Go p e below s _ _ _ (T146.setTop (mkF m 48 #[.val (.int kk), .val (.int vv), .val (.int (13 : Int32)), .val (.ref a_API_VERSIONS), .val (.int (vv.toInt16.toInt32)), .val (.int (0 : Int32)), .val (.int (3 : Int32)), .unset] [(.int (0 : Int32))]))
        refine Go.st (fun _ k' => XS.istore X146.here hx rfl (hb hby at_48) rfl (l' := #[.val (.int kk), .val (.int vv), .val (.int (13 : Int32)), .val (.ref a_API_VERSIONS), .val (.int (vv.toInt16.toInt32)), .val (.int (0 : Int32)), .val (.int (3 : Int32)), .val (.int (0 : Int32))]) rfl k') ?_
        show Go p e below s _ _ _ (T146.setTop (mkF m 50 #[.val (.int kk), .val (.int vv), .val (.int (13 : Int32)), .val (.ref a_API_VERSIONS), .val (.int (vv.toInt16.toInt32)), .val (.int (0 : Int32)), .val (.int (3 : Int32)), .val (.int (0 : Int32))] []))
        refine Go.st (fun _ k' => XS.aloadN X146.here hx rfl (hb hby at_50) rfl rfl k') ?_
        show Go p e below s _ _ _ (T146.setTop (mkF m 51 #[.val (.int kk), .val (.int vv), .val (.int (13 : Int32)), .val (.ref a_API_VERSIONS), .val (.int (vv.toInt16.toInt32)), .val (.int (0 : Int32)), .val (.int (3 : Int32)), .val (.int (0 : Int32))] [(.ref a_API_VERSIONS)]))
        refine Go.st (fun _ k' => XS.iload X146.here hx rfl (hb hby at_51) rfl k') ?_
        show Go p e below s _ _ _ (T146.setTop (mkF m 53 #[.val (.int kk), .val (.int vv), .val (.int (13 : Int32)), .val (.ref a_API_VERSIONS), .val (.int (vv.toInt16.toInt32)), .val (.int (0 : Int32)), .val (.int (3 : Int32)), .val (.int (0 : Int32))] [(.int (vv.toInt16.toInt32)), (.ref a_API_VERSIONS)]))
        obtain ⟨cq151, kq151, q151a, q151b, q151c⟩ := isOf hZ eq146 E_API_VERSIONS
        obtain ⟨_, _, ⟨T151, L151, k151, n151⟩, -, X151, ⟨Lc151, hQ151, l151, y151, z151⟩, st151⟩ := X146.virtualBack hx (y := (⟨"com/example/tenure_of_partitions/tenureofpartitions/ApiKey", "serves", "(S)Z"⟩ : MethodName)) (z := (⟨"com/example/tenure_of_partitions/tenureofpartitions/ApiKey", "serves", "(S)Z"⟩ : MethodName)) hown (mvT hZ (wdx hw 14 rfl)) (mvT hZ (wdx hw 15 rfl)) (notFace_of_selects (args := #[]) (mvT hZ (wdx hw 17 rfl))) (mvT hZ (wdx hw 17 rfl)) (mvT hZ (wdx hw 16 rfl)) (by decide) (backOf (W := 0) (rm4 l Z a0 hw [] a_API_VERSIONS (vv.toInt16.toInt32) (0 : Int32) (3 : Int32) h0 n0 O0 F_API_VERSIONS_minVersion F_API_VERSIONS_maxVersion) hZ (wdx hw 18 rfl) (wdx hw 6 rfl) (by decide) (by decide)) q151a q151c (g := (mkF m 53 #[.val (.int kk), .val (.int vv), .val (.int (13 : Int32)), .val (.ref a_API_VERSIONS), .val (.int (vv.toInt16.toInt32)), .val (.int (0 : Int32)), .val (.int (3 : Int32)), .val (.int (0 : Int32))] [(.int (vv.toInt16.toInt32)), (.ref a_API_VERSIONS)])) rfl (by rw [hml]; rfl) (Steps.refl _) (argsL := [(.int (vv.toInt16.toInt32))]) (rest := []) (lenOf pd__S_Z rfl) rfl (by show 2 * 0 + _ ≤ _; exact Nat.le_of_eq rfl) (hb hby at_53) (fun _ _ => ⟨rfl, eq146, (by exact Nat.le_of_ble_eq_true rfl), (by exact Nat.le_of_ble_eq_true rfl)⟩)
        dsimp only [Pt.U, Pt.locs, Pt.cells, Pt.slots] at X151 l151 y151 z151 st151 hQ151
        subst l151 y151 z151
        obtain ⟨rfl, Nq151, eq151⟩ := hQ151
        have N151 := Fr.app N146 Nq151
        refine Go.tr st151 ?_
        show Go p e below s _ _ _ (T151.setTop (mkF m 56 #[.val (.int kk), .val (.int vv), .val (.int (13 : Int32)), .val (.ref a_API_VERSIONS), .val (.int (vv.toInt16.toInt32)), .val (.int (0 : Int32)), .val (.int (3 : Int32)), .val (.int (0 : Int32))] [(.int (if (vv.toInt16.toInt32) < (0 : Int32) then (0 : Int32) else if (3 : Int32) < (vv.toInt16.toInt32) then 0 else 1))]))
        refine Go.st (fun _ k' => XS.iload X151.here hx rfl (hb hby at_56) rfl k') ?_
        show Go p e below s _ _ _ (T151.setTop (mkF m 58 #[.val (.int kk), .val (.int vv), .val (.int (13 : Int32)), .val (.ref a_API_VERSIONS), .val (.int (vv.toInt16.toInt32)), .val (.int (0 : Int32)), .val (.int (3 : Int32)), .val (.int (0 : Int32))] [(.int (0 : Int32)), (.int (if (vv.toInt16.toInt32) < (0 : Int32) then (0 : Int32) else if (3 : Int32) < (vv.toInt16.toInt32) then 0 else 1))]))
        by_cases hc152 : (if (vv.toInt16.toInt32) < (0 : Int32) then (0 : Int32) else if (3 : Int32) < (vv.toInt16.toInt32) then 0 else 1) = (0 : Int32)
        · refine Go.st (fun _ k' => XS.icmpNo X151.here hx rfl (hb hby at_58) rfl (XT.ii_ne_f hc152) k') ?_
          show Go p e below s _ _ _ (T151.setTop (mkF m 61 #[.val (.int kk), .val (.int vv), .val (.int (13 : Int32)), .val (.ref a_API_VERSIONS), .val (.int (vv.toInt16.toInt32)), .val (.int (0 : Int32)), .val (.int (3 : Int32)), .val (.int (0 : Int32))] []))
          refine Go.st (fun _ k' => XS.iconst X151.here hx rfl (hb hby at_61) k') ?_
          show Go p e below s _ _ _ (T151.setTop (mkF m 62 #[.val (.int kk), .val (.int vv), .val (.int (13 : Int32)), .val (.ref a_API_VERSIONS), .val (.int (vv.toInt16.toInt32)), .val (.int (0 : Int32)), .val (.int (3 : Int32)), .val (.int (0 : Int32))] [(.int (1 : Int32))]))
          refine Go.st (fun _ k' => XS.goto X151.here hx rfl (pc0 := 62) (pc' := 66) rfl (hb hby at_62) (by decide) (by decide) k') ?_
          show Go p e below s _ _ _ (T151.setTop (mkF m 66 #[.val (.int kk), .val (.int vv), .val (.int (13 : Int32)), .val (.ref a_API_VERSIONS), .val (.int (vv.toInt16.toInt32)), .val (.int (0 : Int32)), .val (.int (3 : Int32)), .val (.int (0 : Int32))] [(.int (1 : Int32))]))
          refine Go.retB X151 hx hlk (t := .boolean) Bd.returns (by simp) (hb hby at_66) (by decide) (by decide) eq151 ?_
          exact ⟨rfl, N151, trivial⟩
        · refine Go.st (fun _ k' => XS.icmpYes X151.here hx rfl (pc0 := 58) (pc' := 65) rfl (hb hby at_58) rfl (XT.ii_ne_t hc152) (by decide) (by decide) k') ?_
          show Go p e below s _ _ _ (T151.setTop (mkF m 65 #[.val (.int kk), .val (.int vv), .val (.int (13 : Int32)), .val (.ref a_API_VERSIONS), .val (.int (vv.toInt16.toInt32)), .val (.int (0 : Int32)), .val (.int (3 : Int32)), .val (.int (0 : Int32))] []))
          refine Go.st (fun _ k' => XS.iconst X151.here hx rfl (hb hby at_65) k') ?_
          show Go p e below s _ _ _ (T151.setTop (mkF m 66 #[.val (.int kk), .val (.int vv), .val (.int (13 : Int32)), .val (.ref a_API_VERSIONS), .val (.int (vv.toInt16.toInt32)), .val (.int (0 : Int32)), .val (.int (3 : Int32)), .val (.int (0 : Int32))] [(.int (0 : Int32))]))
          refine Go.retB X151 hx hlk (t := .boolean) Bd.returns (by simp) (hb hby at_66) (by decide) (by decide) eq151 ?_
          exact absurd (by simp [hc147, hc150]) hc152
      · refine Go.st (fun _ k' => XS.icmpNo X146.here hx rfl (hb hby at_40) rfl (XT.ii_gt_f hc150) k') ?_
        show Go p e below s _ _ _ (T146.setTop (mkF m 43 #[.val (.int kk), .val (.int vv), .val (.int (13 : Int32)), .val (.ref a_API_VERSIONS), .val (.int (vv.toInt16.toInt32)), .val (.int (0 : Int32)), .val (.int (3 : Int32)), .unset] []))
        refine Go.st (fun _ k' => XS.iconst X146.here hx rfl (hb hby at_43) k') ?_
        show Go p e below s _ _ _ (T146.setTop (mkF m 44 #[.val (.int kk), .val (.int vv), .val (.int (13 : Int32)), .val (.ref a_API_VERSIONS), .val (.int (vv.toInt16.toInt32)), .val (.int (0 : Int32)), .val (.int (3 : Int32)), .unset] [(.int (1 : Int32))]))
        refine Go.st (fun _ k' => XS.goto X146.here hx rfl (pc0 := 44) (pc' := 48) rfl (hb hby at_44) (by decide) (by decide) k') ?_
        show Go p e below s _ _ _ (T146.setTop (mkF m 48 #[.val (.int kk), .val (.int vv), .val (.int (13 : Int32)), .val (.ref a_API_VERSIONS), .val (.int (vv.toInt16.toInt32)), .val (.int (0 : Int32)), .val (.int (3 : Int32)), .unset] [(.int (1 : Int32))]))
        refine Go.st (fun _ k' => XS.istore X146.here hx rfl (hb hby at_48) rfl (l' := #[.val (.int kk), .val (.int vv), .val (.int (13 : Int32)), .val (.ref a_API_VERSIONS), .val (.int (vv.toInt16.toInt32)), .val (.int (0 : Int32)), .val (.int (3 : Int32)), .val (.int (1 : Int32))]) rfl k') ?_
        show Go p e below s _ _ _ (T146.setTop (mkF m 50 #[.val (.int kk), .val (.int vv), .val (.int (13 : Int32)), .val (.ref a_API_VERSIONS), .val (.int (vv.toInt16.toInt32)), .val (.int (0 : Int32)), .val (.int (3 : Int32)), .val (.int (1 : Int32))] []))
        refine Go.st (fun _ k' => XS.aloadN X146.here hx rfl (hb hby at_50) rfl rfl k') ?_
        show Go p e below s _ _ _ (T146.setTop (mkF m 51 #[.val (.int kk), .val (.int vv), .val (.int (13 : Int32)), .val (.ref a_API_VERSIONS), .val (.int (vv.toInt16.toInt32)), .val (.int (0 : Int32)), .val (.int (3 : Int32)), .val (.int (1 : Int32))] [(.ref a_API_VERSIONS)]))
        refine Go.st (fun _ k' => XS.iload X146.here hx rfl (hb hby at_51) rfl k') ?_
        show Go p e below s _ _ _ (T146.setTop (mkF m 53 #[.val (.int kk), .val (.int vv), .val (.int (13 : Int32)), .val (.ref a_API_VERSIONS), .val (.int (vv.toInt16.toInt32)), .val (.int (0 : Int32)), .val (.int (3 : Int32)), .val (.int (1 : Int32))] [(.int (vv.toInt16.toInt32)), (.ref a_API_VERSIONS)]))
        obtain ⟨cq153, kq153, q153a, q153b, q153c⟩ := isOf hZ eq146 E_API_VERSIONS
        obtain ⟨_, _, ⟨T153, L153, k153, n153⟩, -, X153, ⟨Lc153, hQ153, l153, y153, z153⟩, st153⟩ := X146.virtualBack hx (y := (⟨"com/example/tenure_of_partitions/tenureofpartitions/ApiKey", "serves", "(S)Z"⟩ : MethodName)) (z := (⟨"com/example/tenure_of_partitions/tenureofpartitions/ApiKey", "serves", "(S)Z"⟩ : MethodName)) hown (mvT hZ (wdx hw 14 rfl)) (mvT hZ (wdx hw 15 rfl)) (notFace_of_selects (args := #[]) (mvT hZ (wdx hw 17 rfl))) (mvT hZ (wdx hw 17 rfl)) (mvT hZ (wdx hw 16 rfl)) (by decide) (backOf (W := 0) (rm4 l Z a0 hw [] a_API_VERSIONS (vv.toInt16.toInt32) (0 : Int32) (3 : Int32) h0 n0 O0 F_API_VERSIONS_minVersion F_API_VERSIONS_maxVersion) hZ (wdx hw 18 rfl) (wdx hw 6 rfl) (by decide) (by decide)) q153a q153c (g := (mkF m 53 #[.val (.int kk), .val (.int vv), .val (.int (13 : Int32)), .val (.ref a_API_VERSIONS), .val (.int (vv.toInt16.toInt32)), .val (.int (0 : Int32)), .val (.int (3 : Int32)), .val (.int (1 : Int32))] [(.int (vv.toInt16.toInt32)), (.ref a_API_VERSIONS)])) rfl (by rw [hml]; rfl) (Steps.refl _) (argsL := [(.int (vv.toInt16.toInt32))]) (rest := []) (lenOf pd__S_Z rfl) rfl (by show 2 * 0 + _ ≤ _; exact Nat.le_of_eq rfl) (hb hby at_53) (fun _ _ => ⟨rfl, eq146, (by exact Nat.le_of_ble_eq_true rfl), (by exact Nat.le_of_ble_eq_true rfl)⟩)
        dsimp only [Pt.U, Pt.locs, Pt.cells, Pt.slots] at X153 l153 y153 z153 st153 hQ153
        subst l153 y153 z153
        obtain ⟨rfl, Nq153, eq153⟩ := hQ153
        have N153 := Fr.app N146 Nq153
        refine Go.tr st153 ?_
        show Go p e below s _ _ _ (T153.setTop (mkF m 56 #[.val (.int kk), .val (.int vv), .val (.int (13 : Int32)), .val (.ref a_API_VERSIONS), .val (.int (vv.toInt16.toInt32)), .val (.int (0 : Int32)), .val (.int (3 : Int32)), .val (.int (1 : Int32))] [(.int (if (vv.toInt16.toInt32) < (0 : Int32) then (0 : Int32) else if (3 : Int32) < (vv.toInt16.toInt32) then 0 else 1))]))
        refine Go.st (fun _ k' => XS.iload X153.here hx rfl (hb hby at_56) rfl k') ?_
        show Go p e below s _ _ _ (T153.setTop (mkF m 58 #[.val (.int kk), .val (.int vv), .val (.int (13 : Int32)), .val (.ref a_API_VERSIONS), .val (.int (vv.toInt16.toInt32)), .val (.int (0 : Int32)), .val (.int (3 : Int32)), .val (.int (1 : Int32))] [(.int (1 : Int32)), (.int (if (vv.toInt16.toInt32) < (0 : Int32) then (0 : Int32) else if (3 : Int32) < (vv.toInt16.toInt32) then 0 else 1))]))
        by_cases hc154 : (if (vv.toInt16.toInt32) < (0 : Int32) then (0 : Int32) else if (3 : Int32) < (vv.toInt16.toInt32) then 0 else 1) = (1 : Int32)
        · refine Go.st (fun _ k' => XS.icmpNo X153.here hx rfl (hb hby at_58) rfl (XT.ii_ne_f hc154) k') ?_
          show Go p e below s _ _ _ (T153.setTop (mkF m 61 #[.val (.int kk), .val (.int vv), .val (.int (13 : Int32)), .val (.ref a_API_VERSIONS), .val (.int (vv.toInt16.toInt32)), .val (.int (0 : Int32)), .val (.int (3 : Int32)), .val (.int (1 : Int32))] []))
          refine Go.st (fun _ k' => XS.iconst X153.here hx rfl (hb hby at_61) k') ?_
          show Go p e below s _ _ _ (T153.setTop (mkF m 62 #[.val (.int kk), .val (.int vv), .val (.int (13 : Int32)), .val (.ref a_API_VERSIONS), .val (.int (vv.toInt16.toInt32)), .val (.int (0 : Int32)), .val (.int (3 : Int32)), .val (.int (1 : Int32))] [(.int (1 : Int32))]))
          refine Go.st (fun _ k' => XS.goto X153.here hx rfl (pc0 := 62) (pc' := 66) rfl (hb hby at_62) (by decide) (by decide) k') ?_
          show Go p e below s _ _ _ (T153.setTop (mkF m 66 #[.val (.int kk), .val (.int vv), .val (.int (13 : Int32)), .val (.ref a_API_VERSIONS), .val (.int (vv.toInt16.toInt32)), .val (.int (0 : Int32)), .val (.int (3 : Int32)), .val (.int (1 : Int32))] [(.int (1 : Int32))]))
          refine Go.retB X153 hx hlk (t := .boolean) Bd.returns (by simp) (hb hby at_66) (by decide) (by decide) eq153 ?_
          exact ⟨rfl, N153, trivial⟩
        · refine Go.st (fun _ k' => XS.icmpYes X153.here hx rfl (pc0 := 58) (pc' := 65) rfl (hb hby at_58) rfl (XT.ii_ne_t hc154) (by decide) (by decide) k') ?_
          show Go p e below s _ _ _ (T153.setTop (mkF m 65 #[.val (.int kk), .val (.int vv), .val (.int (13 : Int32)), .val (.ref a_API_VERSIONS), .val (.int (vv.toInt16.toInt32)), .val (.int (0 : Int32)), .val (.int (3 : Int32)), .val (.int (1 : Int32))] []))
          refine Go.st (fun _ k' => XS.iconst X153.here hx rfl (hb hby at_65) k') ?_
          show Go p e below s _ _ _ (T153.setTop (mkF m 66 #[.val (.int kk), .val (.int vv), .val (.int (13 : Int32)), .val (.ref a_API_VERSIONS), .val (.int (vv.toInt16.toInt32)), .val (.int (0 : Int32)), .val (.int (3 : Int32)), .val (.int (1 : Int32))] [(.int (0 : Int32))]))
          refine Go.retB X153 hx hlk (t := .boolean) Bd.returns (by simp) (hb hby at_66) (by decide) (by decide) eq153 ?_
          exact absurd (by simp [hc147, hc150]) hc154
set_option maxRecDepth 65536 in
set_option maxHeartbeats 40000000 in
theorem comes_1 {Post : Tables → Env → Array Value → State → Outcome → State → Prop} (hpost : ∀ tb e args s v u, (limb_1_1.after args s (.returned v) u = true ∧ limb_1_2.after args s (.returned v) u = true ∧ True) → FrameEnd s (.returned v) u (Jvm.fieldLocs frame_1_writes args s ++ Jvm.arrayLocs frame_1_arrays args s ++ Jvm.staticLocs frame_1_statics s) 0 0 → Post tb e args s (.returned v) u) :
    ArmFor flags0 classFile x code maxLocals ret World_1 tables_1 room_1 Calls_1 rest_1 Pre_1 Post := by
  intro l hfl _ _ p e ha hc hk s m args below hf hA hF happ hP
  obtain ⟨hcalls, hrest, hpre⟩ := hP
  obtain ⟨-, -, -, hnamed, -, -, -, hat⟩ := (Spec.applies_iff hf).mp happ
  obtain ⟨hg, hn⟩ := and_e (Cond.before_iff.mp (show (Jvm.Cond.and given_1 narrow_1).before args s = true from hpre))
  obtain ⟨hcnt, hg0⟩ := and_e hg
  obtain ⟨ha0, hg1⟩ := and_e hg0
  have ha1 := hg1
  obtain ⟨w0, w1, rfl⟩ : ∃ w0 w1 : Value, args = #[w0, w1] := by
    have hs : args.size = 2 := by simpa [Cond.value, given_1] using hcnt
    obtain ⟨L⟩ := args
    match L, hs with
    | [w0, w1], _ => exact ⟨w0, w1, rfl⟩
  have hw := fun d (hd : d ∈ tables_1) => atoms_spec (ws := Jvm.Cond.code x code maxLocals ret :: tables_1) hat d (List.mem_cons_of_mem _ hd)
  have hfit : Fit s := fun {y c} hc i hi => by
    obtain ⟨ha, rfl⟩ := Array.getElem?_eq_some_iff.mp hc
    have q := List.all_eq_true.mp ((Array.all_eq_true_iff_forall_mem.mp hF) _ (Array.getElem_mem ha)) i (List.mem_range.mpr hi)
    simpa [Array.getElem?_eq_getElem hi] using q
  obtain ⟨i0, ei0⟩ := is_v ha0
  obtain rfl : w0 = (.int i0) := Option.some.inj ei0
  obtain ⟨i1, ei1⟩ := is_v ha1
  obtain rfl : w1 = (.int i1) := Option.some.inj ei1
  obtain ⟨hn0, hm0⟩ := and_e hn
  obtain ⟨hn1, hm1⟩ := and_e hm0
  obtain ⟨hn2, hm2⟩ := and_e hm1
  obtain ⟨hn3, hm3⟩ := and_e hm2
  obtain ⟨hn4, hm4⟩ := and_e hm3
  obtain ⟨hn5, hm5⟩ := and_e hm4
  obtain ⟨hn6, hm6⟩ := and_e hm5
  obtain ⟨hn7, hm7⟩ := and_e hm6
  obtain ⟨hn8, hm8⟩ := and_e hm7
  obtain ⟨hn9, hm9⟩ := and_e hm8
  obtain ⟨hn10, hm10⟩ := and_e hm9
  obtain ⟨hn11, hm11⟩ := and_e hm10
  obtain ⟨hn12, hm12⟩ := and_e hm11
  obtain ⟨hn13, hm13⟩ := and_e hm12
  obtain ⟨hn14, hm14⟩ := and_e hm13
  obtain ⟨hn15, hm15⟩ := and_e hm14
  obtain ⟨hn16, hm16⟩ := and_e hm15
  obtain ⟨hn17, hm17⟩ := and_e hm16
  obtain ⟨hn18, hm18⟩ := and_e hm17
  obtain ⟨hn19, hm19⟩ := and_e hm18
  obtain ⟨hn20, hm20⟩ := and_e hm19
  obtain ⟨hn21, hm21⟩ := and_e hm20
  obtain ⟨hn22, hm22⟩ := and_e hm21
  obtain ⟨hn23, hm23⟩ := and_e hm22
  obtain ⟨hn24, hm24⟩ := and_e hm23
  obtain ⟨hn25, hm25⟩ := and_e hm24
  obtain ⟨hn26, hm26⟩ := and_e hm25
  obtain ⟨hn27, hm27⟩ := and_e hm26
  obtain ⟨hn28, hm28⟩ := and_e hm27
  obtain ⟨hn29, hm29⟩ := and_e hm28
  obtain ⟨hn30, hm30⟩ := and_e hm29
  obtain ⟨hn31, hm31⟩ := and_e hm30
  obtain ⟨hn32, hm32⟩ := and_e hm31
  obtain ⟨hn33, hm33⟩ := and_e hm32
  obtain ⟨hn34, hm34⟩ := and_e hm33
  obtain ⟨hn35, hm35⟩ := and_e hm34
  obtain ⟨hn36, hm36⟩ := and_e hm35
  obtain ⟨hn37, hm37⟩ := and_e hm36
  obtain ⟨hn38, hm38⟩ := and_e hm37
  obtain ⟨hn39, hm39⟩ := and_e hm38
  obtain ⟨hn40, hm40⟩ := and_e hm39
  have hn41 := hm40
  obtain ⟨a_PRODUCE, ev_PRODUCE, S_PRODUCE, E_PRODUCE⟩ := own_en hn0 (wdx hw 6 rfl) (wdx hw 7 rfl)
  obtain ⟨a_SYNC_GROUP, ev_SYNC_GROUP, S_SYNC_GROUP, E_SYNC_GROUP⟩ := own_en hn3 (wdx hw 6 rfl) (wdx hw 24 rfl)
  obtain ⟨a_HEARTBEAT, ev_HEARTBEAT, S_HEARTBEAT, E_HEARTBEAT⟩ := own_en hn6 (wdx hw 6 rfl) (wdx hw 26 rfl)
  obtain ⟨a_OFFSET_COMMIT, ev_OFFSET_COMMIT, S_OFFSET_COMMIT, E_OFFSET_COMMIT⟩ := own_en hn8 (wdx hw 6 rfl) (wdx hw 28 rfl)
  obtain ⟨a_DESCRIBE_GROUPS, ev_DESCRIBE_GROUPS, S_DESCRIBE_GROUPS, E_DESCRIBE_GROUPS⟩ := own_en hn10 (wdx hw 6 rfl) (wdx hw 30 rfl)
  obtain ⟨a_FIND_COORDINATOR, ev_FIND_COORDINATOR, S_FIND_COORDINATOR, E_FIND_COORDINATOR⟩ := own_en hn13 (wdx hw 6 rfl) (wdx hw 32 rfl)
  obtain ⟨a_LIST_GROUPS, ev_LIST_GROUPS, S_LIST_GROUPS, E_LIST_GROUPS⟩ := own_en hn16 (wdx hw 6 rfl) (wdx hw 34 rfl)
  obtain ⟨a_JOIN_GROUP, ev_JOIN_GROUP, S_JOIN_GROUP, E_JOIN_GROUP⟩ := own_en hn19 (wdx hw 6 rfl) (wdx hw 36 rfl)
  obtain ⟨a_METADATA, ev_METADATA, S_METADATA, E_METADATA⟩ := own_en hn22 (wdx hw 6 rfl) (wdx hw 38 rfl)
  obtain ⟨a_OFFSET_FETCH, ev_OFFSET_FETCH, S_OFFSET_FETCH, E_OFFSET_FETCH⟩ := own_en hn25 (wdx hw 6 rfl) (wdx hw 40 rfl)
  obtain ⟨a_FETCH, ev_FETCH, S_FETCH, E_FETCH⟩ := own_en hn28 (wdx hw 6 rfl) (wdx hw 42 rfl)
  obtain ⟨a_LIST_OFFSETS, ev_LIST_OFFSETS, S_LIST_OFFSETS, E_LIST_OFFSETS⟩ := own_en hn30 (wdx hw 6 rfl) (wdx hw 44 rfl)
  obtain ⟨a_API_VERSIONS, ev_API_VERSIONS, S_API_VERSIONS, E_API_VERSIONS⟩ := own_en hn35 (wdx hw 6 rfl) (wdx hw 46 rfl)
  obtain ⟨a_LEAVE_GROUP, ev_LEAVE_GROUP, S_LEAVE_GROUP, E_LEAVE_GROUP⟩ := own_en hn38 (wdx hw 6 rfl) (wdx hw 48 rfl)
  have F_PRODUCE_minVersion := own_ef ev_PRODUCE hn1
  have F_PRODUCE_maxVersion := own_ef ev_PRODUCE hn2
  have F_SYNC_GROUP_minVersion := own_ef ev_SYNC_GROUP hn4
  have F_SYNC_GROUP_maxVersion := own_ef ev_SYNC_GROUP hn5
  have F_HEARTBEAT_minVersion := own_ef ev_HEARTBEAT hn7
  have F_OFFSET_COMMIT_minVersion := own_ef ev_OFFSET_COMMIT hn9
  have F_DESCRIBE_GROUPS_minVersion := own_ef ev_DESCRIBE_GROUPS hn11
  have F_DESCRIBE_GROUPS_maxVersion := own_ef ev_DESCRIBE_GROUPS hn12
  have F_FIND_COORDINATOR_minVersion := own_ef ev_FIND_COORDINATOR hn14
  have F_FIND_COORDINATOR_maxVersion := own_ef ev_FIND_COORDINATOR hn15
  have F_LIST_GROUPS_minVersion := own_ef ev_LIST_GROUPS hn17
  have F_LIST_GROUPS_maxVersion := own_ef ev_LIST_GROUPS hn18
  have F_JOIN_GROUP_minVersion := own_ef ev_JOIN_GROUP hn20
  have F_JOIN_GROUP_maxVersion := own_ef ev_JOIN_GROUP hn21
  have F_METADATA_minVersion := own_ef ev_METADATA hn23
  have F_METADATA_maxVersion := own_ef ev_METADATA hn24
  have F_OFFSET_FETCH_minVersion := own_ef ev_OFFSET_FETCH hn26
  have F_HEARTBEAT_maxVersion := own_ef ev_HEARTBEAT hn27
  have F_FETCH_minVersion := own_ef ev_FETCH hn29
  have F_LIST_OFFSETS_minVersion := own_ef ev_LIST_OFFSETS hn31
  have F_LIST_OFFSETS_maxVersion := own_ef ev_LIST_OFFSETS hn32
  have F_OFFSET_FETCH_maxVersion := own_ef ev_OFFSET_FETCH hn33
  have F_FETCH_maxVersion := own_ef ev_FETCH hn34
  have F_API_VERSIONS_minVersion := own_ef ev_API_VERSIONS hn36
  have F_API_VERSIONS_maxVersion := own_ef ev_API_VERSIONS hn37
  have F_LEAVE_GROUP_minVersion := own_ef ev_LEAVE_GROUP hn39
  have F_LEAVE_GROUP_maxVersion := own_ef ev_LEAVE_GROUP hn40
  have F_OFFSET_COMMIT_maxVersion := own_ef ev_OFFSET_COMMIT hn41
  obtain ⟨n, o, h1, h2, h3, _, L, rfl, ⟨rfl, N, -⟩, hq⟩ := rm0 l s _ hw tables_1 i0 i1 a_PRODUCE a_FETCH a_LIST_OFFSETS a_METADATA a_OFFSET_COMMIT a_OFFSET_FETCH a_FIND_COORDINATOR a_JOIN_GROUP a_HEARTBEAT a_LEAVE_GROUP a_SYNC_GROUP a_DESCRIBE_GROUPS a_LIST_GROUPS a_API_VERSIONS s.heap s.heap.size (Old.start s) E_PRODUCE E_FETCH E_LIST_OFFSETS E_METADATA E_OFFSET_COMMIT E_OFFSET_FETCH E_FIND_COORDINATOR E_JOIN_GROUP E_HEARTBEAT E_LEAVE_GROUP E_SYNC_GROUP E_DESCRIBE_GROUPS E_LIST_GROUPS E_API_VERSIONS F_PRODUCE_minVersion F_PRODUCE_maxVersion F_FETCH_minVersion F_FETCH_maxVersion F_LIST_OFFSETS_minVersion F_LIST_OFFSETS_maxVersion F_METADATA_minVersion F_METADATA_maxVersion F_OFFSET_COMMIT_minVersion F_OFFSET_COMMIT_maxVersion F_OFFSET_FETCH_minVersion F_OFFSET_FETCH_maxVersion F_FIND_COORDINATOR_minVersion F_FIND_COORDINATOR_maxVersion F_JOIN_GROUP_minVersion F_JOIN_GROUP_maxVersion F_HEARTBEAT_minVersion F_HEARTBEAT_maxVersion F_LEAVE_GROUP_minVersion F_LEAVE_GROUP_maxVersion F_SYNC_GROUP_minVersion F_SYNC_GROUP_maxVersion F_DESCRIBE_GROUPS_minVersion F_DESCRIBE_GROUPS_maxVersion F_LIST_GROUPS_minVersion F_LIST_GROUPS_maxVersion F_API_VERSIONS_minVersion F_API_VERSIONS_maxVersion S_PRODUCE S_FETCH S_LIST_OFFSETS S_METADATA S_OFFSET_COMMIT S_OFFSET_FETCH S_FIND_COORDINATOR S_JOIN_GROUP S_HEARTBEAT S_LEAVE_GROUP S_SYNC_GROUP S_DESCRIBE_GROUPS S_LIST_GROUPS S_API_VERSIONS  p e ha hc hk s m _ below hf ((Spec.applies_iff_loose hf).mp happ).1 ⟨rfl, State.Warmed39.refl s, rfl⟩ trivial
  refine ⟨n, _, h1, h2, h3, hpost _ _ _ _ _ _ ⟨Cond.after_iff.mpr rfl, Cond.after_iff.mpr (eq_i res_at (Term.int_eval (1)) rfl), trivial⟩ ⟨hq.1, hq.2.1, (hq.2.2.sift fun y hy => Or.inr (N y hy)).mono (by decide) (by decide)⟩⟩
theorem main_1_1 : Claimed_1_1 := comes_1 fun _ _ _ _ _ _ h hF => ⟨h.1, hF⟩
theorem main_1_2 : Claimed_1_2 := comes_1 fun _ _ _ _ _ _ h hF => ⟨h.2.1, hF⟩
end Jvm.Pilot.@@N@@
namespace Jvm.Pilot.@@N@@
open Jvm Jvm.ClassFile Sem Op Lib Jvm.Free Jvm.Stand Jvm.Pilot.@@N@@.Jvm.D
/-! MADE BY PROGRAM (witnessworld.py) out of the Statement's table words and the real class files: 12 classes; the members and pool entries that the words name. The judged class is class 1, her method 4. -/
namespace start1
open Jvm.ClassFile
def u (s : String) : CpInfo := .utf8 (stringToUtf16 s)
/-- a pool by its gaps: so many unusable entries, then the entry; so many at the end -/
def gap : Nat → List CpInfo → List CpInfo
  | 0, r => r
  | n + 1, r => .unusable :: gap n r
def poolList (es : List (Nat × CpInfo)) (last : Nat) : List CpInfo := es.foldr (fun e r => gap e.1 (e.2 :: r)) (gap last [])
def pool (es : List (Nat × CpInfo)) (last : Nat) : Array CpInfo := ⟨poolList es last⟩
def fileOf (pool : Array CpInfo) (this : Nat) (attrs : Array Attribute := #[]) (ms : Array MethodInfo := #[]) (fl : Nat := 33) (sup : Nat := 0) (ifs : Array Nat := #[]) (fds : Array FieldInfo := #[]) : ClassFile where
  minorVersion := 0
  majorVersion := 65
  constantPool := pool
  accessFlags := fl
  thisClass := this
  superClass := sup
  interfaces := ifs
  fields := fds
  methods := ms
  attributes := attrs
def plain (name : String) (sup : Option ClassId) : Class where
  name := name
  kind := .ordinary
  loader := none
  accessFlags := 33
  super := sup
  interfaces := #[]
  cf := none
  fields := #[]
  methods := #[]
  instanceTypes := #[]
  staticTypes := #[]
  resolved := #[]
  callSites := []
  init := .initialized
  statics := none
  mirror := none

def pool0 : Array CpInfo := pool [(5, u "<init>"), (0, u "()V"), (1, .class_ 10), (1, u "java/lang/Object")] 113

def k0m0 : Method := { name := "<init>", desc := "()V", sig := { parameters := [], returnType := none }, accessFlags := 1, code := none }
/-- java/lang/Object -/
def k0 : Class := { plain "java/lang/Object" none with
  accessFlags := 33
  interfaces := #[]
  cf := some (fileOf pool0 8 #[] #[{ accessFlags := 1, nameIndex := 5, descriptorIndex := 6, attributes := #[] }] 33 0 #[] #[])
  fields := #[]
  methods := #[k0m0]
  instanceTypes := #[]
  staticTypes := #[]
  resolved := Array.replicate 124 none
  statics := none }

def pool1 : Array CpInfo := pool [(2, .class_ 4), (1, u "java/lang/Object"), (0, u "<init>"), (0, u "()V"), (0, .fieldref 8 9), (0, .class_ 10), (0, .nameAndType 11 12), (0, u "com/example/tenure_of_partitions/tenureofpartitions/ApiKey"), (0, u "PRODUCE"), (0, u "Lcom/example/tenure_of_partitions/tenureofpartitions/ApiKey;"), (0, .fieldref 8 14), (0, .nameAndType 15 12), (0, u "FETCH"), (0, .fieldref 8 17), (0, .nameAndType 18 12), (0, u "LIST_OFFSETS"), (0, .fieldref 8 20), (0, .nameAndType 21 12), (0, u "METADATA"), (0, .fieldref 8 23), (0, .nameAndType 24 12), (0, u "OFFSET_COMMIT"), (0, .fieldref 8 26), (0, .nameAndType 27 12), (0, u "OFFSET_FETCH"), (0, .fieldref 8 29), (0, .nameAndType 30 12), (0, u "FIND_COORDINATOR"), (0, .fieldref 8 32), (0, .nameAndType 33 12), (0, u "JOIN_GROUP"), (0, .fieldref 8 35), (0, .nameAndType 36 12), (0, u "HEARTBEAT"), (0, .fieldref 8 38), (0, .nameAndType 39 12), (0, u "LEAVE_GROUP"), (0, .fieldref 8 41), (0, .nameAndType 42 12), (0, u "SYNC_GROUP"), (0, .fieldref 8 44), (0, .nameAndType 45 12), (0, u "DESCRIBE_GROUPS"), (0, .fieldref 8 47), (0, .nameAndType 48 12), (0, u "LIST_GROUPS"), (0, .fieldref 8 50), (0, .nameAndType 51 12), (0, u "API_VERSIONS"), (0, .integer 2147483647), (0, .methodref 54 55), (0, .class_ 56), (0, .nameAndType 57 58), (0, u "com/example/tenure_of_partitions/tenureofpartitions/ApiKeyServesPinLaw"), (0, u "pick"), (0, u "(I)Lcom/example/tenure_of_partitions/tenureofpartitions/ApiKey;"), (0, .methodref 54 60), (0, .nameAndType 61 62), (0, u "lo"), (0, u "(I)I"), (0, .methodref 54 64), (0, .nameAndType 65 62), (0, u "hi"), (0, .methodref 8 67), (0, .nameAndType 68 69), (0, u "serves"), (0, u "(S)Z"), (3, u "law"), (0, u "(II)Z")] 2

def k1m0 : Method := { name := "<init>", desc := "()V", sig := { parameters := [], returnType := none }, accessFlags := 1, code := none }
def k1c1 : Code := { maxStack := 2, maxLocals := 1, code := method_2_code, exceptionTable := #[], attributes := #[] }
def k1m1 : Method := { name := "pick", desc := "(I)Lcom/example/tenure_of_partitions/tenureofpartitions/ApiKey;", sig := { parameters := [.int], returnType := some (.object "com/example/tenure_of_partitions/tenureofpartitions/ApiKey") }, accessFlags := 10, code := some k1c1 }
def k1c2 : Code := { maxStack := 2, maxLocals := 1, code := method_3_code, exceptionTable := #[], attributes := #[] }
def k1m2 : Method := { name := "lo", desc := "(I)I", sig := { parameters := [.int], returnType := some .int }, accessFlags := 10, code := some k1c2 }
def k1c3 : Code := { maxStack := 2, maxLocals := 1, code := method_4_code, exceptionTable := #[], attributes := #[] }
def k1m3 : Method := { name := "hi", desc := "(I)I", sig := { parameters := [.int], returnType := some .int }, accessFlags := 10, code := some k1c3 }
def k1c4 : Code := { maxStack := 2, maxLocals := 8, code := code, exceptionTable := #[], attributes := #[] }
def k1m4 : Method := { name := "law", desc := "(II)Z", sig := { parameters := [.int, .int], returnType := some .boolean }, accessFlags := 9, code := some k1c4 }
/-- com/example/tenure_of_partitions/tenureofpartitions/ApiKeyServesPinLaw -/
def k1 : Class := { plain "com/example/tenure_of_partitions/tenureofpartitions/ApiKeyServesPinLaw" (some 0) with
  accessFlags := 49
  interfaces := #[]
  cf := some (fileOf pool1 54 #[] #[{ accessFlags := 1, nameIndex := 5, descriptorIndex := 6, attributes := #[] }, { accessFlags := 10, nameIndex := 57, descriptorIndex := 58, attributes := #[] }, { accessFlags := 10, nameIndex := 61, descriptorIndex := 62, attributes := #[] }, { accessFlags := 10, nameIndex := 65, descriptorIndex := 62, attributes := #[] }, { accessFlags := 9, nameIndex := 73, descriptorIndex := 74, attributes := #[] }] 49 2 #[] #[])
  fields := #[]
  methods := #[k1m0, k1m1, k1m2, k1m3, k1m4]
  instanceTypes := #[]
  staticTypes := #[]
  resolved := Array.replicate 77 none
  statics := none }

def pool2 : Array CpInfo := pool [(1, .class_ 2), (0, u "java/lang/constant/Constable"), (0, .class_ 4), (0, u "java/lang/Object")] 6

/-- java/lang/constant/Constable -/
def k2 : Class := { plain "java/lang/constant/Constable" (some 0) with
  accessFlags := 1537
  interfaces := #[]
  cf := some (fileOf pool2 1 #[] #[] 1537 3 #[] #[])
  fields := #[]
  methods := #[]
  instanceTypes := #[]
  staticTypes := #[]
  resolved := Array.replicate 11 none
  statics := none }

def pool3 : Array CpInfo := pool [(1, .class_ 2), (0, u "java/lang/Comparable"), (0, .class_ 4), (0, u "java/lang/Object")] 7

/-- java/lang/Comparable -/
def k3 : Class := { plain "java/lang/Comparable" (some 0) with
  accessFlags := 1537
  interfaces := #[]
  cf := some (fileOf pool3 1 #[] #[] 1537 3 #[] #[])
  fields := #[]
  methods := #[]
  instanceTypes := #[]
  staticTypes := #[]
  resolved := Array.replicate 12 none
  statics := none }

def pool4 : Array CpInfo := pool [(1, .class_ 2), (0, u "java/io/Serializable"), (0, .class_ 4), (0, u "java/lang/Object")] 2

/-- java/io/Serializable -/
def k4 : Class := { plain "java/io/Serializable" (some 0) with
  accessFlags := 1537
  interfaces := #[]
  cf := some (fileOf pool4 1 #[] #[] 1537 3 #[] #[])
  fields := #[]
  methods := #[]
  instanceTypes := #[]
  staticTypes := #[]
  resolved := Array.replicate 7 none
  statics := none }

def pool5 : Array CpInfo := pool [(2, .class_ 4), (1, u "java/lang/Enum"), (0, u "name"), (0, u "Ljava/lang/String;"), (2, u "ordinal"), (0, u "I"), (1, .class_ 14), (1, u "java/lang/Object"), (4, u "hash"), (86, .class_ 108), (1, u "java/lang/Enum$EnumDesc"), (2, .class_ 112), (0, u "java/lang/constant/Constable"), (0, .class_ 114), (0, u "java/lang/Comparable"), (0, .class_ 116), (0, u "java/io/Serializable")] 87

/-- java/lang/Enum -/
def k5 : Class := { plain "java/lang/Enum" (some 0) with
  accessFlags := 1057
  interfaces := #[2, 3, 4]
  cf := some (fileOf pool5 2 #[.nestMembers #[106]] #[] 1057 12 #[111, 113, 115] #[{ accessFlags := 18, nameIndex := 5, descriptorIndex := 6, attributes := #[] }, { accessFlags := 18, nameIndex := 9, descriptorIndex := 10, attributes := #[] }, { accessFlags := 2, nameIndex := 19, descriptorIndex := 10, attributes := #[] }])
  fields := #[{ name := "name", type := (.object "java/lang/String"), accessFlags := 18, slot := 0, constantValue := 0 }, { name := "ordinal", type := .int, accessFlags := 18, slot := 1, constantValue := 0 }, { name := "hash", type := .int, accessFlags := 2, slot := 2, constantValue := 0 }]
  methods := #[]
  instanceTypes := #[(.object "java/lang/String"), .int, .int]
  staticTypes := #[]
  resolved := Array.replicate 204 none
  statics := none }

def pool6 : Array CpInfo := pool [(1, .class_ 2), (0, u "com/example/tenure_of_partitions/tenureofpartitions/ApiKey"), (2, u "PRODUCE"), (0, u "Lcom/example/tenure_of_partitions/tenureofpartitions/ApiKey;"), (2, u "FETCH"), (2, u "LIST_OFFSETS"), (2, u "METADATA"), (2, u "OFFSET_COMMIT"), (2, u "OFFSET_FETCH"), (2, u "FIND_COORDINATOR"), (2, u "JOIN_GROUP"), (2, u "HEARTBEAT"), (2, u "LEAVE_GROUP"), (2, u "SYNC_GROUP"), (2, u "DESCRIBE_GROUPS"), (2, u "LIST_GROUPS"), (2, u "API_VERSIONS"), (2, u "$VALUES"), (0, u "[Lcom/example/tenure_of_partitions/tenureofpartitions/ApiKey;"), (6, .class_ 58), (1, u "java/lang/Enum"), (8, u "key"), (0, u "S"), (0, .fieldref 1 70), (0, .nameAndType 71 68), (0, u "minVersion"), (0, .fieldref 1 73), (0, .nameAndType 74 68), (0, u "maxVersion"), (2, u "firstFlexibleVersion"), (0, u "I"), (6, u "serves"), (0, u "(S)Z")] 44

def k6c0 : Code := { maxStack := 2, maxLocals := 2, code := prog_1_method_8_code, exceptionTable := #[], attributes := #[] }
def k6m0 : Method := { name := "serves", desc := "(S)Z", sig := { parameters := [.short], returnType := some .boolean }, accessFlags := 0, code := some k6c0 }
/-- com/example/tenure_of_partitions/tenureofpartitions/ApiKey -/
def k6 : Class := { plain "com/example/tenure_of_partitions/tenureofpartitions/ApiKey" (some 5) with
  accessFlags := 16432
  interfaces := #[]
  cf := some (fileOf pool6 1 #[] #[{ accessFlags := 0, nameIndex := 85, descriptorIndex := 86, attributes := #[] }] 16432 56 #[] #[{ accessFlags := 16409, nameIndex := 5, descriptorIndex := 6, attributes := #[] }, { accessFlags := 16409, nameIndex := 9, descriptorIndex := 6, attributes := #[] }, { accessFlags := 16409, nameIndex := 12, descriptorIndex := 6, attributes := #[] }, { accessFlags := 16409, nameIndex := 15, descriptorIndex := 6, attributes := #[] }, { accessFlags := 16409, nameIndex := 18, descriptorIndex := 6, attributes := #[] }, { accessFlags := 16409, nameIndex := 21, descriptorIndex := 6, attributes := #[] }, { accessFlags := 16409, nameIndex := 24, descriptorIndex := 6, attributes := #[] }, { accessFlags := 16409, nameIndex := 27, descriptorIndex := 6, attributes := #[] }, { accessFlags := 16409, nameIndex := 30, descriptorIndex := 6, attributes := #[] }, { accessFlags := 16409, nameIndex := 33, descriptorIndex := 6, attributes := #[] }, { accessFlags := 16409, nameIndex := 36, descriptorIndex := 6, attributes := #[] }, { accessFlags := 16409, nameIndex := 39, descriptorIndex := 6, attributes := #[] }, { accessFlags := 16409, nameIndex := 42, descriptorIndex := 6, attributes := #[] }, { accessFlags := 16409, nameIndex := 45, descriptorIndex := 6, attributes := #[] }, { accessFlags := 18, nameIndex := 67, descriptorIndex := 68, attributes := #[] }, { accessFlags := 18, nameIndex := 71, descriptorIndex := 68, attributes := #[] }, { accessFlags := 18, nameIndex := 74, descriptorIndex := 68, attributes := #[] }, { accessFlags := 18, nameIndex := 77, descriptorIndex := 78, attributes := #[] }, { accessFlags := 4122, nameIndex := 48, descriptorIndex := 49, attributes := #[] }])
  fields := #[{ name := "PRODUCE", type := (.object "com/example/tenure_of_partitions/tenureofpartitions/ApiKey"), accessFlags := 16409, slot := 0, constantValue := 0 }, { name := "FETCH", type := (.object "com/example/tenure_of_partitions/tenureofpartitions/ApiKey"), accessFlags := 16409, slot := 1, constantValue := 0 }, { name := "LIST_OFFSETS", type := (.object "com/example/tenure_of_partitions/tenureofpartitions/ApiKey"), accessFlags := 16409, slot := 2, constantValue := 0 }, { name := "METADATA", type := (.object "com/example/tenure_of_partitions/tenureofpartitions/ApiKey"), accessFlags := 16409, slot := 3, constantValue := 0 }, { name := "OFFSET_COMMIT", type := (.object "com/example/tenure_of_partitions/tenureofpartitions/ApiKey"), accessFlags := 16409, slot := 4, constantValue := 0 }, { name := "OFFSET_FETCH", type := (.object "com/example/tenure_of_partitions/tenureofpartitions/ApiKey"), accessFlags := 16409, slot := 5, constantValue := 0 }, { name := "FIND_COORDINATOR", type := (.object "com/example/tenure_of_partitions/tenureofpartitions/ApiKey"), accessFlags := 16409, slot := 6, constantValue := 0 }, { name := "JOIN_GROUP", type := (.object "com/example/tenure_of_partitions/tenureofpartitions/ApiKey"), accessFlags := 16409, slot := 7, constantValue := 0 }, { name := "HEARTBEAT", type := (.object "com/example/tenure_of_partitions/tenureofpartitions/ApiKey"), accessFlags := 16409, slot := 8, constantValue := 0 }, { name := "LEAVE_GROUP", type := (.object "com/example/tenure_of_partitions/tenureofpartitions/ApiKey"), accessFlags := 16409, slot := 9, constantValue := 0 }, { name := "SYNC_GROUP", type := (.object "com/example/tenure_of_partitions/tenureofpartitions/ApiKey"), accessFlags := 16409, slot := 10, constantValue := 0 }, { name := "DESCRIBE_GROUPS", type := (.object "com/example/tenure_of_partitions/tenureofpartitions/ApiKey"), accessFlags := 16409, slot := 11, constantValue := 0 }, { name := "LIST_GROUPS", type := (.object "com/example/tenure_of_partitions/tenureofpartitions/ApiKey"), accessFlags := 16409, slot := 12, constantValue := 0 }, { name := "API_VERSIONS", type := (.object "com/example/tenure_of_partitions/tenureofpartitions/ApiKey"), accessFlags := 16409, slot := 13, constantValue := 0 }, { name := "key", type := .short, accessFlags := 18, slot := 3, constantValue := 0 }, { name := "minVersion", type := .short, accessFlags := 18, slot := 4, constantValue := 0 }, { name := "maxVersion", type := .short, accessFlags := 18, slot := 5, constantValue := 0 }, { name := "firstFlexibleVersion", type := .int, accessFlags := 18, slot := 6, constantValue := 0 }, { name := "$VALUES", type := (.array (.object "com/example/tenure_of_partitions/tenureofpartitions/ApiKey")), accessFlags := 4122, slot := 14, constantValue := 0 }]
  methods := #[k6m0]
  instanceTypes := #[(.object "java/lang/String"), .int, .int, .short, .short, .short, .int]
  staticTypes := #[(.object "com/example/tenure_of_partitions/tenureofpartitions/ApiKey"), (.object "com/example/tenure_of_partitions/tenureofpartitions/ApiKey"), (.object "com/example/tenure_of_partitions/tenureofpartitions/ApiKey"), (.object "com/example/tenure_of_partitions/tenureofpartitions/ApiKey"), (.object "com/example/tenure_of_partitions/tenureofpartitions/ApiKey"), (.object "com/example/tenure_of_partitions/tenureofpartitions/ApiKey"), (.object "com/example/tenure_of_partitions/tenureofpartitions/ApiKey"), (.object "com/example/tenure_of_partitions/tenureofpartitions/ApiKey"), (.object "com/example/tenure_of_partitions/tenureofpartitions/ApiKey"), (.object "com/example/tenure_of_partitions/tenureofpartitions/ApiKey"), (.object "com/example/tenure_of_partitions/tenureofpartitions/ApiKey"), (.object "com/example/tenure_of_partitions/tenureofpartitions/ApiKey"), (.object "com/example/tenure_of_partitions/tenureofpartitions/ApiKey"), (.object "com/example/tenure_of_partitions/tenureofpartitions/ApiKey"), (.array (.object "com/example/tenure_of_partitions/tenureofpartitions/ApiKey"))]
  resolved := Array.replicate 131 none
  statics := some 0 }

def pool7 : Array CpInfo := pool [(1, u "java/lang/Cloneable"), (0, .class_ 1), (0, u "java/lang/Object"), (0, .class_ 3)] 3

/-- java/lang/Cloneable -/
def k7 : Class := { plain "java/lang/Cloneable" (some 0) with
  accessFlags := 1537
  interfaces := #[]
  cf := some (fileOf pool7 2 #[] #[] 1537 4 #[] #[])
  fields := #[]
  methods := #[]
  instanceTypes := #[]
  staticTypes := #[]
  resolved := Array.replicate 8 none
  statics := none }

/-- the primitive byte -/
def k8 : Class := { plain "byte" none with kind := .primitive 'B', accessFlags := 0x411 }
/-- [B -/
def k9 : Class := { plain "[B" (some 0) with kind := .array 8 .byte, interfaces := #[7, 4], accessFlags := 1041 }

/-- the primitive int -/
def k10 : Class := { plain "int" none with kind := .primitive 'I', accessFlags := 0x411 }
/-- [I -/
def k11 : Class := { plain "[I" (some 0) with kind := .array 10 .int, interfaces := #[7, 4], accessFlags := 1041 }

def heap : Heap := #[{ cls := 6, slots := #[.ref 1, .ref 11, .ref 12, .ref 9, .ref 4, .ref 10, .ref 6, .ref 8, .ref 3, .ref 14, .ref 2, .ref 5, .ref 7, .ref 13, .null], vm := .statics 6 },
  { cls := 6, slots := #[.null, .int 0, .int 0, .int 0, .int 3, .int 3, .int 0], vm := .none },
  { cls := 6, slots := #[.null, .int 0, .int 0, .int 0, .int 0, .int 3, .int 0], vm := .none },
  { cls := 6, slots := #[.null, .int 0, .int 0, .int 0, .int 0, .int 3, .int 0], vm := .none },
  { cls := 6, slots := #[.null, .int 0, .int 0, .int 0, .int 2, .int 7, .int 0], vm := .none },
  { cls := 6, slots := #[.null, .int 0, .int 0, .int 0, .int 0, .int 4, .int 0], vm := .none },
  { cls := 6, slots := #[.null, .int 0, .int 0, .int 0, .int 0, .int 2, .int 0], vm := .none },
  { cls := 6, slots := #[.null, .int 0, .int 0, .int 0, .int 0, .int 0, .int 0], vm := .none },
  { cls := 6, slots := #[.null, .int 0, .int 0, .int 0, .int 0, .int 5, .int 0], vm := .none },
  { cls := 6, slots := #[.null, .int 0, .int 0, .int 0, .int 0, .int 4, .int 0], vm := .none },
  { cls := 6, slots := #[.null, .int 0, .int 0, .int 0, .int 1, .int 7, .int 0], vm := .none },
  { cls := 6, slots := #[.null, .int 0, .int 0, .int 0, .int 4, .int 11, .int 0], vm := .none },
  { cls := 6, slots := #[.null, .int 0, .int 0, .int 0, .int 1, .int 2, .int 0], vm := .none },
  { cls := 6, slots := #[.null, .int 0, .int 0, .int 0, .int 0, .int 3, .int 0], vm := .none },
  { cls := 6, slots := #[.null, .int 0, .int 0, .int 0, .int 0, .int 3, .int 0], vm := .none }]
def classes : Array Class := #[k0, k1, k2, k3, k4, k5, k6, k7, k8, k9, k10, k11]
def interned : List (Array UInt16 × Addr) := []
def slotsUsed : Nat := 113
def theMethod : MethodId := ⟨1, 4⟩
def args0 : Array Value := #[.int 5, .int 5]
def aboutOver (below : List Frame) : State where
  vm := { classes := classes, interned := interned.toArray }
  heap := heap
  slotsUsed := slotsUsed
  threads := #[{ frames := .invoking theMethod args0 :: below }]
def below0 : List Frame := [.native { method := ⟨0, 0⟩, args := #[] }]
def about1 : State := aboutOver below0
def p0 : Program := .bare "" "" ""
def e0 : Env := launch0.env 0 0 0
theorem w_frames : about1.frames = Frame.invoking theMethod args0 :: below0 := rfl
set_option maxRecDepth 65536 in
theorem w_args : argsFit about1.vm theMethod args0 = true := by decide +kernel
set_option maxRecDepth 65536 in
theorem w_heap : heapFits about1 = true := by decide +kernel
set_option maxRecDepth 65536 in
theorem w_runnable : about1.curStatus? = some .runnable := by decide +kernel
set_option maxRecDepth 65536 in
theorem w_alone : about1.alone = true := by decide +kernel
set_option maxRecDepth 65536 in
theorem w_named : about1.methodNamed? x = some theMethod := by decide +kernel
set_option maxRecDepth 65536 in
theorem w_hears : about1.hears theMethod below0 = true := by decide +kernel
set_option maxRecDepth 65536 in
theorem w_ripe : about1.ripe theMethod args0 below0 = true := by decide +kernel
theorem w_running : about1.status = .running := rfl
set_option maxRecDepth 65536 in
theorem w_room : about1.hasRoom e0.platform room_1 = true :=
  launch0.hasRoom_least _ room_1 (by decide +kernel) (by decide +kernel) (by decide +kernel) (by decide +kernel) (by decide +kernel) (by decide +kernel)
theorem allAtoms_all (ts : List Jvm.Cond) (a : Array Jvm.Value) (st : Jvm.State) : (allAtoms ts).before a st = ts.all (fun c => c.before a st) := by
  induction ts with
  | nil => rfl
  | cons c t ih =>
    show (Jvm.Cond.and c (allAtoms t)).before a st = _
    rw [Jvm.Cond.before_and, ih, List.all_cons]
def words1 : List Jvm.Cond := Jvm.Cond.code x code maxLocals ret :: tables_1
/-- a 'code' word, met by the world's own term for the bytes: nothing is compared byte by byte -/
theorem code_word {y : MethodName} {bytes : ByteArray} {mx : Nat} {rt : Option FieldType} {a : Array Value} {s : State} {m : MethodId} {meth : Method} {c : Code} (h1 : s.methodNamed? y = some m) (h2 : s.vm.method? m = some meth) (h3 : meth.code = some c) (h4 : c.code = bytes)
    (h5 : (c.maxLocals == mx && c.exceptionTable.isEmpty && decide (c.maxStack ≤ mostOperands) && decide (meth.sig.returnType = rt) && !meth.locks && decide (parseMethodDescriptor y.desc = some meth.sig)) = true) : (Jvm.Cond.code y bytes mx rt).before a s = true := by
  simp only [Bool.and_eq_true, beq_iff_eq, Bool.not_eq_true', decide_eq_true_eq] at h5
  obtain ⟨⟨⟨⟨⟨g1, g2⟩, g3⟩, g4⟩, g5⟩, g6⟩ := h5
  simp [Cond.before, Cond.holds, Cond.value, h1, h2, h3, h4, g1, g2, g3, g4, g5, g6]
def isCode : Jvm.Cond → Bool
  | .code _ _ _ _ => true
  | _ => false
theorem all_split {L : List Jvm.Cond} {P : Jvm.Cond → Bool} (h1 : L.all (fun c => isCode c || P c) = true) (h2 : ∀ c ∈ L.filter isCode, P c = true) : L.all P = true := by
  refine List.all_eq_true.mpr fun c hc => ?_
  have h := List.all_eq_true.mp h1 c hc
  rcases Bool.eq_false_or_eq_true (isCode c) with hi | hi
  · exact h2 c (List.mem_filter.mpr ⟨hc, hi⟩)
  · simpa [hi] using h
set_option maxRecDepth 65536 in
theorem w_c0 : (Jvm.Cond.code x code maxLocals ret).before args0 about1 = true := code_word (m := ⟨1, 4⟩) (meth := k1m4) (c := k1c4) (by decide +kernel) rfl rfl rfl (by decide +kernel)
set_option maxRecDepth 65536 in
theorem w_c1 : (Jvm.Cond.code ({ cls := "com/example/tenure_of_partitions/tenureofpartitions/ApiKeyServesPinLaw", name := "pick", desc := "(I)Lcom/example/tenure_of_partitions/tenureofpartitions/ApiKey;" } : Jvm.MethodName) method_2_code (1 : Nat) (Option.some (Jvm.ClassFile.FieldType.object "com/example/tenure_of_partitions/tenureofpartitions/ApiKey"))).before args0 about1 = true := code_word (m := ⟨1, 1⟩) (meth := k1m1) (c := k1c1) (by decide +kernel) rfl rfl rfl (by decide +kernel)
set_option maxRecDepth 65536 in
theorem w_c2 : (Jvm.Cond.code ({ cls := "com/example/tenure_of_partitions/tenureofpartitions/ApiKeyServesPinLaw", name := "lo", desc := "(I)I" } : Jvm.MethodName) method_3_code (1 : Nat) (Option.some Jvm.ClassFile.FieldType.int)).before args0 about1 = true := code_word (m := ⟨1, 2⟩) (meth := k1m2) (c := k1c2) (by decide +kernel) rfl rfl rfl (by decide +kernel)
set_option maxRecDepth 65536 in
theorem w_c3 : (Jvm.Cond.code ({ cls := "com/example/tenure_of_partitions/tenureofpartitions/ApiKeyServesPinLaw", name := "hi", desc := "(I)I" } : Jvm.MethodName) method_4_code (1 : Nat) (Option.some Jvm.ClassFile.FieldType.int)).before args0 about1 = true := code_word (m := ⟨1, 3⟩) (meth := k1m3) (c := k1c3) (by decide +kernel) rfl rfl rfl (by decide +kernel)
set_option maxRecDepth 65536 in
theorem w_c4 : (Jvm.Cond.code ({ cls := "com/example/tenure_of_partitions/tenureofpartitions/ApiKey", name := "serves", desc := "(S)Z" } : Jvm.MethodName) prog_1_method_8_code (2 : Nat) (Option.some Jvm.ClassFile.FieldType.boolean)).before args0 about1 = true := code_word (m := ⟨6, 0⟩) (meth := k6m0) (c := k6c0) (by decide +kernel) rfl rfl rfl (by decide +kernel)
def codes1 : List Jvm.Cond := [Jvm.Cond.code x code maxLocals ret, Jvm.Cond.code ({ cls := "com/example/tenure_of_partitions/tenureofpartitions/ApiKeyServesPinLaw", name := "pick", desc := "(I)Lcom/example/tenure_of_partitions/tenureofpartitions/ApiKey;" } : Jvm.MethodName) method_2_code (1 : Nat) (Option.some (Jvm.ClassFile.FieldType.object "com/example/tenure_of_partitions/tenureofpartitions/ApiKey")), Jvm.Cond.code ({ cls := "com/example/tenure_of_partitions/tenureofpartitions/ApiKeyServesPinLaw", name := "lo", desc := "(I)I" } : Jvm.MethodName) method_3_code (1 : Nat) (Option.some Jvm.ClassFile.FieldType.int), Jvm.Cond.code ({ cls := "com/example/tenure_of_partitions/tenureofpartitions/ApiKeyServesPinLaw", name := "hi", desc := "(I)I" } : Jvm.MethodName) method_4_code (1 : Nat) (Option.some Jvm.ClassFile.FieldType.int), Jvm.Cond.code ({ cls := "com/example/tenure_of_partitions/tenureofpartitions/ApiKey", name := "serves", desc := "(S)Z" } : Jvm.MethodName) prog_1_method_8_code (2 : Nat) (Option.some Jvm.ClassFile.FieldType.boolean)]
set_option maxRecDepth 65536 in
theorem codes_eq : words1.filter isCode = codes1 := rfl
theorem w_codes : ∀ c ∈ words1.filter isCode, c.before args0 about1 = true := by
  rw [codes_eq]
  intro c hc
  simp only [codes1, List.mem_cons, List.not_mem_nil, or_false] at hc
  rcases hc with rfl | rfl | rfl | rfl | rfl
  · exact w_c0
  · exact w_c1
  · exact w_c2
  · exact w_c3
  · exact w_c4
set_option maxRecDepth 65536 in
theorem w_t1 : (words1.take 24).all (fun c => isCode c || c.before args0 about1) = true := by decide +kernel
set_option maxRecDepth 65536 in
theorem w_t2 : ((words1.drop 24).take 24).all (fun c => isCode c || c.before args0 about1) = true := by decide +kernel
set_option maxRecDepth 65536 in
theorem w_t3 : ((words1.drop 24).drop 24).all (fun c => isCode c || c.before args0 about1) = true := by decide +kernel
theorem w_tables : (allAtoms (Jvm.Cond.code x code maxLocals ret :: tables_1)).before args0 about1 = true := by
  rw [allAtoms_all]
  show words1.all (fun c => c.before args0 about1) = true
  refine all_split ?_ w_codes
  rw [← List.take_append_drop 24 words1, List.all_append, w_t1, ← List.take_append_drop 24 (words1.drop 24), List.all_append, w_t2, w_t3]
  rfl
set_option maxRecDepth 65536 in
theorem w_case : (Jvm.Cond.and given_1 narrow_1).before args0 about1 = true := by decide +kernel
theorem w_applies : (headSpec (Jvm.Cond.code x code maxLocals ret :: tables_1) room_1).applies x e0.platform about1 = true :=
  (Spec.applies_iff w_frames).mpr ⟨w_running, w_runnable, w_alone, w_named, w_hears, w_ripe, w_room, w_tables⟩
theorem atStart : AtStart classFile x code maxLocals ret World_1 tables_1 room_1 Calls_1 rest_1 Pre_1 launch0 p0 e0 about1 theMethod args0 below0 :=
  ⟨lists_1, trivial, launch0.admits_env _ _ _, launch0.least_env, fairChoices_fair.cas, fairChoices_fair.clock, w_frames, w_args, w_heap, w_applies, trivial, trivial, w_case⟩
end start1
theorem witness_1 : WitnessClaimed_1 := ⟨start1.p0, start1.e0, start1.about1, start1.theMethod, start1.args0, start1.below0, start1.atStart⟩
end Jvm.Pilot.@@N@@
