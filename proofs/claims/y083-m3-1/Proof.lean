import JvmDerived
import JvmDerived.Pilot.@@N@@Statement
import JvmDerived.Pilot.@@N@@Code
set_option linter.unusedVariables false
set_option linter.unusedSimpArgs false
namespace Jvm.Pilot.@@N@@
open Jvm Jvm.ClassFile Sem Op Lib Jvm.Free Jvm.Stand Jvm.LawKit Jvm.RoadKit Bundle Jvm.Pilot.@@N@@.Jvm.D
theorem wdx {a0 : Array Value} {Z : State} (hw : ∀ d ∈ tables_1, d.before a0 Z = true) (i : Nat) {d : Jvm.Cond} (h : tables_1[i]? = some d) : d.before a0 Z = true := hw d (List.mem_of_getElem? h)
/-! the walk in one predicate: from S the run comes to an end at which Q holds -/
def Go (p : Program) (e : Env) (below : List Frame) (s : State) (rc rs : Nat) (Q : Option Value → Heap → List Loc → Prop) (S : State) : Prop :=
  ∃ t o, Steps p.tables e below S t ∧ t.status = .running ∧ Ended t below o ∧ ∃ v L, o = .returned v ∧ Q v t.heap L ∧ FrameEnd s o t L rc rs
section Pre
variable {p : Program} {l : Launch} {e : Env} {R : Room} {s : State} {m : MethodId} {args : Array Value} {below : List Frame} {meth : Method} {c : Code} {T : State} {locs : List Loc} {cells slots rc rs : Nat} {Q : Option Value → Heap → List Loc → Prop} {S S' : State} {h : Heap} {Z : State} {n0 : Nat}
theorem Go.st (k : ∀ t, Steps p.tables e below S' t → Steps p.tables e below S t) (g : Go p e below s rc rs Q S') : Go p e below s rc rs Q S := by
  obtain ⟨t, o, h, r⟩ := g; exact ⟨t, o, k t h, r⟩
theorem Go.tr (k : Steps p.tables e below S S') (g : Go p e below s rc rs Q S') : Go p e below s rc rs Q S := by
  obtain ⟨t, o, h, r⟩ := g; exact ⟨t, o, k.trans h, r⟩
theorem Go.ret (X : Stand p l e R s m args below meth c T locs cells slots) (hx : p.tables.exec = Jvm.exec) (hlk : meth.locks = false) {pc : Nat} {Ls : Array Slot} {w : Value} {t : FieldType} {i : Instr} {rest : List Value} (hret : meth.sig.returnType = some t) (hn : narrow t w = w)
    (hi : (i = .ireturn ∧ (t = .int ∨ t = .boolean ∨ t = .byte ∨ t = .char ∨ t = .short) ∧ ∃ z, w = .int z) ∨ (i = .lreturn ∧ t = .long ∧ ∃ z, w = .long z) ∨ (i = .dreturn ∧ t = .double ∧ ∃ z, w = .double z) ∨ (i = .freturn ∧ t = .float ∧ ∃ z, w = .float z) ∨ (i = .areturn ∧ t.isReference = true ∧ w.isRef = true))
    (hd : decode c.code pc = .ok (i, 1)) (hc : cells ≤ rc) (hs : slots ≤ rs) (hh : T.heap = h) (hq : Q (some w) h locs) : Go p e below s rc rs Q (T.setTop (mkF m pc Ls (w :: rest))) := by
  obtain ⟨fs, hr, hrun, hended, hW, hsame⟩ := X.leave (v := some w) (fun h => by rw [hret] at h; cases h) hlk
  subst hh
  exact ⟨_, _, retOut X hx hret hn hi hd hr, hrun, hended, _, _, rfl, hq, ⟨_, rfl⟩, hW, hsame.mono hc hs⟩
theorem Go.retB (X : Stand p l e R s m args below meth c T locs cells slots) (hx : p.tables.exec = Jvm.exec) (hlk : meth.locks = false) {pc : Nat} {Ls : Array Slot} {z : Int32} {t : FieldType} {rest : List Value} (hret : meth.sig.returnType = some t) (ht : t = .boolean ∨ t = .byte ∨ t = .char ∨ t = .short)
    (hd : decode c.code pc = .ok (.ireturn, 1)) (hc : cells ≤ rc) (hs : slots ≤ rs) (hh : T.heap = h) (hq : Q (some (.int (nar t z))) h locs) : Go p e below s rc rs Q (T.setTop (mkF m pc Ls (.int z :: rest))) := by
  obtain ⟨fs, hr, hrun, hended, hW, hsame⟩ := X.leave (v := some (.int (nar t z))) (fun h => by rw [hret] at h; cases h) hlk
  subst hh
  exact ⟨_, _, retN X hx hret ht hd hr, hrun, hended, _, _, rfl, hq, ⟨_, rfl⟩, hW, hsame.mono hc hs⟩
theorem Go.retV (X : Stand p l e R s m args below meth c T locs cells slots) (hx : p.tables.exec = Jvm.exec) (hlk : meth.locks = false) {pc : Nat} {Ls : Array Slot} (hret : meth.sig.returnType = none)
    (hd : decode c.code pc = .ok (.return_, 1)) (hc : cells ≤ rc) (hs : slots ≤ rs) (hh : T.heap = h) (hq : Q none h locs) : Go p e below s rc rs Q (T.setTop (mkF m pc Ls [])) := by
  obtain ⟨fs, hr, hrun, hended, hW, hsame⟩ := X.leave (v := none) (fun _ => rfl) hlk
  subst hh
  exact ⟨_, _, X.returnOut hx hret hd hr, hrun, hended, _, _, rfl, hq, ⟨_, rfl⟩, hW, hsame.mono hc hs⟩
theorem own_le (O : Old Z n0 h) : n0 ≤ h.size := O.1 ▸ O.2.1
theorem own_nb (b : Bool) : nar .boolean (if b then 1 else 0) = if b then 1 else 0 := by cases b <;> rfl
end Pre
theorem own_en {s : State} {args : Array Value} {C n d K : String} (hx : (Jvm.Cond.exactly (Term.static C n d) K).value args s none s [] = some true) (hi : (Jvm.Cond.initialized C).before args s = true) (hl : (Jvm.Cond.laysStatic C n d).before args s = true) :
    ∃ a, (Term.static C n d).eval args s none [] s = some (.ref a) ∧ Sta s s.heap C n d (.ref a) ∧ Exa s s.heap a K := by
  obtain ⟨a, e1⟩ := exa_v hx
  exact ⟨a, e1, Sta.start e1 (Or.inr ⟨hi, hl⟩), Exa.start e1 hx⟩
theorem own_ef {s : State} {args : Array Value} {t : Term} {a : Addr} {K f d : String} {z : Int32} (ev : t.eval args s none [] s = some (.ref a)) (h : (Jvm.Cond.eq (Term.field t K f d) (Term.int z)).value args s none s [] = some true) : Fld s s.heap a K f d (.int z) :=
  Fld.start ((fld_at ev).symm.trans (eqv_i rfl h))
theorem own_fne {s : State} {h : Heap} {a b : Addr} {K f d : String} {y z : Int32} (F : Fld s h a K f d (.int y)) (G : Fld s h b K f d (.int z)) (q : y ≠ z) : a ≠ b := F.ne G (fun e => q (Value.int.inj e))
theorem own_r14 (y : Int32) (h0 : 0 ≤ y.toInt) (h1 : y.toInt < 14) : y = 0 ∨ y = 1 ∨ y = 2 ∨ y = 3 ∨ y = 4 ∨ y = 5 ∨ y = 6 ∨ y = 7 ∨ y = 8 ∨ y = 9 ∨ y = 10 ∨ y = 11 ∨ y = 12 ∨ y = 13 := by
  have h : y.toInt = 0 ∨ y.toInt = 1 ∨ y.toInt = 2 ∨ y.toInt = 3 ∨ y.toInt = 4 ∨ y.toInt = 5 ∨ y.toInt = 6 ∨ y.toInt = 7 ∨ y.toInt = 8 ∨ y.toInt = 9 ∨ y.toInt = 10 ∨ y.toInt = 11 ∨ y.toInt = 12 ∨ y.toInt = 13 := by omega
  rcases h with h | h | h | h | h | h | h | h | h | h | h | h | h | h
  · exact Or.inl (Int32.toInt_inj.mp h)
  · exact Or.inr (Or.inl (Int32.toInt_inj.mp h))
  · exact Or.inr (Or.inr (Or.inl (Int32.toInt_inj.mp h)))
  · exact Or.inr (Or.inr (Or.inr (Or.inl (Int32.toInt_inj.mp h))))
  · exact Or.inr (Or.inr (Or.inr (Or.inr (Or.inl (Int32.toInt_inj.mp h)))))
  · exact Or.inr (Or.inr (Or.inr (Or.inr (Or.inr (Or.inl (Int32.toInt_inj.mp h))))))
  · exact Or.inr (Or.inr (Or.inr (Or.inr (Or.inr (Or.inr (Or.inl (Int32.toInt_inj.mp h)))))))
  · exact Or.inr (Or.inr (Or.inr (Or.inr (Or.inr (Or.inr (Or.inr (Or.inl (Int32.toInt_inj.mp h))))))))
  · exact Or.inr (Or.inr (Or.inr (Or.inr (Or.inr (Or.inr (Or.inr (Or.inr (Or.inl (Int32.toInt_inj.mp h)))))))))
  · exact Or.inr (Or.inr (Or.inr (Or.inr (Or.inr (Or.inr (Or.inr (Or.inr (Or.inr (Or.inl (Int32.toInt_inj.mp h))))))))))
  · exact Or.inr (Or.inr (Or.inr (Or.inr (Or.inr (Or.inr (Or.inr (Or.inr (Or.inr (Or.inr (Or.inl (Int32.toInt_inj.mp h)))))))))))
  · exact Or.inr (Or.inr (Or.inr (Or.inr (Or.inr (Or.inr (Or.inr (Or.inr (Or.inr (Or.inr (Or.inr (Or.inl (Int32.toInt_inj.mp h))))))))))))
  · exact Or.inr (Or.inr (Or.inr (Or.inr (Or.inr (Or.inr (Or.inr (Or.inr (Or.inr (Or.inr (Or.inr (Or.inr (Or.inl (Int32.toInt_inj.mp h)))))))))))))
  · exact Or.inr (Or.inr (Or.inr (Or.inr (Or.inr (Or.inr (Or.inr (Or.inr (Or.inr (Or.inr (Or.inr (Or.inr (Or.inr ((Int32.toInt_inj.mp h))))))))))))))
theorem own_c14 (u : Int32) : let y := (u &&& (2147483647 : Int32)) % (14 : Int32); y = 0 ∨ y = 1 ∨ y = 2 ∨ y = 3 ∨ y = 4 ∨ y = 5 ∨ y = 6 ∨ y = 7 ∨ y = 8 ∨ y = 9 ∨ y = 10 ∨ y = 11 ∨ y = 12 ∨ y = 13 := by
  intro y
  have hp : 0 ≤ (u &&& (2147483647 : Int32)).toInt := (c_andS u 2147483647).2.2 (by decide)
  have hm : y.toInt = (u &&& (2147483647 : Int32)).toInt % 14 := (c_irem (u &&& (2147483647 : Int32)) 14 14 rfl).1 hp
  exact own_r14 y (by omega) (by omega)
def fpick (u : Int32) (a_PRODUCE : Addr) (a_FETCH : Addr) (a_LIST_OFFSETS : Addr) (a_METADATA : Addr) (a_OFFSET_COMMIT : Addr) (a_OFFSET_FETCH : Addr) (a_FIND_COORDINATOR : Addr) (a_JOIN_GROUP : Addr) (a_HEARTBEAT : Addr) (a_LEAVE_GROUP : Addr) (a_SYNC_GROUP : Addr) (a_DESCRIBE_GROUPS : Addr) (a_LIST_GROUPS : Addr) (a_API_VERSIONS : Addr) : Addr := if u = 0 then a_PRODUCE else if u = 1 then a_FETCH else if u = 2 then a_LIST_OFFSETS else if u = 3 then a_METADATA else if u = 4 then a_OFFSET_COMMIT else if u = 5 then a_OFFSET_FETCH else if u = 6 then a_FIND_COORDINATOR else if u = 7 then a_JOIN_GROUP else if u = 8 then a_HEARTBEAT else if u = 9 then a_LEAVE_GROUP else if u = 10 then a_SYNC_GROUP else if u = 11 then a_DESCRIBE_GROUPS else if u = 12 then a_LIST_GROUPS else a_API_VERSIONS
theorem d1_0 : decode method_3_code 0 = .ok (.iload_n 0, 1) := by decide +kernel
theorem d1_1 : decode method_3_code 1 = .ok (.ifCond .ne 7, 3) := by decide +kernel
theorem d1_4 : decode method_3_code 4 = .ok (.getstatic 20, 3) := by decide +kernel
theorem d1_7 : decode method_3_code 7 = .ok (.areturn, 1) := by decide +kernel
theorem d1_8 : decode method_3_code 8 = .ok (.iload_n 0, 1) := by decide +kernel
theorem d1_9 : decode method_3_code 9 = .ok (.iconst 1, 1) := by decide +kernel
theorem d1_10 : decode method_3_code 10 = .ok (.if_icmp .ne 7, 3) := by decide +kernel
theorem d1_13 : decode method_3_code 13 = .ok (.getstatic 24, 3) := by decide +kernel
theorem d1_16 : decode method_3_code 16 = .ok (.areturn, 1) := by decide +kernel
theorem d1_17 : decode method_3_code 17 = .ok (.iload_n 0, 1) := by decide +kernel
theorem d1_18 : decode method_3_code 18 = .ok (.iconst 2, 1) := by decide +kernel
theorem d1_19 : decode method_3_code 19 = .ok (.if_icmp .ne 7, 3) := by decide +kernel
theorem d1_22 : decode method_3_code 22 = .ok (.getstatic 27, 3) := by decide +kernel
theorem d1_25 : decode method_3_code 25 = .ok (.areturn, 1) := by decide +kernel
theorem d1_26 : decode method_3_code 26 = .ok (.iload_n 0, 1) := by decide +kernel
theorem d1_27 : decode method_3_code 27 = .ok (.iconst 3, 1) := by decide +kernel
theorem d1_28 : decode method_3_code 28 = .ok (.if_icmp .ne 7, 3) := by decide +kernel
theorem d1_31 : decode method_3_code 31 = .ok (.getstatic 30, 3) := by decide +kernel
theorem d1_34 : decode method_3_code 34 = .ok (.areturn, 1) := by decide +kernel
theorem d1_35 : decode method_3_code 35 = .ok (.iload_n 0, 1) := by decide +kernel
theorem d1_36 : decode method_3_code 36 = .ok (.iconst 4, 1) := by decide +kernel
theorem d1_37 : decode method_3_code 37 = .ok (.if_icmp .ne 7, 3) := by decide +kernel
theorem d1_40 : decode method_3_code 40 = .ok (.getstatic 33, 3) := by decide +kernel
theorem d1_43 : decode method_3_code 43 = .ok (.areturn, 1) := by decide +kernel
theorem d1_44 : decode method_3_code 44 = .ok (.iload_n 0, 1) := by decide +kernel
theorem d1_45 : decode method_3_code 45 = .ok (.iconst 5, 1) := by decide +kernel
theorem d1_46 : decode method_3_code 46 = .ok (.if_icmp .ne 7, 3) := by decide +kernel
theorem d1_49 : decode method_3_code 49 = .ok (.getstatic 36, 3) := by decide +kernel
theorem d1_52 : decode method_3_code 52 = .ok (.areturn, 1) := by decide +kernel
theorem d1_53 : decode method_3_code 53 = .ok (.iload_n 0, 1) := by decide +kernel
theorem d1_54 : decode method_3_code 54 = .ok (.bipush 6, 2) := by decide +kernel
theorem d1_56 : decode method_3_code 56 = .ok (.if_icmp .ne 7, 3) := by decide +kernel
theorem d1_59 : decode method_3_code 59 = .ok (.getstatic 39, 3) := by decide +kernel
theorem d1_62 : decode method_3_code 62 = .ok (.areturn, 1) := by decide +kernel
theorem d1_63 : decode method_3_code 63 = .ok (.iload_n 0, 1) := by decide +kernel
theorem d1_64 : decode method_3_code 64 = .ok (.bipush 7, 2) := by decide +kernel
theorem d1_66 : decode method_3_code 66 = .ok (.if_icmp .ne 7, 3) := by decide +kernel
theorem d1_69 : decode method_3_code 69 = .ok (.getstatic 42, 3) := by decide +kernel
theorem d1_72 : decode method_3_code 72 = .ok (.areturn, 1) := by decide +kernel
theorem d1_73 : decode method_3_code 73 = .ok (.iload_n 0, 1) := by decide +kernel
theorem d1_74 : decode method_3_code 74 = .ok (.bipush 8, 2) := by decide +kernel
theorem d1_76 : decode method_3_code 76 = .ok (.if_icmp .ne 7, 3) := by decide +kernel
theorem d1_79 : decode method_3_code 79 = .ok (.getstatic 45, 3) := by decide +kernel
theorem d1_82 : decode method_3_code 82 = .ok (.areturn, 1) := by decide +kernel
theorem d1_83 : decode method_3_code 83 = .ok (.iload_n 0, 1) := by decide +kernel
theorem d1_84 : decode method_3_code 84 = .ok (.bipush 9, 2) := by decide +kernel
theorem d1_86 : decode method_3_code 86 = .ok (.if_icmp .ne 7, 3) := by decide +kernel
theorem d1_89 : decode method_3_code 89 = .ok (.getstatic 48, 3) := by decide +kernel
theorem d1_92 : decode method_3_code 92 = .ok (.areturn, 1) := by decide +kernel
theorem d1_93 : decode method_3_code 93 = .ok (.iload_n 0, 1) := by decide +kernel
theorem d1_94 : decode method_3_code 94 = .ok (.bipush 10, 2) := by decide +kernel
theorem d1_96 : decode method_3_code 96 = .ok (.if_icmp .ne 7, 3) := by decide +kernel
theorem d1_99 : decode method_3_code 99 = .ok (.getstatic 51, 3) := by decide +kernel
theorem d1_102 : decode method_3_code 102 = .ok (.areturn, 1) := by decide +kernel
theorem d1_103 : decode method_3_code 103 = .ok (.iload_n 0, 1) := by decide +kernel
theorem d1_104 : decode method_3_code 104 = .ok (.bipush 11, 2) := by decide +kernel
theorem d1_106 : decode method_3_code 106 = .ok (.if_icmp .ne 7, 3) := by decide +kernel
theorem d1_109 : decode method_3_code 109 = .ok (.getstatic 54, 3) := by decide +kernel
theorem d1_112 : decode method_3_code 112 = .ok (.areturn, 1) := by decide +kernel
theorem d1_113 : decode method_3_code 113 = .ok (.iload_n 0, 1) := by decide +kernel
theorem d1_114 : decode method_3_code 114 = .ok (.bipush 12, 2) := by decide +kernel
theorem d1_116 : decode method_3_code 116 = .ok (.if_icmp .ne 7, 3) := by decide +kernel
theorem d1_119 : decode method_3_code 119 = .ok (.getstatic 57, 3) := by decide +kernel
theorem d1_122 : decode method_3_code 122 = .ok (.areturn, 1) := by decide +kernel
theorem d1_123 : decode method_3_code 123 = .ok (.getstatic 60, 3) := by decide +kernel
theorem d1_126 : decode method_3_code 126 = .ok (.areturn, 1) := by decide +kernel
theorem pn_com_example_tenure_of_partitions_tenureofpartitions_ApiKeyIsFlexiblePinLaw : plainName "com/example/tenure_of_partitions/tenureofpartitions/ApiKeyIsFlexiblePinLaw" = true := by first | (simp [plainName, overriddenIn]; done) | decide +kernel
theorem ef_rm1 (m : MethodId) (u : Int32) : entryFrame m #[(.int u)] 1 = mkF m 0 #[.val (.int u)] [] := by first | (simp [entryFrame, mkF, argsToLocals, Value.category]; done) | rfl
def Q1 (Z : State) (u : Int32) (a_PRODUCE : Addr) (a_FETCH : Addr) (a_LIST_OFFSETS : Addr) (a_METADATA : Addr) (a_OFFSET_COMMIT : Addr) (a_OFFSET_FETCH : Addr) (a_FIND_COORDINATOR : Addr) (a_JOIN_GROUP : Addr) (a_HEARTBEAT : Addr) (a_LEAVE_GROUP : Addr) (a_SYNC_GROUP : Addr) (a_DESCRIBE_GROUPS : Addr) (a_LIST_GROUPS : Addr) (a_API_VERSIONS : Addr) (h0 : Heap) (n0 : Nat) (v : Option Value) (h : Heap) (L : List Loc) : Prop := v = some (.ref (fpick u a_PRODUCE a_FETCH a_LIST_OFFSETS a_METADATA a_OFFSET_COMMIT a_OFFSET_FETCH a_FIND_COORDINATOR a_JOIN_GROUP a_HEARTBEAT a_LEAVE_GROUP a_SYNC_GROUP a_DESCRIBE_GROUPS a_LIST_GROUPS a_API_VERSIONS)) ∧ Fr n0 L ∧ h = h0
set_option maxRecDepth 65536 in
set_option maxHeartbeats 40000000 in
theorem rm1 (l : Launch) (Z : State) (a0 : Array Value) (hw : ∀ d ∈ tables_1, d.before a0 Z = true) (ws : List Jvm.Cond) (u : Int32) (a_PRODUCE : Addr) (a_FETCH : Addr) (a_LIST_OFFSETS : Addr) (a_METADATA : Addr) (a_OFFSET_COMMIT : Addr) (a_OFFSET_FETCH : Addr) (a_FIND_COORDINATOR : Addr) (a_JOIN_GROUP : Addr) (a_HEARTBEAT : Addr) (a_LEAVE_GROUP : Addr) (a_SYNC_GROUP : Addr) (a_DESCRIBE_GROUPS : Addr) (a_LIST_GROUPS : Addr) (a_API_VERSIONS : Addr) (h0 : Heap) (n0 : Nat) (O0 : Old Z n0 h0) (S_PRODUCE : Sta Z Z.heap "com/example/tenure_of_partitions/tenureofpartitions/ApiKey" "PRODUCE" "Lcom/example/tenure_of_partitions/tenureofpartitions/ApiKey;" (.ref a_PRODUCE)) (S_FETCH : Sta Z Z.heap "com/example/tenure_of_partitions/tenureofpartitions/ApiKey" "FETCH" "Lcom/example/tenure_of_partitions/tenureofpartitions/ApiKey;" (.ref a_FETCH)) (S_LIST_OFFSETS : Sta Z Z.heap "com/example/tenure_of_partitions/tenureofpartitions/ApiKey" "LIST_OFFSETS" "Lcom/example/tenure_of_partitions/tenureofpartitions/ApiKey;" (.ref a_LIST_OFFSETS)) (S_METADATA : Sta Z Z.heap "com/example/tenure_of_partitions/tenureofpartitions/ApiKey" "METADATA" "Lcom/example/tenure_of_partitions/tenureofpartitions/ApiKey;" (.ref a_METADATA)) (S_OFFSET_COMMIT : Sta Z Z.heap "com/example/tenure_of_partitions/tenureofpartitions/ApiKey" "OFFSET_COMMIT" "Lcom/example/tenure_of_partitions/tenureofpartitions/ApiKey;" (.ref a_OFFSET_COMMIT)) (S_OFFSET_FETCH : Sta Z Z.heap "com/example/tenure_of_partitions/tenureofpartitions/ApiKey" "OFFSET_FETCH" "Lcom/example/tenure_of_partitions/tenureofpartitions/ApiKey;" (.ref a_OFFSET_FETCH)) (S_FIND_COORDINATOR : Sta Z Z.heap "com/example/tenure_of_partitions/tenureofpartitions/ApiKey" "FIND_COORDINATOR" "Lcom/example/tenure_of_partitions/tenureofpartitions/ApiKey;" (.ref a_FIND_COORDINATOR)) (S_JOIN_GROUP : Sta Z Z.heap "com/example/tenure_of_partitions/tenureofpartitions/ApiKey" "JOIN_GROUP" "Lcom/example/tenure_of_partitions/tenureofpartitions/ApiKey;" (.ref a_JOIN_GROUP)) (S_HEARTBEAT : Sta Z Z.heap "com/example/tenure_of_partitions/tenureofpartitions/ApiKey" "HEARTBEAT" "Lcom/example/tenure_of_partitions/tenureofpartitions/ApiKey;" (.ref a_HEARTBEAT)) (S_LEAVE_GROUP : Sta Z Z.heap "com/example/tenure_of_partitions/tenureofpartitions/ApiKey" "LEAVE_GROUP" "Lcom/example/tenure_of_partitions/tenureofpartitions/ApiKey;" (.ref a_LEAVE_GROUP)) (S_SYNC_GROUP : Sta Z Z.heap "com/example/tenure_of_partitions/tenureofpartitions/ApiKey" "SYNC_GROUP" "Lcom/example/tenure_of_partitions/tenureofpartitions/ApiKey;" (.ref a_SYNC_GROUP)) (S_DESCRIBE_GROUPS : Sta Z Z.heap "com/example/tenure_of_partitions/tenureofpartitions/ApiKey" "DESCRIBE_GROUPS" "Lcom/example/tenure_of_partitions/tenureofpartitions/ApiKey;" (.ref a_DESCRIBE_GROUPS)) (S_LIST_GROUPS : Sta Z Z.heap "com/example/tenure_of_partitions/tenureofpartitions/ApiKey" "LIST_GROUPS" "Lcom/example/tenure_of_partitions/tenureofpartitions/ApiKey;" (.ref a_LIST_GROUPS)) (S_API_VERSIONS : Sta Z Z.heap "com/example/tenure_of_partitions/tenureofpartitions/ApiKey" "API_VERSIONS" "Lcom/example/tenure_of_partitions/tenureofpartitions/ApiKey;" (.ref a_API_VERSIONS)) :
    MetFree l (⟨"com/example/tenure_of_partitions/tenureofpartitions/ApiKeyIsFlexiblePinLaw", "pick", "(I)Lcom/example/tenure_of_partitions/tenureofpartitions/ApiKey;"⟩ : MethodName) (head1 (Jvm.Cond.code (⟨"com/example/tenure_of_partitions/tenureofpartitions/ApiKeyIsFlexiblePinLaw", "pick", "(I)Lcom/example/tenure_of_partitions/tenureofpartitions/ApiKey;"⟩ : MethodName) method_3_code 1 (some (.object "com/example/tenure_of_partitions/tenureofpartitions/ApiKey")) :: ws) ({ frames := 0, cells := 0, slots := 0, locals := 0 } : Room)) (fun ay U => ay = #[(.int u)] ∧ Z.Warmed39 U.vm ∧ U.heap = h0) (fun _ _ _ _ _ => True) (fun _ U o U' => ∃ v L, o = .returned v ∧ Q1 Z u a_PRODUCE a_FETCH a_LIST_OFFSETS a_METADATA a_OFFSET_COMMIT a_OFFSET_FETCH a_FIND_COORDINATOR a_JOIN_GROUP a_HEARTBEAT a_LEAVE_GROUP a_SYNC_GROUP a_DESCRIBE_GROUPS a_LIST_GROUPS a_API_VERSIONS h0 n0 v U'.heap L ∧ FrameEnd U o U' L ({ frames := 0, cells := 0, slots := 0, locals := 0 } : Room).cells ({ frames := 0, cells := 0, slots := 0, locals := 0 } : Room).slots) := by
  refine MetFree.of_bodySF (plainFor_of_name pn_com_example_tenure_of_partitions_tenureofpartitions_ApiKeyIsFlexiblePinLaw) hisR ?_
  intro p e s m args below meth c s₁ Bd hml0 hP hK
  obtain ⟨rfl, hZ, hh⟩ := hP
  have hx := Bd.exec
  have hby := Bd.bytes
  have hlk : meth.locks = false := BodyLoose.notSynchronized Bd
  have hml : c.maxLocals = 1 := hml0
  have hown : s.vm.findClass "com/example/tenure_of_partitions/tenureofpartitions/ApiKeyIsFlexiblePinLaw" = some m.cls := findClass_of_methodNamed Bd.named
  have hnm := (name_of_methodNamed Bd.named Bd.method).1
  have X0 : Stand p l e ({ frames := 0, cells := 0, slots := 0, locals := 0 } : Room) s m #[(.int u)] below meth c s₁ [] 0 0 := Stand.of_body Bd
  have e0 : s₁.heap = h0 := by rw [← hh, Bd.state]; rfl
  have N0 := Fr.nil n0
  suffices hgo : Go p e below s 0 0 (Q1 Z u a_PRODUCE a_FETCH a_LIST_OFFSETS a_METADATA a_OFFSET_COMMIT a_OFFSET_FETCH a_FIND_COORDINATOR a_JOIN_GROUP a_HEARTBEAT a_LEAVE_GROUP a_SYNC_GROUP a_DESCRIBE_GROUPS a_LIST_GROUPS a_API_VERSIONS h0 n0) (s₁.setTop (mkF m 0 #[.val (.int u)] [])) by
    obtain ⟨t, o, h1, h2⟩ := hgo; exact ⟨t, o, castTop (ef_rm1 m u) h1, h2⟩
  show Go p e below s _ _ _ (s₁.setTop (mkF m 0 #[.val (.int u)] []))
  refine Go.st (fun _ k' => XS.iloadN X0.here hx rfl (hb hby d1_0) rfl k') ?_
  show Go p e below s _ _ _ (s₁.setTop (mkF m 1 #[.val (.int u)] [(.int u)]))
  by_cases hc1 : u = (0 : Int32)
  · refine Go.st (fun _ k' => XS.ifNo X0.here hx rfl (hb hby d1_1) rfl (XT.i0_ne_f hc1) k') ?_
    show Go p e below s _ _ _ (s₁.setTop (mkF m 4 #[.val (.int u)] []))
    obtain ⟨T2, X2, e2, st2⟩ := getS2 X0 hx hZ hown (host := "") (Or.inl (wdx hw 5 rfl)) Via.refl e0 (S_PRODUCE.ext O0.2) (g := (mkF m 4 #[.val (.int u)] [])) rfl (hb hby d1_4)
    refine Go.st st2 ?_
    show Go p e below s _ _ _ (T2.setTop (mkF m 7 #[.val (.int u)] [(.ref a_PRODUCE)]))
    refine Go.ret X2 hx hlk (t := (.object "com/example/tenure_of_partitions/tenureofpartitions/ApiKey")) Bd.returns rfl (Or.inr (Or.inr (Or.inr (Or.inr ⟨rfl, rfl, rfl⟩)))) (hb hby d1_7) (by decide) (by decide) e2 ?_
    exact ⟨(by simp [fpick, hc1]), N0, rfl⟩
  · refine Go.st (fun _ k' => XS.ifYes X0.here hx rfl (pc0 := 1) (pc' := 8) rfl (hb hby d1_1) rfl (XT.i0_ne_t hc1) (by decide) (by decide) k') ?_
    show Go p e below s _ _ _ (s₁.setTop (mkF m 8 #[.val (.int u)] []))
    refine Go.st (fun _ k' => XS.iloadN X0.here hx rfl (hb hby d1_8) rfl k') ?_
    show Go p e below s _ _ _ (s₁.setTop (mkF m 9 #[.val (.int u)] [(.int u)]))
    refine Go.st (fun _ k' => XS.iconst X0.here hx rfl (hb hby d1_9) k') ?_
    show Go p e below s _ _ _ (s₁.setTop (mkF m 10 #[.val (.int u)] [(.int (1 : Int32)), (.int u)]))
    by_cases hc3 : u = (1 : Int32)
    · refine Go.st (fun _ k' => XS.icmpNo X0.here hx rfl (hb hby d1_10) rfl (XT.ii_ne_f hc3) k') ?_
      show Go p e below s _ _ _ (s₁.setTop (mkF m 13 #[.val (.int u)] []))
      obtain ⟨T4, X4, e4, st4⟩ := getS2 X0 hx hZ hown (host := "") (Or.inl (wdx hw 33 rfl)) Via.refl e0 (S_FETCH.ext O0.2) (g := (mkF m 13 #[.val (.int u)] [])) rfl (hb hby d1_13)
      refine Go.st st4 ?_
      show Go p e below s _ _ _ (T4.setTop (mkF m 16 #[.val (.int u)] [(.ref a_FETCH)]))
      refine Go.ret X4 hx hlk (t := (.object "com/example/tenure_of_partitions/tenureofpartitions/ApiKey")) Bd.returns rfl (Or.inr (Or.inr (Or.inr (Or.inr ⟨rfl, rfl, rfl⟩)))) (hb hby d1_16) (by decide) (by decide) e4 ?_
      exact ⟨(by simp [fpick, hc1, hc3]), N0, rfl⟩
    · refine Go.st (fun _ k' => XS.icmpYes X0.here hx rfl (pc0 := 10) (pc' := 17) rfl (hb hby d1_10) rfl (XT.ii_ne_t hc3) (by decide) (by decide) k') ?_
      show Go p e below s _ _ _ (s₁.setTop (mkF m 17 #[.val (.int u)] []))
      refine Go.st (fun _ k' => XS.iloadN X0.here hx rfl (hb hby d1_17) rfl k') ?_
      show Go p e below s _ _ _ (s₁.setTop (mkF m 18 #[.val (.int u)] [(.int u)]))
      refine Go.st (fun _ k' => XS.iconst X0.here hx rfl (hb hby d1_18) k') ?_
      show Go p e below s _ _ _ (s₁.setTop (mkF m 19 #[.val (.int u)] [(.int (2 : Int32)), (.int u)]))
      by_cases hc5 : u = (2 : Int32)
      · refine Go.st (fun _ k' => XS.icmpNo X0.here hx rfl (hb hby d1_19) rfl (XT.ii_ne_f hc5) k') ?_
        show Go p e below s _ _ _ (s₁.setTop (mkF m 22 #[.val (.int u)] []))
        obtain ⟨T6, X6, e6, st6⟩ := getS2 X0 hx hZ hown (host := "") (Or.inl (wdx hw 35 rfl)) Via.refl e0 (S_LIST_OFFSETS.ext O0.2) (g := (mkF m 22 #[.val (.int u)] [])) rfl (hb hby d1_22)
        refine Go.st st6 ?_
        show Go p e below s _ _ _ (T6.setTop (mkF m 25 #[.val (.int u)] [(.ref a_LIST_OFFSETS)]))
        refine Go.ret X6 hx hlk (t := (.object "com/example/tenure_of_partitions/tenureofpartitions/ApiKey")) Bd.returns rfl (Or.inr (Or.inr (Or.inr (Or.inr ⟨rfl, rfl, rfl⟩)))) (hb hby d1_25) (by decide) (by decide) e6 ?_
        exact ⟨(by simp [fpick, hc1, hc3, hc5]), N0, rfl⟩
      · refine Go.st (fun _ k' => XS.icmpYes X0.here hx rfl (pc0 := 19) (pc' := 26) rfl (hb hby d1_19) rfl (XT.ii_ne_t hc5) (by decide) (by decide) k') ?_
        show Go p e below s _ _ _ (s₁.setTop (mkF m 26 #[.val (.int u)] []))
        refine Go.st (fun _ k' => XS.iloadN X0.here hx rfl (hb hby d1_26) rfl k') ?_
        show Go p e below s _ _ _ (s₁.setTop (mkF m 27 #[.val (.int u)] [(.int u)]))
        refine Go.st (fun _ k' => XS.iconst X0.here hx rfl (hb hby d1_27) k') ?_
        show Go p e below s _ _ _ (s₁.setTop (mkF m 28 #[.val (.int u)] [(.int (3 : Int32)), (.int u)]))
        by_cases hc7 : u = (3 : Int32)
        · refine Go.st (fun _ k' => XS.icmpNo X0.here hx rfl (hb hby d1_28) rfl (XT.ii_ne_f hc7) k') ?_
          show Go p e below s _ _ _ (s₁.setTop (mkF m 31 #[.val (.int u)] []))
          obtain ⟨T8, X8, e8, st8⟩ := getS2 X0 hx hZ hown (host := "") (Or.inl (wdx hw 29 rfl)) Via.refl e0 (S_METADATA.ext O0.2) (g := (mkF m 31 #[.val (.int u)] [])) rfl (hb hby d1_31)
          refine Go.st st8 ?_
          show Go p e below s _ _ _ (T8.setTop (mkF m 34 #[.val (.int u)] [(.ref a_METADATA)]))
          refine Go.ret X8 hx hlk (t := (.object "com/example/tenure_of_partitions/tenureofpartitions/ApiKey")) Bd.returns rfl (Or.inr (Or.inr (Or.inr (Or.inr ⟨rfl, rfl, rfl⟩)))) (hb hby d1_34) (by decide) (by decide) e8 ?_
          exact ⟨(by simp [fpick, hc1, hc3, hc5, hc7]), N0, rfl⟩
        · refine Go.st (fun _ k' => XS.icmpYes X0.here hx rfl (pc0 := 28) (pc' := 35) rfl (hb hby d1_28) rfl (XT.ii_ne_t hc7) (by decide) (by decide) k') ?_
          show Go p e below s _ _ _ (s₁.setTop (mkF m 35 #[.val (.int u)] []))
          refine Go.st (fun _ k' => XS.iloadN X0.here hx rfl (hb hby d1_35) rfl k') ?_
          show Go p e below s _ _ _ (s₁.setTop (mkF m 36 #[.val (.int u)] [(.int u)]))
          refine Go.st (fun _ k' => XS.iconst X0.here hx rfl (hb hby d1_36) k') ?_
          show Go p e below s _ _ _ (s₁.setTop (mkF m 37 #[.val (.int u)] [(.int (4 : Int32)), (.int u)]))
          by_cases hc9 : u = (4 : Int32)
          · refine Go.st (fun _ k' => XS.icmpNo X0.here hx rfl (hb hby d1_37) rfl (XT.ii_ne_f hc9) k') ?_
            show Go p e below s _ _ _ (s₁.setTop (mkF m 40 #[.val (.int u)] []))
            obtain ⟨T10, X10, e10, st10⟩ := getS2 X0 hx hZ hown (host := "") (Or.inl (wdx hw 19 rfl)) Via.refl e0 (S_OFFSET_COMMIT.ext O0.2) (g := (mkF m 40 #[.val (.int u)] [])) rfl (hb hby d1_40)
            refine Go.st st10 ?_
            show Go p e below s _ _ _ (T10.setTop (mkF m 43 #[.val (.int u)] [(.ref a_OFFSET_COMMIT)]))
            refine Go.ret X10 hx hlk (t := (.object "com/example/tenure_of_partitions/tenureofpartitions/ApiKey")) Bd.returns rfl (Or.inr (Or.inr (Or.inr (Or.inr ⟨rfl, rfl, rfl⟩)))) (hb hby d1_43) (by decide) (by decide) e10 ?_
            exact ⟨(by simp [fpick, hc1, hc3, hc5, hc7, hc9]), N0, rfl⟩
          · refine Go.st (fun _ k' => XS.icmpYes X0.here hx rfl (pc0 := 37) (pc' := 44) rfl (hb hby d1_37) rfl (XT.ii_ne_t hc9) (by decide) (by decide) k') ?_
            show Go p e below s _ _ _ (s₁.setTop (mkF m 44 #[.val (.int u)] []))
            refine Go.st (fun _ k' => XS.iloadN X0.here hx rfl (hb hby d1_44) rfl k') ?_
            show Go p e below s _ _ _ (s₁.setTop (mkF m 45 #[.val (.int u)] [(.int u)]))
            refine Go.st (fun _ k' => XS.iconst X0.here hx rfl (hb hby d1_45) k') ?_
            show Go p e below s _ _ _ (s₁.setTop (mkF m 46 #[.val (.int u)] [(.int (5 : Int32)), (.int u)]))
            by_cases hc11 : u = (5 : Int32)
            · refine Go.st (fun _ k' => XS.icmpNo X0.here hx rfl (hb hby d1_46) rfl (XT.ii_ne_f hc11) k') ?_
              show Go p e below s _ _ _ (s₁.setTop (mkF m 49 #[.val (.int u)] []))
              obtain ⟨T12, X12, e12, st12⟩ := getS2 X0 hx hZ hown (host := "") (Or.inl (wdx hw 31 rfl)) Via.refl e0 (S_OFFSET_FETCH.ext O0.2) (g := (mkF m 49 #[.val (.int u)] [])) rfl (hb hby d1_49)
              refine Go.st st12 ?_
              show Go p e below s _ _ _ (T12.setTop (mkF m 52 #[.val (.int u)] [(.ref a_OFFSET_FETCH)]))
              refine Go.ret X12 hx hlk (t := (.object "com/example/tenure_of_partitions/tenureofpartitions/ApiKey")) Bd.returns rfl (Or.inr (Or.inr (Or.inr (Or.inr ⟨rfl, rfl, rfl⟩)))) (hb hby d1_52) (by decide) (by decide) e12 ?_
              exact ⟨(by simp [fpick, hc1, hc3, hc5, hc7, hc9, hc11]), N0, rfl⟩
            · refine Go.st (fun _ k' => XS.icmpYes X0.here hx rfl (pc0 := 46) (pc' := 53) rfl (hb hby d1_46) rfl (XT.ii_ne_t hc11) (by decide) (by decide) k') ?_
              show Go p e below s _ _ _ (s₁.setTop (mkF m 53 #[.val (.int u)] []))
              refine Go.st (fun _ k' => XS.iloadN X0.here hx rfl (hb hby d1_53) rfl k') ?_
              show Go p e below s _ _ _ (s₁.setTop (mkF m 54 #[.val (.int u)] [(.int u)]))
              refine Go.st (fun _ k' => XS.bipush X0.here hx rfl (hb hby d1_54) k') ?_
              show Go p e below s _ _ _ (s₁.setTop (mkF m 56 #[.val (.int u)] [(.int (6 : Int32)), (.int u)]))
              by_cases hc13 : u = (6 : Int32)
              · refine Go.st (fun _ k' => XS.icmpNo X0.here hx rfl (hb hby d1_56) rfl (XT.ii_ne_f hc13) k') ?_
                show Go p e below s _ _ _ (s₁.setTop (mkF m 59 #[.val (.int u)] []))
                obtain ⟨T14, X14, e14, st14⟩ := getS2 X0 hx hZ hown (host := "") (Or.inl (wdx hw 23 rfl)) Via.refl e0 (S_FIND_COORDINATOR.ext O0.2) (g := (mkF m 59 #[.val (.int u)] [])) rfl (hb hby d1_59)
                refine Go.st st14 ?_
                show Go p e below s _ _ _ (T14.setTop (mkF m 62 #[.val (.int u)] [(.ref a_FIND_COORDINATOR)]))
                refine Go.ret X14 hx hlk (t := (.object "com/example/tenure_of_partitions/tenureofpartitions/ApiKey")) Bd.returns rfl (Or.inr (Or.inr (Or.inr (Or.inr ⟨rfl, rfl, rfl⟩)))) (hb hby d1_62) (by decide) (by decide) e14 ?_
                exact ⟨(by simp [fpick, hc1, hc3, hc5, hc7, hc9, hc11, hc13]), N0, rfl⟩
              · refine Go.st (fun _ k' => XS.icmpYes X0.here hx rfl (pc0 := 56) (pc' := 63) rfl (hb hby d1_56) rfl (XT.ii_ne_t hc13) (by decide) (by decide) k') ?_
                show Go p e below s _ _ _ (s₁.setTop (mkF m 63 #[.val (.int u)] []))
                refine Go.st (fun _ k' => XS.iloadN X0.here hx rfl (hb hby d1_63) rfl k') ?_
                show Go p e below s _ _ _ (s₁.setTop (mkF m 64 #[.val (.int u)] [(.int u)]))
                refine Go.st (fun _ k' => XS.bipush X0.here hx rfl (hb hby d1_64) k') ?_
                show Go p e below s _ _ _ (s₁.setTop (mkF m 66 #[.val (.int u)] [(.int (7 : Int32)), (.int u)]))
                by_cases hc15 : u = (7 : Int32)
                · refine Go.st (fun _ k' => XS.icmpNo X0.here hx rfl (hb hby d1_66) rfl (XT.ii_ne_f hc15) k') ?_
                  show Go p e below s _ _ _ (s₁.setTop (mkF m 69 #[.val (.int u)] []))
                  obtain ⟨T16, X16, e16, st16⟩ := getS2 X0 hx hZ hown (host := "") (Or.inl (wdx hw 27 rfl)) Via.refl e0 (S_JOIN_GROUP.ext O0.2) (g := (mkF m 69 #[.val (.int u)] [])) rfl (hb hby d1_69)
                  refine Go.st st16 ?_
                  show Go p e below s _ _ _ (T16.setTop (mkF m 72 #[.val (.int u)] [(.ref a_JOIN_GROUP)]))
                  refine Go.ret X16 hx hlk (t := (.object "com/example/tenure_of_partitions/tenureofpartitions/ApiKey")) Bd.returns rfl (Or.inr (Or.inr (Or.inr (Or.inr ⟨rfl, rfl, rfl⟩)))) (hb hby d1_72) (by decide) (by decide) e16 ?_
                  exact ⟨(by simp [fpick, hc1, hc3, hc5, hc7, hc9, hc11, hc13, hc15]), N0, rfl⟩
                · refine Go.st (fun _ k' => XS.icmpYes X0.here hx rfl (pc0 := 66) (pc' := 73) rfl (hb hby d1_66) rfl (XT.ii_ne_t hc15) (by decide) (by decide) k') ?_
                  show Go p e below s _ _ _ (s₁.setTop (mkF m 73 #[.val (.int u)] []))
                  refine Go.st (fun _ k' => XS.iloadN X0.here hx rfl (hb hby d1_73) rfl k') ?_
                  show Go p e below s _ _ _ (s₁.setTop (mkF m 74 #[.val (.int u)] [(.int u)]))
                  refine Go.st (fun _ k' => XS.bipush X0.here hx rfl (hb hby d1_74) k') ?_
                  show Go p e below s _ _ _ (s₁.setTop (mkF m 76 #[.val (.int u)] [(.int (8 : Int32)), (.int u)]))
                  by_cases hc17 : u = (8 : Int32)
                  · refine Go.st (fun _ k' => XS.icmpNo X0.here hx rfl (hb hby d1_76) rfl (XT.ii_ne_f hc17) k') ?_
                    show Go p e below s _ _ _ (s₁.setTop (mkF m 79 #[.val (.int u)] []))
                    obtain ⟨T18, X18, e18, st18⟩ := getS2 X0 hx hZ hown (host := "") (Or.inl (wdx hw 17 rfl)) Via.refl e0 (S_HEARTBEAT.ext O0.2) (g := (mkF m 79 #[.val (.int u)] [])) rfl (hb hby d1_79)
                    refine Go.st st18 ?_
                    show Go p e below s _ _ _ (T18.setTop (mkF m 82 #[.val (.int u)] [(.ref a_HEARTBEAT)]))
                    refine Go.ret X18 hx hlk (t := (.object "com/example/tenure_of_partitions/tenureofpartitions/ApiKey")) Bd.returns rfl (Or.inr (Or.inr (Or.inr (Or.inr ⟨rfl, rfl, rfl⟩)))) (hb hby d1_82) (by decide) (by decide) e18 ?_
                    exact ⟨(by simp [fpick, hc1, hc3, hc5, hc7, hc9, hc11, hc13, hc15, hc17]), N0, rfl⟩
                  · refine Go.st (fun _ k' => XS.icmpYes X0.here hx rfl (pc0 := 76) (pc' := 83) rfl (hb hby d1_76) rfl (XT.ii_ne_t hc17) (by decide) (by decide) k') ?_
                    show Go p e below s _ _ _ (s₁.setTop (mkF m 83 #[.val (.int u)] []))
                    refine Go.st (fun _ k' => XS.iloadN X0.here hx rfl (hb hby d1_83) rfl k') ?_
                    show Go p e below s _ _ _ (s₁.setTop (mkF m 84 #[.val (.int u)] [(.int u)]))
                    refine Go.st (fun _ k' => XS.bipush X0.here hx rfl (hb hby d1_84) k') ?_
                    show Go p e below s _ _ _ (s₁.setTop (mkF m 86 #[.val (.int u)] [(.int (9 : Int32)), (.int u)]))
                    by_cases hc19 : u = (9 : Int32)
                    · refine Go.st (fun _ k' => XS.icmpNo X0.here hx rfl (hb hby d1_86) rfl (XT.ii_ne_f hc19) k') ?_
                      show Go p e below s _ _ _ (s₁.setTop (mkF m 89 #[.val (.int u)] []))
                      obtain ⟨T20, X20, e20, st20⟩ := getS2 X0 hx hZ hown (host := "") (Or.inl (wdx hw 39 rfl)) Via.refl e0 (S_LEAVE_GROUP.ext O0.2) (g := (mkF m 89 #[.val (.int u)] [])) rfl (hb hby d1_89)
                      refine Go.st st20 ?_
                      show Go p e below s _ _ _ (T20.setTop (mkF m 92 #[.val (.int u)] [(.ref a_LEAVE_GROUP)]))
                      refine Go.ret X20 hx hlk (t := (.object "com/example/tenure_of_partitions/tenureofpartitions/ApiKey")) Bd.returns rfl (Or.inr (Or.inr (Or.inr (Or.inr ⟨rfl, rfl, rfl⟩)))) (hb hby d1_92) (by decide) (by decide) e20 ?_
                      exact ⟨(by simp [fpick, hc1, hc3, hc5, hc7, hc9, hc11, hc13, hc15, hc17, hc19]), N0, rfl⟩
                    · refine Go.st (fun _ k' => XS.icmpYes X0.here hx rfl (pc0 := 86) (pc' := 93) rfl (hb hby d1_86) rfl (XT.ii_ne_t hc19) (by decide) (by decide) k') ?_
                      show Go p e below s _ _ _ (s₁.setTop (mkF m 93 #[.val (.int u)] []))
                      refine Go.st (fun _ k' => XS.iloadN X0.here hx rfl (hb hby d1_93) rfl k') ?_
                      show Go p e below s _ _ _ (s₁.setTop (mkF m 94 #[.val (.int u)] [(.int u)]))
                      refine Go.st (fun _ k' => XS.bipush X0.here hx rfl (hb hby d1_94) k') ?_
                      show Go p e below s _ _ _ (s₁.setTop (mkF m 96 #[.val (.int u)] [(.int (10 : Int32)), (.int u)]))
                      by_cases hc21 : u = (10 : Int32)
                      · refine Go.st (fun _ k' => XS.icmpNo X0.here hx rfl (hb hby d1_96) rfl (XT.ii_ne_f hc21) k') ?_
                        show Go p e below s _ _ _ (s₁.setTop (mkF m 99 #[.val (.int u)] []))
                        obtain ⟨T22, X22, e22, st22⟩ := getS2 X0 hx hZ hown (host := "") (Or.inl (wdx hw 15 rfl)) Via.refl e0 (S_SYNC_GROUP.ext O0.2) (g := (mkF m 99 #[.val (.int u)] [])) rfl (hb hby d1_99)
                        refine Go.st st22 ?_
                        show Go p e below s _ _ _ (T22.setTop (mkF m 102 #[.val (.int u)] [(.ref a_SYNC_GROUP)]))
                        refine Go.ret X22 hx hlk (t := (.object "com/example/tenure_of_partitions/tenureofpartitions/ApiKey")) Bd.returns rfl (Or.inr (Or.inr (Or.inr (Or.inr ⟨rfl, rfl, rfl⟩)))) (hb hby d1_102) (by decide) (by decide) e22 ?_
                        exact ⟨(by simp [fpick, hc1, hc3, hc5, hc7, hc9, hc11, hc13, hc15, hc17, hc19, hc21]), N0, rfl⟩
                      · refine Go.st (fun _ k' => XS.icmpYes X0.here hx rfl (pc0 := 96) (pc' := 103) rfl (hb hby d1_96) rfl (XT.ii_ne_t hc21) (by decide) (by decide) k') ?_
                        show Go p e below s _ _ _ (s₁.setTop (mkF m 103 #[.val (.int u)] []))
                        refine Go.st (fun _ k' => XS.iloadN X0.here hx rfl (hb hby d1_103) rfl k') ?_
                        show Go p e below s _ _ _ (s₁.setTop (mkF m 104 #[.val (.int u)] [(.int u)]))
                        refine Go.st (fun _ k' => XS.bipush X0.here hx rfl (hb hby d1_104) k') ?_
                        show Go p e below s _ _ _ (s₁.setTop (mkF m 106 #[.val (.int u)] [(.int (11 : Int32)), (.int u)]))
                        by_cases hc23 : u = (11 : Int32)
                        · refine Go.st (fun _ k' => XS.icmpNo X0.here hx rfl (hb hby d1_106) rfl (XT.ii_ne_f hc23) k') ?_
                          show Go p e below s _ _ _ (s₁.setTop (mkF m 109 #[.val (.int u)] []))
                          obtain ⟨T24, X24, e24, st24⟩ := getS2 X0 hx hZ hown (host := "") (Or.inl (wdx hw 21 rfl)) Via.refl e0 (S_DESCRIBE_GROUPS.ext O0.2) (g := (mkF m 109 #[.val (.int u)] [])) rfl (hb hby d1_109)
                          refine Go.st st24 ?_
                          show Go p e below s _ _ _ (T24.setTop (mkF m 112 #[.val (.int u)] [(.ref a_DESCRIBE_GROUPS)]))
                          refine Go.ret X24 hx hlk (t := (.object "com/example/tenure_of_partitions/tenureofpartitions/ApiKey")) Bd.returns rfl (Or.inr (Or.inr (Or.inr (Or.inr ⟨rfl, rfl, rfl⟩)))) (hb hby d1_112) (by decide) (by decide) e24 ?_
                          exact ⟨(by simp [fpick, hc1, hc3, hc5, hc7, hc9, hc11, hc13, hc15, hc17, hc19, hc21, hc23]), N0, rfl⟩
                        · refine Go.st (fun _ k' => XS.icmpYes X0.here hx rfl (pc0 := 106) (pc' := 113) rfl (hb hby d1_106) rfl (XT.ii_ne_t hc23) (by decide) (by decide) k') ?_
                          show Go p e below s _ _ _ (s₁.setTop (mkF m 113 #[.val (.int u)] []))
                          refine Go.st (fun _ k' => XS.iloadN X0.here hx rfl (hb hby d1_113) rfl k') ?_
                          show Go p e below s _ _ _ (s₁.setTop (mkF m 114 #[.val (.int u)] [(.int u)]))
                          refine Go.st (fun _ k' => XS.bipush X0.here hx rfl (hb hby d1_114) k') ?_
                          show Go p e below s _ _ _ (s₁.setTop (mkF m 116 #[.val (.int u)] [(.int (12 : Int32)), (.int u)]))
                          by_cases hc25 : u = (12 : Int32)
                          · refine Go.st (fun _ k' => XS.icmpNo X0.here hx rfl (hb hby d1_116) rfl (XT.ii_ne_f hc25) k') ?_
                            show Go p e below s _ _ _ (s₁.setTop (mkF m 119 #[.val (.int u)] []))
                            obtain ⟨T26, X26, e26, st26⟩ := getS2 X0 hx hZ hown (host := "") (Or.inl (wdx hw 25 rfl)) Via.refl e0 (S_LIST_GROUPS.ext O0.2) (g := (mkF m 119 #[.val (.int u)] [])) rfl (hb hby d1_119)
                            refine Go.st st26 ?_
                            show Go p e below s _ _ _ (T26.setTop (mkF m 122 #[.val (.int u)] [(.ref a_LIST_GROUPS)]))
                            refine Go.ret X26 hx hlk (t := (.object "com/example/tenure_of_partitions/tenureofpartitions/ApiKey")) Bd.returns rfl (Or.inr (Or.inr (Or.inr (Or.inr ⟨rfl, rfl, rfl⟩)))) (hb hby d1_122) (by decide) (by decide) e26 ?_
                            exact ⟨(by simp [fpick, hc1, hc3, hc5, hc7, hc9, hc11, hc13, hc15, hc17, hc19, hc21, hc23, hc25]), N0, rfl⟩
                          · refine Go.st (fun _ k' => XS.icmpYes X0.here hx rfl (pc0 := 116) (pc' := 123) rfl (hb hby d1_116) rfl (XT.ii_ne_t hc25) (by decide) (by decide) k') ?_
                            show Go p e below s _ _ _ (s₁.setTop (mkF m 123 #[.val (.int u)] []))
                            obtain ⟨T27, X27, e27, st27⟩ := getS2 X0 hx hZ hown (host := "") (Or.inl (wdx hw 37 rfl)) Via.refl e0 (S_API_VERSIONS.ext O0.2) (g := (mkF m 123 #[.val (.int u)] [])) rfl (hb hby d1_123)
                            refine Go.st st27 ?_
                            show Go p e below s _ _ _ (T27.setTop (mkF m 126 #[.val (.int u)] [(.ref a_API_VERSIONS)]))
                            refine Go.ret X27 hx hlk (t := (.object "com/example/tenure_of_partitions/tenureofpartitions/ApiKey")) Bd.returns rfl (Or.inr (Or.inr (Or.inr (Or.inr ⟨rfl, rfl, rfl⟩)))) (hb hby d1_126) (by decide) (by decide) e27 ?_
                            exact ⟨(by simp [fpick, hc1, hc3, hc5, hc7, hc9, hc11, hc13, hc15, hc17, hc19, hc21, hc23, hc25]), N0, rfl⟩
theorem d2_0 : decode prog_1_method_10_code 0 = .ok (.aload_n 0, 1) := by decide +kernel
theorem d2_1 : decode prog_1_method_10_code 1 = .ok (.getfield 75, 3) := by decide +kernel
theorem d2_4 : decode prog_1_method_10_code 4 = .ok (.ifCond .lt 15, 3) := by decide +kernel
theorem d2_19 : decode prog_1_method_10_code 19 = .ok (.iconst 0, 1) := by decide +kernel
theorem d2_20 : decode prog_1_method_10_code 20 = .ok (.ireturn, 1) := by decide +kernel
theorem d2_7 : decode prog_1_method_10_code 7 = .ok (.iload_n 1, 1) := by decide +kernel
theorem d2_8 : decode prog_1_method_10_code 8 = .ok (.aload_n 0, 1) := by decide +kernel
theorem d2_9 : decode prog_1_method_10_code 9 = .ok (.getfield 75, 3) := by decide +kernel
theorem d2_12 : decode prog_1_method_10_code 12 = .ok (.if_icmp .lt 7, 3) := by decide +kernel
theorem d2_15 : decode prog_1_method_10_code 15 = .ok (.iconst 1, 1) := by decide +kernel
theorem d2_16 : decode prog_1_method_10_code 16 = .ok (.goto 4, 3) := by decide +kernel
theorem pn_com_example_tenure_of_partitions_tenureofpartitions_ApiKey : plainName "com/example/tenure_of_partitions/tenureofpartitions/ApiKey" = true := by first | (simp [plainName, overriddenIn]; done) | decide +kernel
theorem ef_rm2 (m : MethodId) (ob : Addr) (vv : Int32) : entryFrame m #[(.ref ob), (.int vv)] 2 = mkF m 0 #[.val (.ref ob), .val (.int vv)] [] := by first | (simp [entryFrame, mkF, argsToLocals, Value.category]; done) | rfl
def Q2 (Z : State) (ob : Addr) (vv : Int32) (ff : Int32) (h0 : Heap) (n0 : Nat) (v : Option Value) (h : Heap) (L : List Loc) : Prop := v = some (.int (if ff < 0 then (0 : Int32) else if vv < ff then 0 else 1)) ∧ Fr n0 L ∧ h = h0
set_option maxRecDepth 65536 in
set_option maxHeartbeats 40000000 in
theorem rm2 (l : Launch) (Z : State) (a0 : Array Value) (hw : ∀ d ∈ tables_1, d.before a0 Z = true) (ws : List Jvm.Cond) (ob : Addr) (vv : Int32) (ff : Int32) (h0 : Heap) (n0 : Nat) (O0 : Old Z n0 h0) (Ff : Fld Z h0 ob "com/example/tenure_of_partitions/tenureofpartitions/ApiKey" "firstFlexibleVersion" "I" (.int ff)) :
    MetFree l (⟨"com/example/tenure_of_partitions/tenureofpartitions/ApiKey", "isFlexible", "(S)Z"⟩ : MethodName) (head1 (Jvm.Cond.code (⟨"com/example/tenure_of_partitions/tenureofpartitions/ApiKey", "isFlexible", "(S)Z"⟩ : MethodName) prog_1_method_10_code 2 (some .boolean) :: ws) ({ frames := 0, cells := 0, slots := 0, locals := 0 } : Room)) (fun ay U => ay = #[(.ref ob), (.int vv)] ∧ Z.Warmed39 U.vm ∧ U.heap = h0) (fun _ _ _ _ _ => True) (fun _ U o U' => ∃ v L, o = .returned v ∧ Q2 Z ob vv ff h0 n0 v U'.heap L ∧ FrameEnd U o U' L ({ frames := 0, cells := 0, slots := 0, locals := 0 } : Room).cells ({ frames := 0, cells := 0, slots := 0, locals := 0 } : Room).slots) := by
  refine MetFree.of_bodySF (plainFor_of_name pn_com_example_tenure_of_partitions_tenureofpartitions_ApiKey) hisR ?_
  intro p e s m args below meth c s₁ Bd hml0 hP hK
  obtain ⟨rfl, hZ, hh⟩ := hP
  have hx := Bd.exec
  have hby := Bd.bytes
  have hlk : meth.locks = false := BodyLoose.notSynchronized Bd
  have hml : c.maxLocals = 2 := hml0
  have hown : s.vm.findClass "com/example/tenure_of_partitions/tenureofpartitions/ApiKey" = some m.cls := findClass_of_methodNamed Bd.named
  have hnm := (name_of_methodNamed Bd.named Bd.method).1
  have X0 : Stand p l e ({ frames := 0, cells := 0, slots := 0, locals := 0 } : Room) s m #[(.ref ob), (.int vv)] below meth c s₁ [] 0 0 := Stand.of_body Bd
  have e0 : s₁.heap = h0 := by rw [← hh, Bd.state]; rfl
  have N0 := Fr.nil n0
  suffices hgo : Go p e below s 0 0 (Q2 Z ob vv ff h0 n0) (s₁.setTop (mkF m 0 #[.val (.ref ob), .val (.int vv)] [])) by
    obtain ⟨t, o, h1, h2⟩ := hgo; exact ⟨t, o, castTop (ef_rm2 m ob vv) h1, h2⟩
  show Go p e below s _ _ _ (s₁.setTop (mkF m 0 #[.val (.ref ob), .val (.int vv)] []))
  refine Go.st (fun _ k' => XS.aloadN X0.here hx rfl (hb hby d2_0) rfl rfl k') ?_
  show Go p e below s _ _ _ (s₁.setTop (mkF m 1 #[.val (.ref ob), .val (.int vv)] [(.ref ob)]))
  obtain ⟨T1, X1, e1, st1⟩ := getF X0 hx hZ hown (host := "") (Or.inl (wdx hw 13 rfl)) Via.refl e0 Ff (g := (mkF m 1 #[.val (.ref ob), .val (.int vv)] [(.ref ob)])) rfl rfl (hb hby d2_1)
  refine Go.st st1 ?_
  show Go p e below s _ _ _ (T1.setTop (mkF m 4 #[.val (.ref ob), .val (.int vv)] [(.int ff)]))
  by_cases hc2 : ff < (0 : Int32)
  · refine Go.st (fun _ k' => XS.ifYes X1.here hx rfl (pc0 := 4) (pc' := 19) rfl (hb hby d2_4) rfl (XT.i0_lt_t hc2) (by decide) (by decide) k') ?_
    show Go p e below s _ _ _ (T1.setTop (mkF m 19 #[.val (.ref ob), .val (.int vv)] []))
    refine Go.st (fun _ k' => XS.iconst X1.here hx rfl (hb hby d2_19) k') ?_
    show Go p e below s _ _ _ (T1.setTop (mkF m 20 #[.val (.ref ob), .val (.int vv)] [(.int (0 : Int32))]))
    refine Go.retB X1 hx hlk (t := .boolean) Bd.returns (by simp) (hb hby d2_20) (by decide) (by decide) e1 ?_
    exact ⟨(by simp [nar, hc2]), N0, rfl⟩
  · refine Go.st (fun _ k' => XS.ifNo X1.here hx rfl (hb hby d2_4) rfl (XT.i0_lt_f hc2) k') ?_
    show Go p e below s _ _ _ (T1.setTop (mkF m 7 #[.val (.ref ob), .val (.int vv)] []))
    refine Go.st (fun _ k' => XS.iloadN X1.here hx rfl (hb hby d2_7) rfl k') ?_
    show Go p e below s _ _ _ (T1.setTop (mkF m 8 #[.val (.ref ob), .val (.int vv)] [(.int vv)]))
    refine Go.st (fun _ k' => XS.aloadN X1.here hx rfl (hb hby d2_8) rfl rfl k') ?_
    show Go p e below s _ _ _ (T1.setTop (mkF m 9 #[.val (.ref ob), .val (.int vv)] [(.ref ob), (.int vv)]))
    obtain ⟨T3, X3, e3, st3⟩ := getF X1 hx hZ hown (host := "") (Or.inl (wdx hw 13 rfl)) Via.refl e1 Ff (g := (mkF m 9 #[.val (.ref ob), .val (.int vv)] [(.ref ob), (.int vv)])) rfl rfl (hb hby d2_9)
    refine Go.st st3 ?_
    show Go p e below s _ _ _ (T3.setTop (mkF m 12 #[.val (.ref ob), .val (.int vv)] [(.int ff), (.int vv)]))
    by_cases hc4 : vv < ff
    · refine Go.st (fun _ k' => XS.icmpYes X3.here hx rfl (pc0 := 12) (pc' := 19) rfl (hb hby d2_12) rfl (XT.ii_lt_t hc4) (by decide) (by decide) k') ?_
      show Go p e below s _ _ _ (T3.setTop (mkF m 19 #[.val (.ref ob), .val (.int vv)] []))
      refine Go.st (fun _ k' => XS.iconst X3.here hx rfl (hb hby d2_19) k') ?_
      show Go p e below s _ _ _ (T3.setTop (mkF m 20 #[.val (.ref ob), .val (.int vv)] [(.int (0 : Int32))]))
      refine Go.retB X3 hx hlk (t := .boolean) Bd.returns (by simp) (hb hby d2_20) (by decide) (by decide) e3 ?_
      exact ⟨(by simp [nar, hc2, hc4]), N0, rfl⟩
    · refine Go.st (fun _ k' => XS.icmpNo X3.here hx rfl (hb hby d2_12) rfl (XT.ii_lt_f hc4) k') ?_
      show Go p e below s _ _ _ (T3.setTop (mkF m 15 #[.val (.ref ob), .val (.int vv)] []))
      refine Go.st (fun _ k' => XS.iconst X3.here hx rfl (hb hby d2_15) k') ?_
      show Go p e below s _ _ _ (T3.setTop (mkF m 16 #[.val (.ref ob), .val (.int vv)] [(.int (1 : Int32))]))
      refine Go.st (fun _ k' => XS.goto X3.here hx rfl (pc0 := 16) (pc' := 20) rfl (hb hby d2_16) (by decide) (by decide) k') ?_
      show Go p e below s _ _ _ (T3.setTop (mkF m 20 #[.val (.ref ob), .val (.int vv)] [(.int (1 : Int32))]))
      refine Go.retB X3 hx hlk (t := .boolean) Bd.returns (by simp) (hb hby d2_20) (by decide) (by decide) e3 ?_
      exact ⟨(by simp [nar, hc2, hc4]), N0, rfl⟩
theorem pd__I_Lcom_example_tenure_of_partitions_tenureofpartitions_ApiKey_ : parseMethodDescriptor "(I)Lcom/example/tenure_of_partitions/tenureofpartitions/ApiKey;" = some ⟨[.int], some (.object "com/example/tenure_of_partitions/tenureofpartitions/ApiKey")⟩ := by decide +kernel
theorem pd__S_Z : parseMethodDescriptor "(S)Z" = some ⟨[.short], some .boolean⟩ := by decide +kernel
theorem ef_rm0 (m : MethodId) (kk : Int32) (vv : Int32) : entryFrame m #[(.int kk), (.int vv)] maxLocals = mkF m 0 #[.val (.int kk), .val (.int vv), .unset, .unset, .unset, .unset] [] := by first | (simp [entryFrame, mkF, argsToLocals, Value.category, maxLocals]; done) | rfl
def Q0 (Z : State) (kk : Int32) (vv : Int32) (a_PRODUCE : Addr) (a_FETCH : Addr) (a_LIST_OFFSETS : Addr) (a_METADATA : Addr) (a_OFFSET_COMMIT : Addr) (a_OFFSET_FETCH : Addr) (a_FIND_COORDINATOR : Addr) (a_JOIN_GROUP : Addr) (a_HEARTBEAT : Addr) (a_LEAVE_GROUP : Addr) (a_SYNC_GROUP : Addr) (a_DESCRIBE_GROUPS : Addr) (a_LIST_GROUPS : Addr) (a_API_VERSIONS : Addr) (h0 : Heap) (n0 : Nat) (v : Option Value) (h : Heap) (L : List Loc) : Prop := v = some (.int (1 : Int32)) ∧ Fr n0 L ∧ True
set_option maxRecDepth 65536 in
set_option maxHeartbeats 40000000 in
theorem rm0 (l : Launch) (Z : State) (a0 : Array Value) (hw : ∀ d ∈ tables_1, d.before a0 Z = true) (ws : List Jvm.Cond) (kk : Int32) (vv : Int32) (a_PRODUCE : Addr) (a_FETCH : Addr) (a_LIST_OFFSETS : Addr) (a_METADATA : Addr) (a_OFFSET_COMMIT : Addr) (a_OFFSET_FETCH : Addr) (a_FIND_COORDINATOR : Addr) (a_JOIN_GROUP : Addr) (a_HEARTBEAT : Addr) (a_LEAVE_GROUP : Addr) (a_SYNC_GROUP : Addr) (a_DESCRIBE_GROUPS : Addr) (a_LIST_GROUPS : Addr) (a_API_VERSIONS : Addr) (h0 : Heap) (n0 : Nat) (O0 : Old Z n0 h0) (E_PRODUCE : Exa Z h0 a_PRODUCE "com/example/tenure_of_partitions/tenureofpartitions/ApiKey") (E_FETCH : Exa Z h0 a_FETCH "com/example/tenure_of_partitions/tenureofpartitions/ApiKey") (E_LIST_OFFSETS : Exa Z h0 a_LIST_OFFSETS "com/example/tenure_of_partitions/tenureofpartitions/ApiKey") (E_METADATA : Exa Z h0 a_METADATA "com/example/tenure_of_partitions/tenureofpartitions/ApiKey") (E_OFFSET_COMMIT : Exa Z h0 a_OFFSET_COMMIT "com/example/tenure_of_partitions/tenureofpartitions/ApiKey") (E_OFFSET_FETCH : Exa Z h0 a_OFFSET_FETCH "com/example/tenure_of_partitions/tenureofpartitions/ApiKey") (E_FIND_COORDINATOR : Exa Z h0 a_FIND_COORDINATOR "com/example/tenure_of_partitions/tenureofpartitions/ApiKey") (E_JOIN_GROUP : Exa Z h0 a_JOIN_GROUP "com/example/tenure_of_partitions/tenureofpartitions/ApiKey") (E_HEARTBEAT : Exa Z h0 a_HEARTBEAT "com/example/tenure_of_partitions/tenureofpartitions/ApiKey") (E_LEAVE_GROUP : Exa Z h0 a_LEAVE_GROUP "com/example/tenure_of_partitions/tenureofpartitions/ApiKey") (E_SYNC_GROUP : Exa Z h0 a_SYNC_GROUP "com/example/tenure_of_partitions/tenureofpartitions/ApiKey") (E_DESCRIBE_GROUPS : Exa Z h0 a_DESCRIBE_GROUPS "com/example/tenure_of_partitions/tenureofpartitions/ApiKey") (E_LIST_GROUPS : Exa Z h0 a_LIST_GROUPS "com/example/tenure_of_partitions/tenureofpartitions/ApiKey") (E_API_VERSIONS : Exa Z h0 a_API_VERSIONS "com/example/tenure_of_partitions/tenureofpartitions/ApiKey") (F_PRODUCE_firstFlexibleVersion : Fld Z h0 a_PRODUCE "com/example/tenure_of_partitions/tenureofpartitions/ApiKey" "firstFlexibleVersion" "I" (.int (-1 : Int32))) (F_FETCH_firstFlexibleVersion : Fld Z h0 a_FETCH "com/example/tenure_of_partitions/tenureofpartitions/ApiKey" "firstFlexibleVersion" "I" (.int (-1 : Int32))) (F_LIST_OFFSETS_firstFlexibleVersion : Fld Z h0 a_LIST_OFFSETS "com/example/tenure_of_partitions/tenureofpartitions/ApiKey" "firstFlexibleVersion" "I" (.int (-1 : Int32))) (F_METADATA_firstFlexibleVersion : Fld Z h0 a_METADATA "com/example/tenure_of_partitions/tenureofpartitions/ApiKey" "firstFlexibleVersion" "I" (.int (-1 : Int32))) (F_OFFSET_COMMIT_firstFlexibleVersion : Fld Z h0 a_OFFSET_COMMIT "com/example/tenure_of_partitions/tenureofpartitions/ApiKey" "firstFlexibleVersion" "I" (.int (-1 : Int32))) (F_OFFSET_FETCH_firstFlexibleVersion : Fld Z h0 a_OFFSET_FETCH "com/example/tenure_of_partitions/tenureofpartitions/ApiKey" "firstFlexibleVersion" "I" (.int (6 : Int32))) (F_FIND_COORDINATOR_firstFlexibleVersion : Fld Z h0 a_FIND_COORDINATOR "com/example/tenure_of_partitions/tenureofpartitions/ApiKey" "firstFlexibleVersion" "I" (.int (-1 : Int32))) (F_JOIN_GROUP_firstFlexibleVersion : Fld Z h0 a_JOIN_GROUP "com/example/tenure_of_partitions/tenureofpartitions/ApiKey" "firstFlexibleVersion" "I" (.int (-1 : Int32))) (F_HEARTBEAT_firstFlexibleVersion : Fld Z h0 a_HEARTBEAT "com/example/tenure_of_partitions/tenureofpartitions/ApiKey" "firstFlexibleVersion" "I" (.int (-1 : Int32))) (F_LEAVE_GROUP_firstFlexibleVersion : Fld Z h0 a_LEAVE_GROUP "com/example/tenure_of_partitions/tenureofpartitions/ApiKey" "firstFlexibleVersion" "I" (.int (-1 : Int32))) (F_SYNC_GROUP_firstFlexibleVersion : Fld Z h0 a_SYNC_GROUP "com/example/tenure_of_partitions/tenureofpartitions/ApiKey" "firstFlexibleVersion" "I" (.int (-1 : Int32))) (F_DESCRIBE_GROUPS_firstFlexibleVersion : Fld Z h0 a_DESCRIBE_GROUPS "com/example/tenure_of_partitions/tenureofpartitions/ApiKey" "firstFlexibleVersion" "I" (.int (-1 : Int32))) (F_LIST_GROUPS_firstFlexibleVersion : Fld Z h0 a_LIST_GROUPS "com/example/tenure_of_partitions/tenureofpartitions/ApiKey" "firstFlexibleVersion" "I" (.int (-1 : Int32))) (F_API_VERSIONS_firstFlexibleVersion : Fld Z h0 a_API_VERSIONS "com/example/tenure_of_partitions/tenureofpartitions/ApiKey" "firstFlexibleVersion" "I" (.int (3 : Int32))) (S_PRODUCE : Sta Z Z.heap "com/example/tenure_of_partitions/tenureofpartitions/ApiKey" "PRODUCE" "Lcom/example/tenure_of_partitions/tenureofpartitions/ApiKey;" (.ref a_PRODUCE)) (S_FETCH : Sta Z Z.heap "com/example/tenure_of_partitions/tenureofpartitions/ApiKey" "FETCH" "Lcom/example/tenure_of_partitions/tenureofpartitions/ApiKey;" (.ref a_FETCH)) (S_LIST_OFFSETS : Sta Z Z.heap "com/example/tenure_of_partitions/tenureofpartitions/ApiKey" "LIST_OFFSETS" "Lcom/example/tenure_of_partitions/tenureofpartitions/ApiKey;" (.ref a_LIST_OFFSETS)) (S_METADATA : Sta Z Z.heap "com/example/tenure_of_partitions/tenureofpartitions/ApiKey" "METADATA" "Lcom/example/tenure_of_partitions/tenureofpartitions/ApiKey;" (.ref a_METADATA)) (S_OFFSET_COMMIT : Sta Z Z.heap "com/example/tenure_of_partitions/tenureofpartitions/ApiKey" "OFFSET_COMMIT" "Lcom/example/tenure_of_partitions/tenureofpartitions/ApiKey;" (.ref a_OFFSET_COMMIT)) (S_OFFSET_FETCH : Sta Z Z.heap "com/example/tenure_of_partitions/tenureofpartitions/ApiKey" "OFFSET_FETCH" "Lcom/example/tenure_of_partitions/tenureofpartitions/ApiKey;" (.ref a_OFFSET_FETCH)) (S_FIND_COORDINATOR : Sta Z Z.heap "com/example/tenure_of_partitions/tenureofpartitions/ApiKey" "FIND_COORDINATOR" "Lcom/example/tenure_of_partitions/tenureofpartitions/ApiKey;" (.ref a_FIND_COORDINATOR)) (S_JOIN_GROUP : Sta Z Z.heap "com/example/tenure_of_partitions/tenureofpartitions/ApiKey" "JOIN_GROUP" "Lcom/example/tenure_of_partitions/tenureofpartitions/ApiKey;" (.ref a_JOIN_GROUP)) (S_HEARTBEAT : Sta Z Z.heap "com/example/tenure_of_partitions/tenureofpartitions/ApiKey" "HEARTBEAT" "Lcom/example/tenure_of_partitions/tenureofpartitions/ApiKey;" (.ref a_HEARTBEAT)) (S_LEAVE_GROUP : Sta Z Z.heap "com/example/tenure_of_partitions/tenureofpartitions/ApiKey" "LEAVE_GROUP" "Lcom/example/tenure_of_partitions/tenureofpartitions/ApiKey;" (.ref a_LEAVE_GROUP)) (S_SYNC_GROUP : Sta Z Z.heap "com/example/tenure_of_partitions/tenureofpartitions/ApiKey" "SYNC_GROUP" "Lcom/example/tenure_of_partitions/tenureofpartitions/ApiKey;" (.ref a_SYNC_GROUP)) (S_DESCRIBE_GROUPS : Sta Z Z.heap "com/example/tenure_of_partitions/tenureofpartitions/ApiKey" "DESCRIBE_GROUPS" "Lcom/example/tenure_of_partitions/tenureofpartitions/ApiKey;" (.ref a_DESCRIBE_GROUPS)) (S_LIST_GROUPS : Sta Z Z.heap "com/example/tenure_of_partitions/tenureofpartitions/ApiKey" "LIST_GROUPS" "Lcom/example/tenure_of_partitions/tenureofpartitions/ApiKey;" (.ref a_LIST_GROUPS)) (S_API_VERSIONS : Sta Z Z.heap "com/example/tenure_of_partitions/tenureofpartitions/ApiKey" "API_VERSIONS" "Lcom/example/tenure_of_partitions/tenureofpartitions/ApiKey;" (.ref a_API_VERSIONS)) :
    MetFree l x (head1 (Jvm.Cond.code x code maxLocals ret :: ws) room_1) (fun ay U => ay = #[(.int kk), (.int vv)] ∧ Z.Warmed39 U.vm ∧ U.heap = h0) (fun _ _ _ _ _ => True) (fun _ U o U' => ∃ v L, o = .returned v ∧ Q0 Z kk vv a_PRODUCE a_FETCH a_LIST_OFFSETS a_METADATA a_OFFSET_COMMIT a_OFFSET_FETCH a_FIND_COORDINATOR a_JOIN_GROUP a_HEARTBEAT a_LEAVE_GROUP a_SYNC_GROUP a_DESCRIBE_GROUPS a_LIST_GROUPS a_API_VERSIONS h0 n0 v U'.heap L ∧ FrameEnd U o U' L room_1.cells room_1.slots) := by
  refine MetFree.of_bodySF (plainFor_of_name pn_com_example_tenure_of_partitions_tenureofpartitions_ApiKeyIsFlexiblePinLaw) hisR ?_
  intro p e s m args below meth c s₁ Bd hml0 hP hK
  obtain ⟨rfl, hZ, hh⟩ := hP
  have hx := Bd.exec
  have hby := Bd.bytes
  have hlk : meth.locks = false := BodyLoose.notSynchronized Bd
  have hml : c.maxLocals = 6 := hml0
  have hown : s.vm.findClass "com/example/tenure_of_partitions/tenureofpartitions/ApiKeyIsFlexiblePinLaw" = some m.cls := findClass_of_methodNamed Bd.named
  have hnm := (name_of_methodNamed Bd.named Bd.method).1
  have X0 : Stand p l e room_1 s m #[(.int kk), (.int vv)] below meth c s₁ [] 0 0 := Stand.of_body Bd
  have e0 : s₁.heap = h0 := by rw [← hh, Bd.state]; rfl
  have N0 := Fr.nil n0
  suffices hgo : Go p e below s 0 0 (Q0 Z kk vv a_PRODUCE a_FETCH a_LIST_OFFSETS a_METADATA a_OFFSET_COMMIT a_OFFSET_FETCH a_FIND_COORDINATOR a_JOIN_GROUP a_HEARTBEAT a_LEAVE_GROUP a_SYNC_GROUP a_DESCRIBE_GROUPS a_LIST_GROUPS a_API_VERSIONS h0 n0) (s₁.setTop (mkF m 0 #[.val (.int kk), .val (.int vv), .unset, .unset, .unset, .unset] [])) by
    obtain ⟨t, o, h1, h2⟩ := hgo; exact ⟨t, o, castTop (ef_rm0 m kk vv) h1, h2⟩
  show Go p e below s _ _ _ (s₁.setTop (mkF m 0 #[.val (.int kk), .val (.int vv), .unset, .unset, .unset, .unset] []))
  refine Go.st (fun _ k' => XS.iloadN X0.here hx rfl (hb hby at_0) rfl k') ?_
  show Go p e below s _ _ _ (s₁.setTop (mkF m 1 #[.val (.int kk), .val (.int vv), .unset, .unset, .unset, .unset] [(.int kk)]))
  refine Go.st (fun _ k' => X0.ldcI hx hown (mvT hZ (wdx hw 0 rfl)) rfl (hb hby at_1) k') ?_
  show Go p e below s _ _ _ (s₁.setTop (mkF m 3 #[.val (.int kk), .val (.int vv), .unset, .unset, .unset, .unset] [(.int (2147483647 : Int32)), (.int kk)]))
  refine Go.st (fun _ k' => XS.iand X0.here hx rfl (hb hby at_3) rfl k') ?_
  show Go p e below s _ _ _ (s₁.setTop (mkF m 4 #[.val (.int kk), .val (.int vv), .unset, .unset, .unset, .unset] [(.int (kk &&& (2147483647 : Int32)))]))
  refine Go.st (fun _ k' => XS.bipush X0.here hx rfl (hb hby at_4) k') ?_
  show Go p e below s _ _ _ (s₁.setTop (mkF m 6 #[.val (.int kk), .val (.int vv), .unset, .unset, .unset, .unset] [(.int (14 : Int32)), (.int (kk &&& (2147483647 : Int32)))]))
  refine Go.st (fun _ k' => iremM X0 hx rfl (hb hby at_6) rfl (by decide) k') ?_
  show Go p e below s _ _ _ (s₁.setTop (mkF m 7 #[.val (.int kk), .val (.int vv), .unset, .unset, .unset, .unset] [(.int ((kk &&& (2147483647 : Int32)) % (14 : Int32)))]))
  refine Go.st (fun _ k' => XS.istoreN X0.here hx rfl (hb hby at_7) rfl (l' := #[.val (.int kk), .val (.int vv), .val (.int ((kk &&& (2147483647 : Int32)) % (14 : Int32))), .unset, .unset, .unset]) rfl k') ?_
  show Go p e below s _ _ _ (s₁.setTop (mkF m 8 #[.val (.int kk), .val (.int vv), .val (.int ((kk &&& (2147483647 : Int32)) % (14 : Int32))), .unset, .unset, .unset] []))
  rcases own_c14 kk with hi | hi | hi | hi | hi | hi | hi | hi | hi | hi | hi | hi | hi | hi
  · rw [hi]
    show Go p e below s _ _ _ (s₁.setTop (mkF m 8 #[.val (.int kk), .val (.int vv), .val (.int (0 : Int32)), .unset, .unset, .unset] []))
    refine Go.st (fun _ k' => XS.iloadN X0.here hx rfl (hb hby at_8) rfl k') ?_
    show Go p e below s _ _ _ (s₁.setTop (mkF m 9 #[.val (.int kk), .val (.int vv), .val (.int (0 : Int32)), .unset, .unset, .unset] [(.int (0 : Int32))]))
    obtain ⟨_, _, ⟨T1, L1, k1, n1⟩, -, X1, ⟨Lc1, hQ1, l1, y1, z1⟩, st1⟩ := Jvm.LawKit.callS X0 hx (y := (⟨"com/example/tenure_of_partitions/tenureofpartitions/ApiKeyIsFlexiblePinLaw", "pick", "(I)Lcom/example/tenure_of_partitions/tenureofpartitions/ApiKey;"⟩ : MethodName)) hown (mvT hZ (wdx hw 1 rfl)) (mvT hZ (wdx hw 2 rfl)) (mvT hZ (wdx hw 3 rfl)) (mvT hZ (wdx hw 4 rfl)) (by decide) (backOf (W := 0) (rm1 l Z a0 hw [] (0 : Int32) a_PRODUCE a_FETCH a_LIST_OFFSETS a_METADATA a_OFFSET_COMMIT a_OFFSET_FETCH a_FIND_COORDINATOR a_JOIN_GROUP a_HEARTBEAT a_LEAVE_GROUP a_SYNC_GROUP a_DESCRIBE_GROUPS a_LIST_GROUPS a_API_VERSIONS h0 n0 O0 S_PRODUCE S_FETCH S_LIST_OFFSETS S_METADATA S_OFFSET_COMMIT S_OFFSET_FETCH S_FIND_COORDINATOR S_JOIN_GROUP S_HEARTBEAT S_LEAVE_GROUP S_SYNC_GROUP S_DESCRIBE_GROUPS S_LIST_GROUPS S_API_VERSIONS) hZ (wdx hw 4 rfl) (wdx hw 3 rfl) (by decide) (by decide)) (g := (mkF m 9 #[.val (.int kk), .val (.int vv), .val (.int (0 : Int32)), .unset, .unset, .unset] [(.int (0 : Int32))])) rfl (by rw [hml]; rfl) (argsL := [(.int (0 : Int32))]) (rest := []) (lenOf pd__I_Lcom_example_tenure_of_partitions_tenureofpartitions_ApiKey_ rfl) rfl (by show 2 * 0 + _ ≤ _; exact Nat.le_of_eq rfl) (hb hby at_9) (fun _ _ => ⟨rfl, e0, (by exact Nat.le_of_ble_eq_true rfl), (by exact Nat.le_of_ble_eq_true rfl)⟩)
    dsimp only [Pt.U, Pt.locs, Pt.cells, Pt.slots] at X1 l1 y1 z1 st1 hQ1
    subst l1 y1 z1
    obtain ⟨rfl, Nq1, eq1⟩ := hQ1
    have N1 := Fr.app N0 Nq1
    refine Go.st st1 ?_
    show Go p e below s _ _ _ (T1.setTop (mkF m 12 #[.val (.int kk), .val (.int vv), .val (.int (0 : Int32)), .unset, .unset, .unset] [(.ref (fpick (0 : Int32) a_PRODUCE a_FETCH a_LIST_OFFSETS a_METADATA a_OFFSET_COMMIT a_OFFSET_FETCH a_FIND_COORDINATOR a_JOIN_GROUP a_HEARTBEAT a_LEAVE_GROUP a_SYNC_GROUP a_DESCRIBE_GROUPS a_LIST_GROUPS a_API_VERSIONS))]))
    show Go p e below s _ _ _ (T1.setTop (mkF m 12 #[.val (.int kk), .val (.int vv), .val (.int (0 : Int32)), .unset, .unset, .unset] [(.ref a_PRODUCE)]))
    refine Go.st (fun _ k' => XS.astoreN X1.here hx rfl (hb hby at_12) rfl rfl (l' := #[.val (.int kk), .val (.int vv), .val (.int (0 : Int32)), .val (.ref a_PRODUCE), .unset, .unset]) rfl k') ?_
    show Go p e below s _ _ _ (T1.setTop (mkF m 13 #[.val (.int kk), .val (.int vv), .val (.int (0 : Int32)), .val (.ref a_PRODUCE), .unset, .unset] []))
    refine Go.st (fun _ k' => XS.iloadN X1.here hx rfl (hb hby at_13) rfl k') ?_
    show Go p e below s _ _ _ (T1.setTop (mkF m 14 #[.val (.int kk), .val (.int vv), .val (.int (0 : Int32)), .val (.ref a_PRODUCE), .unset, .unset] [(.int vv)]))
    refine Go.st (fun _ k' => XS.i2s X1.here hx rfl (hb hby at_14) rfl k') ?_
    show Go p e below s _ _ _ (T1.setTop (mkF m 15 #[.val (.int kk), .val (.int vv), .val (.int (0 : Int32)), .val (.ref a_PRODUCE), .unset, .unset] [(.int (vv.toInt16.toInt32))]))
    refine Go.st (fun _ k' => XS.istore X1.here hx rfl (hb hby at_15) rfl (l' := #[.val (.int kk), .val (.int vv), .val (.int (0 : Int32)), .val (.ref a_PRODUCE), .val (.int (vv.toInt16.toInt32)), .unset]) rfl k') ?_
    show Go p e below s _ _ _ (T1.setTop (mkF m 17 #[.val (.int kk), .val (.int vv), .val (.int (0 : Int32)), .val (.ref a_PRODUCE), .val (.int (vv.toInt16.toInt32)), .unset] []))
    refine Go.st (fun _ k' => XS.iloadN X1.here hx rfl (hb hby at_17) rfl k') ?_
    show Go p e below s _ _ _ (T1.setTop (mkF m 18 #[.val (.int kk), .val (.int vv), .val (.int (0 : Int32)), .val (.ref a_PRODUCE), .val (.int (vv.toInt16.toInt32)), .unset] [(.int (0 : Int32))]))
    refine Go.st (fun _ k' => XS.iconst X1.here hx rfl (hb hby at_18) k') ?_
    show Go p e below s _ _ _ (T1.setTop (mkF m 19 #[.val (.int kk), .val (.int vv), .val (.int (0 : Int32)), .val (.ref a_PRODUCE), .val (.int (vv.toInt16.toInt32)), .unset] [(.int (5 : Int32)), (.int (0 : Int32))]))
    refine Go.st (fun _ k' => XS.icmpYes X1.here hx rfl (pc0 := 19) (pc' := 39) rfl (hb hby at_19) rfl (XT.ii_ne_t (by decide)) (by decide) (by decide) k') ?_
    show Go p e below s _ _ _ (T1.setTop (mkF m 39 #[.val (.int kk), .val (.int vv), .val (.int (0 : Int32)), .val (.ref a_PRODUCE), .val (.int (vv.toInt16.toInt32)), .unset] []))
    refine Go.st (fun _ k' => XS.iloadN X1.here hx rfl (hb hby at_39) rfl k') ?_
    show Go p e below s _ _ _ (T1.setTop (mkF m 40 #[.val (.int kk), .val (.int vv), .val (.int (0 : Int32)), .val (.ref a_PRODUCE), .val (.int (vv.toInt16.toInt32)), .unset] [(.int (0 : Int32))]))
    refine Go.st (fun _ k' => XS.bipush X1.here hx rfl (hb hby at_40) k') ?_
    show Go p e below s _ _ _ (T1.setTop (mkF m 42 #[.val (.int kk), .val (.int vv), .val (.int (0 : Int32)), .val (.ref a_PRODUCE), .val (.int (vv.toInt16.toInt32)), .unset] [(.int (13 : Int32)), (.int (0 : Int32))]))
    refine Go.st (fun _ k' => XS.icmpYes X1.here hx rfl (pc0 := 42) (pc' := 61) rfl (hb hby at_42) rfl (XT.ii_ne_t (by decide)) (by decide) (by decide) k') ?_
    show Go p e below s _ _ _ (T1.setTop (mkF m 61 #[.val (.int kk), .val (.int vv), .val (.int (0 : Int32)), .val (.ref a_PRODUCE), .val (.int (vv.toInt16.toInt32)), .unset] []))
    refine Go.st (fun _ k' => XS.iconst X1.here hx rfl (hb hby at_61) k') ?_
    show Go p e below s _ _ _ (T1.setTop (mkF m 62 #[.val (.int kk), .val (.int vv), .val (.int (0 : Int32)), .val (.ref a_PRODUCE), .val (.int (vv.toInt16.toInt32)), .unset] [(.int (0 : Int32))]))
    refine Go.st (fun _ k' => XS.istore X1.here hx rfl (hb hby at_62) rfl (l' := #[.val (.int kk), .val (.int vv), .val (.int (0 : Int32)), .val (.ref a_PRODUCE), .val (.int (vv.toInt16.toInt32)), .val (.int (0 : Int32))]) rfl k') ?_
    show Go p e below s _ _ _ (T1.setTop (mkF m 64 #[.val (.int kk), .val (.int vv), .val (.int (0 : Int32)), .val (.ref a_PRODUCE), .val (.int (vv.toInt16.toInt32)), .val (.int (0 : Int32))] []))
    refine Go.st (fun _ k' => XS.aloadN X1.here hx rfl (hb hby at_64) rfl rfl k') ?_
    show Go p e below s _ _ _ (T1.setTop (mkF m 65 #[.val (.int kk), .val (.int vv), .val (.int (0 : Int32)), .val (.ref a_PRODUCE), .val (.int (vv.toInt16.toInt32)), .val (.int (0 : Int32))] [(.ref a_PRODUCE)]))
    refine Go.st (fun _ k' => XS.iload X1.here hx rfl (hb hby at_65) rfl k') ?_
    show Go p e below s _ _ _ (T1.setTop (mkF m 67 #[.val (.int kk), .val (.int vv), .val (.int (0 : Int32)), .val (.ref a_PRODUCE), .val (.int (vv.toInt16.toInt32)), .val (.int (0 : Int32))] [(.int (vv.toInt16.toInt32)), (.ref a_PRODUCE)]))
    obtain ⟨cq2, kq2, q2a, q2b, q2c⟩ := isOf hZ eq1 E_PRODUCE
    obtain ⟨_, _, ⟨T2, L2, k2, n2⟩, -, X2, ⟨Lc2, hQ2, l2, y2, z2⟩, st2⟩ := X1.virtualBack hx (y := (⟨"com/example/tenure_of_partitions/tenureofpartitions/ApiKey", "isFlexible", "(S)Z"⟩ : MethodName)) (z := (⟨"com/example/tenure_of_partitions/tenureofpartitions/ApiKey", "isFlexible", "(S)Z"⟩ : MethodName)) hown (mvT hZ (wdx hw 8 rfl)) (mvT hZ (wdx hw 9 rfl)) (notFace_of_selects (args := #[]) (mvT hZ (wdx hw 11 rfl))) (mvT hZ (wdx hw 11 rfl)) (mvT hZ (wdx hw 10 rfl)) (by decide) (backOf (W := 0) (rm2 l Z a0 hw [] a_PRODUCE (vv.toInt16.toInt32) (-1 : Int32) h0 n0 O0 F_PRODUCE_firstFlexibleVersion) hZ (wdx hw 12 rfl) (wdx hw 6 rfl) (by decide) (by decide)) q2a q2c (g := (mkF m 67 #[.val (.int kk), .val (.int vv), .val (.int (0 : Int32)), .val (.ref a_PRODUCE), .val (.int (vv.toInt16.toInt32)), .val (.int (0 : Int32))] [(.int (vv.toInt16.toInt32)), (.ref a_PRODUCE)])) rfl (by rw [hml]; rfl) (Steps.refl _) (argsL := [(.int (vv.toInt16.toInt32))]) (rest := []) (lenOf pd__S_Z rfl) rfl (by show 2 * 0 + _ ≤ _; exact Nat.le_of_eq rfl) (hb hby at_67) (fun _ _ => ⟨rfl, eq1, (by exact Nat.le_of_ble_eq_true rfl), (by exact Nat.le_of_ble_eq_true rfl)⟩)
    dsimp only [Pt.U, Pt.locs, Pt.cells, Pt.slots] at X2 l2 y2 z2 st2 hQ2
    subst l2 y2 z2
    obtain ⟨rfl, Nq2, eq2⟩ := hQ2
    have N2 := Fr.app N1 Nq2
    refine Go.tr st2 ?_
    show Go p e below s _ _ _ (T2.setTop (mkF m 70 #[.val (.int kk), .val (.int vv), .val (.int (0 : Int32)), .val (.ref a_PRODUCE), .val (.int (vv.toInt16.toInt32)), .val (.int (0 : Int32))] [(.int (if (-1 : Int32) < 0 then (0 : Int32) else if (vv.toInt16.toInt32) < (-1 : Int32) then 0 else 1))]))
    refine Go.st (fun _ k' => XS.iload X2.here hx rfl (hb hby at_70) rfl k') ?_
    show Go p e below s _ _ _ (T2.setTop (mkF m 72 #[.val (.int kk), .val (.int vv), .val (.int (0 : Int32)), .val (.ref a_PRODUCE), .val (.int (vv.toInt16.toInt32)), .val (.int (0 : Int32))] [(.int (0 : Int32)), (.int (if (-1 : Int32) < 0 then (0 : Int32) else if (vv.toInt16.toInt32) < (-1 : Int32) then 0 else 1))]))
    by_cases hc3 : (if (-1 : Int32) < 0 then (0 : Int32) else if (vv.toInt16.toInt32) < (-1 : Int32) then 0 else 1) = (0 : Int32)
    · refine Go.st (fun _ k' => XS.icmpNo X2.here hx rfl (hb hby at_72) rfl (XT.ii_ne_f hc3) k') ?_
      show Go p e below s _ _ _ (T2.setTop (mkF m 75 #[.val (.int kk), .val (.int vv), .val (.int (0 : Int32)), .val (.ref a_PRODUCE), .val (.int (vv.toInt16.toInt32)), .val (.int (0 : Int32))] []))
      refine Go.st (fun _ k' => XS.iconst X2.here hx rfl (hb hby at_75) k') ?_
      show Go p e below s _ _ _ (T2.setTop (mkF m 76 #[.val (.int kk), .val (.int vv), .val (.int (0 : Int32)), .val (.ref a_PRODUCE), .val (.int (vv.toInt16.toInt32)), .val (.int (0 : Int32))] [(.int (1 : Int32))]))
      refine Go.st (fun _ k' => XS.goto X2.here hx rfl (pc0 := 76) (pc' := 80) rfl (hb hby at_76) (by decide) (by decide) k') ?_
      show Go p e below s _ _ _ (T2.setTop (mkF m 80 #[.val (.int kk), .val (.int vv), .val (.int (0 : Int32)), .val (.ref a_PRODUCE), .val (.int (vv.toInt16.toInt32)), .val (.int (0 : Int32))] [(.int (1 : Int32))]))
      refine Go.retB X2 hx hlk (t := .boolean) Bd.returns (by simp) (hb hby at_80) (by decide) (by decide) eq2 ?_
      exact ⟨rfl, N2, trivial⟩
    · refine Go.st (fun _ k' => XS.icmpYes X2.here hx rfl (pc0 := 72) (pc' := 79) rfl (hb hby at_72) rfl (XT.ii_ne_t hc3) (by decide) (by decide) k') ?_
      show Go p e below s _ _ _ (T2.setTop (mkF m 79 #[.val (.int kk), .val (.int vv), .val (.int (0 : Int32)), .val (.ref a_PRODUCE), .val (.int (vv.toInt16.toInt32)), .val (.int (0 : Int32))] []))
      refine Go.st (fun _ k' => XS.iconst X2.here hx rfl (hb hby at_79) k') ?_
      show Go p e below s _ _ _ (T2.setTop (mkF m 80 #[.val (.int kk), .val (.int vv), .val (.int (0 : Int32)), .val (.ref a_PRODUCE), .val (.int (vv.toInt16.toInt32)), .val (.int (0 : Int32))] [(.int (0 : Int32))]))
      refine Go.retB X2 hx hlk (t := .boolean) Bd.returns (by simp) (hb hby at_80) (by decide) (by decide) eq2 ?_
      exact absurd (by simp []) hc3
  · rw [hi]
    show Go p e below s _ _ _ (s₁.setTop (mkF m 8 #[.val (.int kk), .val (.int vv), .val (.int (1 : Int32)), .unset, .unset, .unset] []))
    refine Go.st (fun _ k' => XS.iloadN X0.here hx rfl (hb hby at_8) rfl k') ?_
    show Go p e below s _ _ _ (s₁.setTop (mkF m 9 #[.val (.int kk), .val (.int vv), .val (.int (1 : Int32)), .unset, .unset, .unset] [(.int (1 : Int32))]))
    obtain ⟨_, _, ⟨T4, L4, k4, n4⟩, -, X4, ⟨Lc4, hQ4, l4, y4, z4⟩, st4⟩ := Jvm.LawKit.callS X0 hx (y := (⟨"com/example/tenure_of_partitions/tenureofpartitions/ApiKeyIsFlexiblePinLaw", "pick", "(I)Lcom/example/tenure_of_partitions/tenureofpartitions/ApiKey;"⟩ : MethodName)) hown (mvT hZ (wdx hw 1 rfl)) (mvT hZ (wdx hw 2 rfl)) (mvT hZ (wdx hw 3 rfl)) (mvT hZ (wdx hw 4 rfl)) (by decide) (backOf (W := 0) (rm1 l Z a0 hw [] (1 : Int32) a_PRODUCE a_FETCH a_LIST_OFFSETS a_METADATA a_OFFSET_COMMIT a_OFFSET_FETCH a_FIND_COORDINATOR a_JOIN_GROUP a_HEARTBEAT a_LEAVE_GROUP a_SYNC_GROUP a_DESCRIBE_GROUPS a_LIST_GROUPS a_API_VERSIONS h0 n0 O0 S_PRODUCE S_FETCH S_LIST_OFFSETS S_METADATA S_OFFSET_COMMIT S_OFFSET_FETCH S_FIND_COORDINATOR S_JOIN_GROUP S_HEARTBEAT S_LEAVE_GROUP S_SYNC_GROUP S_DESCRIBE_GROUPS S_LIST_GROUPS S_API_VERSIONS) hZ (wdx hw 4 rfl) (wdx hw 3 rfl) (by decide) (by decide)) (g := (mkF m 9 #[.val (.int kk), .val (.int vv), .val (.int (1 : Int32)), .unset, .unset, .unset] [(.int (1 : Int32))])) rfl (by rw [hml]; rfl) (argsL := [(.int (1 : Int32))]) (rest := []) (lenOf pd__I_Lcom_example_tenure_of_partitions_tenureofpartitions_ApiKey_ rfl) rfl (by show 2 * 0 + _ ≤ _; exact Nat.le_of_eq rfl) (hb hby at_9) (fun _ _ => ⟨rfl, e0, (by exact Nat.le_of_ble_eq_true rfl), (by exact Nat.le_of_ble_eq_true rfl)⟩)
    dsimp only [Pt.U, Pt.locs, Pt.cells, Pt.slots] at X4 l4 y4 z4 st4 hQ4
    subst l4 y4 z4
    obtain ⟨rfl, Nq4, eq4⟩ := hQ4
    have N4 := Fr.app N0 Nq4
    refine Go.st st4 ?_
    show Go p e below s _ _ _ (T4.setTop (mkF m 12 #[.val (.int kk), .val (.int vv), .val (.int (1 : Int32)), .unset, .unset, .unset] [(.ref (fpick (1 : Int32) a_PRODUCE a_FETCH a_LIST_OFFSETS a_METADATA a_OFFSET_COMMIT a_OFFSET_FETCH a_FIND_COORDINATOR a_JOIN_GROUP a_HEARTBEAT a_LEAVE_GROUP a_SYNC_GROUP a_DESCRIBE_GROUPS a_LIST_GROUPS a_API_VERSIONS))]))
    show Go p e below s _ _ _ (T4.setTop (mkF m 12 #[.val (.int kk), .val (.int vv), .val (.int (1 : Int32)), .unset, .unset, .unset] [(.ref a_FETCH)]))
    refine Go.st (fun _ k' => XS.astoreN X4.here hx rfl (hb hby at_12) rfl rfl (l' := #[.val (.int kk), .val (.int vv), .val (.int (1 : Int32)), .val (.ref a_FETCH), .unset, .unset]) rfl k') ?_
    show Go p e below s _ _ _ (T4.setTop (mkF m 13 #[.val (.int kk), .val (.int vv), .val (.int (1 : Int32)), .val (.ref a_FETCH), .unset, .unset] []))
    refine Go.st (fun _ k' => XS.iloadN X4.here hx rfl (hb hby at_13) rfl k') ?_
    show Go p e below s _ _ _ (T4.setTop (mkF m 14 #[.val (.int kk), .val (.int vv), .val (.int (1 : Int32)), .val (.ref a_FETCH), .unset, .unset] [(.int vv)]))
    refine Go.st (fun _ k' => XS.i2s X4.here hx rfl (hb hby at_14) rfl k') ?_
    show Go p e below s _ _ _ (T4.setTop (mkF m 15 #[.val (.int kk), .val (.int vv), .val (.int (1 : Int32)), .val (.ref a_FETCH), .unset, .unset] [(.int (vv.toInt16.toInt32))]))
    refine Go.st (fun _ k' => XS.istore X4.here hx rfl (hb hby at_15) rfl (l' := #[.val (.int kk), .val (.int vv), .val (.int (1 : Int32)), .val (.ref a_FETCH), .val (.int (vv.toInt16.toInt32)), .unset]) rfl k') ?_
    show Go p e below s _ _ _ (T4.setTop (mkF m 17 #[.val (.int kk), .val (.int vv), .val (.int (1 : Int32)), .val (.ref a_FETCH), .val (.int (vv.toInt16.toInt32)), .unset] []))
    refine Go.st (fun _ k' => XS.iloadN X4.here hx rfl (hb hby at_17) rfl k') ?_
    show Go p e below s _ _ _ (T4.setTop (mkF m 18 #[.val (.int kk), .val (.int vv), .val (.int (1 : Int32)), .val (.ref a_FETCH), .val (.int (vv.toInt16.toInt32)), .unset] [(.int (1 : Int32))]))
    refine Go.st (fun _ k' => XS.iconst X4.here hx rfl (hb hby at_18) k') ?_
    show Go p e below s _ _ _ (T4.setTop (mkF m 19 #[.val (.int kk), .val (.int vv), .val (.int (1 : Int32)), .val (.ref a_FETCH), .val (.int (vv.toInt16.toInt32)), .unset] [(.int (5 : Int32)), (.int (1 : Int32))]))
    refine Go.st (fun _ k' => XS.icmpYes X4.here hx rfl (pc0 := 19) (pc' := 39) rfl (hb hby at_19) rfl (XT.ii_ne_t (by decide)) (by decide) (by decide) k') ?_
    show Go p e below s _ _ _ (T4.setTop (mkF m 39 #[.val (.int kk), .val (.int vv), .val (.int (1 : Int32)), .val (.ref a_FETCH), .val (.int (vv.toInt16.toInt32)), .unset] []))
    refine Go.st (fun _ k' => XS.iloadN X4.here hx rfl (hb hby at_39) rfl k') ?_
    show Go p e below s _ _ _ (T4.setTop (mkF m 40 #[.val (.int kk), .val (.int vv), .val (.int (1 : Int32)), .val (.ref a_FETCH), .val (.int (vv.toInt16.toInt32)), .unset] [(.int (1 : Int32))]))
    refine Go.st (fun _ k' => XS.bipush X4.here hx rfl (hb hby at_40) k') ?_
    show Go p e below s _ _ _ (T4.setTop (mkF m 42 #[.val (.int kk), .val (.int vv), .val (.int (1 : Int32)), .val (.ref a_FETCH), .val (.int (vv.toInt16.toInt32)), .unset] [(.int (13 : Int32)), (.int (1 : Int32))]))
    refine Go.st (fun _ k' => XS.icmpYes X4.here hx rfl (pc0 := 42) (pc' := 61) rfl (hb hby at_42) rfl (XT.ii_ne_t (by decide)) (by decide) (by decide) k') ?_
    show Go p e below s _ _ _ (T4.setTop (mkF m 61 #[.val (.int kk), .val (.int vv), .val (.int (1 : Int32)), .val (.ref a_FETCH), .val (.int (vv.toInt16.toInt32)), .unset] []))
    refine Go.st (fun _ k' => XS.iconst X4.here hx rfl (hb hby at_61) k') ?_
    show Go p e below s _ _ _ (T4.setTop (mkF m 62 #[.val (.int kk), .val (.int vv), .val (.int (1 : Int32)), .val (.ref a_FETCH), .val (.int (vv.toInt16.toInt32)), .unset] [(.int (0 : Int32))]))
    refine Go.st (fun _ k' => XS.istore X4.here hx rfl (hb hby at_62) rfl (l' := #[.val (.int kk), .val (.int vv), .val (.int (1 : Int32)), .val (.ref a_FETCH), .val (.int (vv.toInt16.toInt32)), .val (.int (0 : Int32))]) rfl k') ?_
    show Go p e below s _ _ _ (T4.setTop (mkF m 64 #[.val (.int kk), .val (.int vv), .val (.int (1 : Int32)), .val (.ref a_FETCH), .val (.int (vv.toInt16.toInt32)), .val (.int (0 : Int32))] []))
    refine Go.st (fun _ k' => XS.aloadN X4.here hx rfl (hb hby at_64) rfl rfl k') ?_
    show Go p e below s _ _ _ (T4.setTop (mkF m 65 #[.val (.int kk), .val (.int vv), .val (.int (1 : Int32)), .val (.ref a_FETCH), .val (.int (vv.toInt16.toInt32)), .val (.int (0 : Int32))] [(.ref a_FETCH)]))
    refine Go.st (fun _ k' => XS.iload X4.here hx rfl (hb hby at_65) rfl k') ?_
    show Go p e below s _ _ _ (T4.setTop (mkF m 67 #[.val (.int kk), .val (.int vv), .val (.int (1 : Int32)), .val (.ref a_FETCH), .val (.int (vv.toInt16.toInt32)), .val (.int (0 : Int32))] [(.int (vv.toInt16.toInt32)), (.ref a_FETCH)]))
    obtain ⟨cq5, kq5, q5a, q5b, q5c⟩ := isOf hZ eq4 E_FETCH
    obtain ⟨_, _, ⟨T5, L5, k5, n5⟩, -, X5, ⟨Lc5, hQ5, l5, y5, z5⟩, st5⟩ := X4.virtualBack hx (y := (⟨"com/example/tenure_of_partitions/tenureofpartitions/ApiKey", "isFlexible", "(S)Z"⟩ : MethodName)) (z := (⟨"com/example/tenure_of_partitions/tenureofpartitions/ApiKey", "isFlexible", "(S)Z"⟩ : MethodName)) hown (mvT hZ (wdx hw 8 rfl)) (mvT hZ (wdx hw 9 rfl)) (notFace_of_selects (args := #[]) (mvT hZ (wdx hw 11 rfl))) (mvT hZ (wdx hw 11 rfl)) (mvT hZ (wdx hw 10 rfl)) (by decide) (backOf (W := 0) (rm2 l Z a0 hw [] a_FETCH (vv.toInt16.toInt32) (-1 : Int32) h0 n0 O0 F_FETCH_firstFlexibleVersion) hZ (wdx hw 12 rfl) (wdx hw 6 rfl) (by decide) (by decide)) q5a q5c (g := (mkF m 67 #[.val (.int kk), .val (.int vv), .val (.int (1 : Int32)), .val (.ref a_FETCH), .val (.int (vv.toInt16.toInt32)), .val (.int (0 : Int32))] [(.int (vv.toInt16.toInt32)), (.ref a_FETCH)])) rfl (by rw [hml]; rfl) (Steps.refl _) (argsL := [(.int (vv.toInt16.toInt32))]) (rest := []) (lenOf pd__S_Z rfl) rfl (by show 2 * 0 + _ ≤ _; exact Nat.le_of_eq rfl) (hb hby at_67) (fun _ _ => ⟨rfl, eq4, (by exact Nat.le_of_ble_eq_true rfl), (by exact Nat.le_of_ble_eq_true rfl)⟩)
    dsimp only [Pt.U, Pt.locs, Pt.cells, Pt.slots] at X5 l5 y5 z5 st5 hQ5
    subst l5 y5 z5
    obtain ⟨rfl, Nq5, eq5⟩ := hQ5
    have N5 := Fr.app N4 Nq5
    refine Go.tr st5 ?_
    show Go p e below s _ _ _ (T5.setTop (mkF m 70 #[.val (.int kk), .val (.int vv), .val (.int (1 : Int32)), .val (.ref a_FETCH), .val (.int (vv.toInt16.toInt32)), .val (.int (0 : Int32))] [(.int (if (-1 : Int32) < 0 then (0 : Int32) else if (vv.toInt16.toInt32) < (-1 : Int32) then 0 else 1))]))
    refine Go.st (fun _ k' => XS.iload X5.here hx rfl (hb hby at_70) rfl k') ?_
    show Go p e below s _ _ _ (T5.setTop (mkF m 72 #[.val (.int kk), .val (.int vv), .val (.int (1 : Int32)), .val (.ref a_FETCH), .val (.int (vv.toInt16.toInt32)), .val (.int (0 : Int32))] [(.int (0 : Int32)), (.int (if (-1 : Int32) < 0 then (0 : Int32) else if (vv.toInt16.toInt32) < (-1 : Int32) then 0 else 1))]))
    by_cases hc6 : (if (-1 : Int32) < 0 then (0 : Int32) else if (vv.toInt16.toInt32) < (-1 : Int32) then 0 else 1) = (0 : Int32)
    · refine Go.st (fun _ k' => XS.icmpNo X5.here hx rfl (hb hby at_72) rfl (XT.ii_ne_f hc6) k') ?_
      show Go p e below s _ _ _ (T5.setTop (mkF m 75 #[.val (.int kk), .val (.int vv), .val (.int (1 : Int32)), .val (.ref a_FETCH), .val (.int (vv.toInt16.toInt32)), .val (.int (0 : Int32))] []))
      refine Go.st (fun _ k' => XS.iconst X5.here hx rfl (hb hby at_75) k') ?_
      show Go p e below s _ _ _ (T5.setTop (mkF m 76 #[.val (.int kk), .val (.int vv), .val (.int (1 : Int32)), .val (.ref a_FETCH), .val (.int (vv.toInt16.toInt32)), .val (.int (0 : Int32))] [(.int (1 : Int32))]))
      refine Go.st (fun _ k' => XS.goto X5.here hx rfl (pc0 := 76) (pc' := 80) rfl (hb hby at_76) (by decide) (by decide) k') ?_
      show Go p e below s _ _ _ (T5.setTop (mkF m 80 #[.val (.int kk), .val (.int vv), .val (.int (1 : Int32)), .val (.ref a_FETCH), .val (.int (vv.toInt16.toInt32)), .val (.int (0 : Int32))] [(.int (1 : Int32))]))
      refine Go.retB X5 hx hlk (t := .boolean) Bd.returns (by simp) (hb hby at_80) (by decide) (by decide) eq5 ?_
      exact ⟨rfl, N5, trivial⟩
    · refine Go.st (fun _ k' => XS.icmpYes X5.here hx rfl (pc0 := 72) (pc' := 79) rfl (hb hby at_72) rfl (XT.ii_ne_t hc6) (by decide) (by decide) k') ?_
      show Go p e below s _ _ _ (T5.setTop (mkF m 79 #[.val (.int kk), .val (.int vv), .val (.int (1 : Int32)), .val (.ref a_FETCH), .val (.int (vv.toInt16.toInt32)), .val (.int (0 : Int32))] []))
      refine Go.st (fun _ k' => XS.iconst X5.here hx rfl (hb hby at_79) k') ?_
      show Go p e below s _ _ _ (T5.setTop (mkF m 80 #[.val (.int kk), .val (.int vv), .val (.int (1 : Int32)), .val (.ref a_FETCH), .val (.int (vv.toInt16.toInt32)), .val (.int (0 : Int32))] [(.int (0 : Int32))]))
      refine Go.retB X5 hx hlk (t := .boolean) Bd.returns (by simp) (hb hby at_80) (by decide) (by decide) eq5 ?_
      exact absurd (by simp []) hc6
  · rw [hi]
    show Go p e below s _ _ _ (s₁.setTop (mkF m 8 #[.val (.int kk), .val (.int vv), .val (.int (2 : Int32)), .unset, .unset, .unset] []))
    refine Go.st (fun _ k' => XS.iloadN X0.here hx rfl (hb hby at_8) rfl k') ?_
    show Go p e below s _ _ _ (s₁.setTop (mkF m 9 #[.val (.int kk), .val (.int vv), .val (.int (2 : Int32)), .unset, .unset, .unset] [(.int (2 : Int32))]))
    obtain ⟨_, _, ⟨T7, L7, k7, n7⟩, -, X7, ⟨Lc7, hQ7, l7, y7, z7⟩, st7⟩ := Jvm.LawKit.callS X0 hx (y := (⟨"com/example/tenure_of_partitions/tenureofpartitions/ApiKeyIsFlexiblePinLaw", "pick", "(I)Lcom/example/tenure_of_partitions/tenureofpartitions/ApiKey;"⟩ : MethodName)) hown (mvT hZ (wdx hw 1 rfl)) (mvT hZ (wdx hw 2 rfl)) (mvT hZ (wdx hw 3 rfl)) (mvT hZ (wdx hw 4 rfl)) (by decide) (backOf (W := 0) (rm1 l Z a0 hw [] (2 : Int32) a_PRODUCE a_FETCH a_LIST_OFFSETS a_METADATA a_OFFSET_COMMIT a_OFFSET_FETCH a_FIND_COORDINATOR a_JOIN_GROUP a_HEARTBEAT a_LEAVE_GROUP a_SYNC_GROUP a_DESCRIBE_GROUPS a_LIST_GROUPS a_API_VERSIONS h0 n0 O0 S_PRODUCE S_FETCH S_LIST_OFFSETS S_METADATA S_OFFSET_COMMIT S_OFFSET_FETCH S_FIND_COORDINATOR S_JOIN_GROUP S_HEARTBEAT S_LEAVE_GROUP S_SYNC_GROUP S_DESCRIBE_GROUPS S_LIST_GROUPS S_API_VERSIONS) hZ (wdx hw 4 rfl) (wdx hw 3 rfl) (by decide) (by decide)) (g := (mkF m 9 #[.val (.int kk), .val (.int vv), .val (.int (2 : Int32)), .unset, .unset, .unset] [(.int (2 : Int32))])) rfl (by rw [hml]; rfl) (argsL := [(.int (2 : Int32))]) (rest := []) (lenOf pd__I_Lcom_example_tenure_of_partitions_tenureofpartitions_ApiKey_ rfl) rfl (by show 2 * 0 + _ ≤ _; exact Nat.le_of_eq rfl) (hb hby at_9) (fun _ _ => ⟨rfl, e0, (by exact Nat.le_of_ble_eq_true rfl), (by exact Nat.le_of_ble_eq_true rfl)⟩)
    dsimp only [Pt.U, Pt.locs, Pt.cells, Pt.slots] at X7 l7 y7 z7 st7 hQ7
    subst l7 y7 z7
    obtain ⟨rfl, Nq7, eq7⟩ := hQ7
    have N7 := Fr.app N0 Nq7
    refine Go.st st7 ?_
    show Go p e below s _ _ _ (T7.setTop (mkF m 12 #[.val (.int kk), .val (.int vv), .val (.int (2 : Int32)), .unset, .unset, .unset] [(.ref (fpick (2 : Int32) a_PRODUCE a_FETCH a_LIST_OFFSETS a_METADATA a_OFFSET_COMMIT a_OFFSET_FETCH a_FIND_COORDINATOR a_JOIN_GROUP a_HEARTBEAT a_LEAVE_GROUP a_SYNC_GROUP a_DESCRIBE_GROUPS a_LIST_GROUPS a_API_VERSIONS))]))
    show Go p e below s _ _ _ (T7.setTop (mkF m 12 #[.val (.int kk), .val (.int vv), .val (.int (2 : Int32)), .unset, .unset, .unset] [(.ref a_LIST_OFFSETS)]))
    refine Go.st (fun _ k' => XS.astoreN X7.here hx rfl (hb hby at_12) rfl rfl (l' := #[.val (.int kk), .val (.int vv), .val (.int (2 : Int32)), .val (.ref a_LIST_OFFSETS), .unset, .unset]) rfl k') ?_
    show Go p e below s _ _ _ (T7.setTop (mkF m 13 #[.val (.int kk), .val (.int vv), .val (.int (2 : Int32)), .val (.ref a_LIST_OFFSETS), .unset, .unset] []))
    refine Go.st (fun _ k' => XS.iloadN X7.here hx rfl (hb hby at_13) rfl k') ?_
    show Go p e below s _ _ _ (T7.setTop (mkF m 14 #[.val (.int kk), .val (.int vv), .val (.int (2 : Int32)), .val (.ref a_LIST_OFFSETS), .unset, .unset] [(.int vv)]))
    refine Go.st (fun _ k' => XS.i2s X7.here hx rfl (hb hby at_14) rfl k') ?_
    show Go p e below s _ _ _ (T7.setTop (mkF m 15 #[.val (.int kk), .val (.int vv), .val (.int (2 : Int32)), .val (.ref a_LIST_OFFSETS), .unset, .unset] [(.int (vv.toInt16.toInt32))]))
    refine Go.st (fun _ k' => XS.istore X7.here hx rfl (hb hby at_15) rfl (l' := #[.val (.int kk), .val (.int vv), .val (.int (2 : Int32)), .val (.ref a_LIST_OFFSETS), .val (.int (vv.toInt16.toInt32)), .unset]) rfl k') ?_
    show Go p e below s _ _ _ (T7.setTop (mkF m 17 #[.val (.int kk), .val (.int vv), .val (.int (2 : Int32)), .val (.ref a_LIST_OFFSETS), .val (.int (vv.toInt16.toInt32)), .unset] []))
    refine Go.st (fun _ k' => XS.iloadN X7.here hx rfl (hb hby at_17) rfl k') ?_
    show Go p e below s _ _ _ (T7.setTop (mkF m 18 #[.val (.int kk), .val (.int vv), .val (.int (2 : Int32)), .val (.ref a_LIST_OFFSETS), .val (.int (vv.toInt16.toInt32)), .unset] [(.int (2 : Int32))]))
    refine Go.st (fun _ k' => XS.iconst X7.here hx rfl (hb hby at_18) k') ?_
    show Go p e below s _ _ _ (T7.setTop (mkF m 19 #[.val (.int kk), .val (.int vv), .val (.int (2 : Int32)), .val (.ref a_LIST_OFFSETS), .val (.int (vv.toInt16.toInt32)), .unset] [(.int (5 : Int32)), (.int (2 : Int32))]))
    refine Go.st (fun _ k' => XS.icmpYes X7.here hx rfl (pc0 := 19) (pc' := 39) rfl (hb hby at_19) rfl (XT.ii_ne_t (by decide)) (by decide) (by decide) k') ?_
    show Go p e below s _ _ _ (T7.setTop (mkF m 39 #[.val (.int kk), .val (.int vv), .val (.int (2 : Int32)), .val (.ref a_LIST_OFFSETS), .val (.int (vv.toInt16.toInt32)), .unset] []))
    refine Go.st (fun _ k' => XS.iloadN X7.here hx rfl (hb hby at_39) rfl k') ?_
    show Go p e below s _ _ _ (T7.setTop (mkF m 40 #[.val (.int kk), .val (.int vv), .val (.int (2 : Int32)), .val (.ref a_LIST_OFFSETS), .val (.int (vv.toInt16.toInt32)), .unset] [(.int (2 : Int32))]))
    refine Go.st (fun _ k' => XS.bipush X7.here hx rfl (hb hby at_40) k') ?_
    show Go p e below s _ _ _ (T7.setTop (mkF m 42 #[.val (.int kk), .val (.int vv), .val (.int (2 : Int32)), .val (.ref a_LIST_OFFSETS), .val (.int (vv.toInt16.toInt32)), .unset] [(.int (13 : Int32)), (.int (2 : Int32))]))
    refine Go.st (fun _ k' => XS.icmpYes X7.here hx rfl (pc0 := 42) (pc' := 61) rfl (hb hby at_42) rfl (XT.ii_ne_t (by decide)) (by decide) (by decide) k') ?_
    show Go p e below s _ _ _ (T7.setTop (mkF m 61 #[.val (.int kk), .val (.int vv), .val (.int (2 : Int32)), .val (.ref a_LIST_OFFSETS), .val (.int (vv.toInt16.toInt32)), .unset] []))
    refine Go.st (fun _ k' => XS.iconst X7.here hx rfl (hb hby at_61) k') ?_
    show Go p e below s _ _ _ (T7.setTop (mkF m 62 #[.val (.int kk), .val (.int vv), .val (.int (2 : Int32)), .val (.ref a_LIST_OFFSETS), .val (.int (vv.toInt16.toInt32)), .unset] [(.int (0 : Int32))]))
    refine Go.st (fun _ k' => XS.istore X7.here hx rfl (hb hby at_62) rfl (l' := #[.val (.int kk), .val (.int vv), .val (.int (2 : Int32)), .val (.ref a_LIST_OFFSETS), .val (.int (vv.toInt16.toInt32)), .val (.int (0 : Int32))]) rfl k') ?_
    show Go p e below s _ _ _ (T7.setTop (mkF m 64 #[.val (.int kk), .val (.int vv), .val (.int (2 : Int32)), .val (.ref a_LIST_OFFSETS), .val (.int (vv.toInt16.toInt32)), .val (.int (0 : Int32))] []))
    refine Go.st (fun _ k' => XS.aloadN X7.here hx rfl (hb hby at_64) rfl rfl k') ?_
    show Go p e below s _ _ _ (T7.setTop (mkF m 65 #[.val (.int kk), .val (.int vv), .val (.int (2 : Int32)), .val (.ref a_LIST_OFFSETS), .val (.int (vv.toInt16.toInt32)), .val (.int (0 : Int32))] [(.ref a_LIST_OFFSETS)]))
    refine Go.st (fun _ k' => XS.iload X7.here hx rfl (hb hby at_65) rfl k') ?_
    show Go p e below s _ _ _ (T7.setTop (mkF m 67 #[.val (.int kk), .val (.int vv), .val (.int (2 : Int32)), .val (.ref a_LIST_OFFSETS), .val (.int (vv.toInt16.toInt32)), .val (.int (0 : Int32))] [(.int (vv.toInt16.toInt32)), (.ref a_LIST_OFFSETS)]))
    obtain ⟨cq8, kq8, q8a, q8b, q8c⟩ := isOf hZ eq7 E_LIST_OFFSETS
    obtain ⟨_, _, ⟨T8, L8, k8, n8⟩, -, X8, ⟨Lc8, hQ8, l8, y8, z8⟩, st8⟩ := X7.virtualBack hx (y := (⟨"com/example/tenure_of_partitions/tenureofpartitions/ApiKey", "isFlexible", "(S)Z"⟩ : MethodName)) (z := (⟨"com/example/tenure_of_partitions/tenureofpartitions/ApiKey", "isFlexible", "(S)Z"⟩ : MethodName)) hown (mvT hZ (wdx hw 8 rfl)) (mvT hZ (wdx hw 9 rfl)) (notFace_of_selects (args := #[]) (mvT hZ (wdx hw 11 rfl))) (mvT hZ (wdx hw 11 rfl)) (mvT hZ (wdx hw 10 rfl)) (by decide) (backOf (W := 0) (rm2 l Z a0 hw [] a_LIST_OFFSETS (vv.toInt16.toInt32) (-1 : Int32) h0 n0 O0 F_LIST_OFFSETS_firstFlexibleVersion) hZ (wdx hw 12 rfl) (wdx hw 6 rfl) (by decide) (by decide)) q8a q8c (g := (mkF m 67 #[.val (.int kk), .val (.int vv), .val (.int (2 : Int32)), .val (.ref a_LIST_OFFSETS), .val (.int (vv.toInt16.toInt32)), .val (.int (0 : Int32))] [(.int (vv.toInt16.toInt32)), (.ref a_LIST_OFFSETS)])) rfl (by rw [hml]; rfl) (Steps.refl _) (argsL := [(.int (vv.toInt16.toInt32))]) (rest := []) (lenOf pd__S_Z rfl) rfl (by show 2 * 0 + _ ≤ _; exact Nat.le_of_eq rfl) (hb hby at_67) (fun _ _ => ⟨rfl, eq7, (by exact Nat.le_of_ble_eq_true rfl), (by exact Nat.le_of_ble_eq_true rfl)⟩)
    dsimp only [Pt.U, Pt.locs, Pt.cells, Pt.slots] at X8 l8 y8 z8 st8 hQ8
    subst l8 y8 z8
    obtain ⟨rfl, Nq8, eq8⟩ := hQ8
    have N8 := Fr.app N7 Nq8
    refine Go.tr st8 ?_
    show Go p e below s _ _ _ (T8.setTop (mkF m 70 #[.val (.int kk), .val (.int vv), .val (.int (2 : Int32)), .val (.ref a_LIST_OFFSETS), .val (.int (vv.toInt16.toInt32)), .val (.int (0 : Int32))] [(.int (if (-1 : Int32) < 0 then (0 : Int32) else if (vv.toInt16.toInt32) < (-1 : Int32) then 0 else 1))]))
    refine Go.st (fun _ k' => XS.iload X8.here hx rfl (hb hby at_70) rfl k') ?_
    show Go p e below s _ _ _ (T8.setTop (mkF m 72 #[.val (.int kk), .val (.int vv), .val (.int (2 : Int32)), .val (.ref a_LIST_OFFSETS), .val (.int (vv.toInt16.toInt32)), .val (.int (0 : Int32))] [(.int (0 : Int32)), (.int (if (-1 : Int32) < 0 then (0 : Int32) else if (vv.toInt16.toInt32) < (-1 : Int32) then 0 else 1))]))
    by_cases hc9 : (if (-1 : Int32) < 0 then (0 : Int32) else if (vv.toInt16.toInt32) < (-1 : Int32) then 0 else 1) = (0 : Int32)
    · refine Go.st (fun _ k' => XS.icmpNo X8.here hx rfl (hb hby at_72) rfl (XT.ii_ne_f hc9) k') ?_
      show Go p e below s _ _ _ (T8.setTop (mkF m 75 #[.val (.int kk), .val (.int vv), .val (.int (2 : Int32)), .val (.ref a_LIST_OFFSETS), .val (.int (vv.toInt16.toInt32)), .val (.int (0 : Int32))] []))
      refine Go.st (fun _ k' => XS.iconst X8.here hx rfl (hb hby at_75) k') ?_
      show Go p e below s _ _ _ (T8.setTop (mkF m 76 #[.val (.int kk), .val (.int vv), .val (.int (2 : Int32)), .val (.ref a_LIST_OFFSETS), .val (.int (vv.toInt16.toInt32)), .val (.int (0 : Int32))] [(.int (1 : Int32))]))
      refine Go.st (fun _ k' => XS.goto X8.here hx rfl (pc0 := 76) (pc' := 80) rfl (hb hby at_76) (by decide) (by decide) k') ?_
      show Go p e below s _ _ _ (T8.setTop (mkF m 80 #[.val (.int kk), .val (.int vv), .val (.int (2 : Int32)), .val (.ref a_LIST_OFFSETS), .val (.int (vv.toInt16.toInt32)), .val (.int (0 : Int32))] [(.int (1 : Int32))]))
      refine Go.retB X8 hx hlk (t := .boolean) Bd.returns (by simp) (hb hby at_80) (by decide) (by decide) eq8 ?_
      exact ⟨rfl, N8, trivial⟩
    · refine Go.st (fun _ k' => XS.icmpYes X8.here hx rfl (pc0 := 72) (pc' := 79) rfl (hb hby at_72) rfl (XT.ii_ne_t hc9) (by decide) (by decide) k') ?_
      show Go p e below s _ _ _ (T8.setTop (mkF m 79 #[.val (.int kk), .val (.int vv), .val (.int (2 : Int32)), .val (.ref a_LIST_OFFSETS), .val (.int (vv.toInt16.toInt32)), .val (.int (0 : Int32))] []))
      refine Go.st (fun _ k' => XS.iconst X8.here hx rfl (hb hby at_79) k') ?_
      show Go p e below s _ _ _ (T8.setTop (mkF m 80 #[.val (.int kk), .val (.int vv), .val (.int (2 : Int32)), .val (.ref a_LIST_OFFSETS), .val (.int (vv.toInt16.toInt32)), .val (.int (0 : Int32))] [(.int (0 : Int32))]))
      refine Go.retB X8 hx hlk (t := .boolean) Bd.returns (by simp) (hb hby at_80) (by decide) (by decide) eq8 ?_
      exact absurd (by simp []) hc9
  · rw [hi]
    show Go p e below s _ _ _ (s₁.setTop (mkF m 8 #[.val (.int kk), .val (.int vv), .val (.int (3 : Int32)), .unset, .unset, .unset] []))
    refine Go.st (fun _ k' => XS.iloadN X0.here hx rfl (hb hby at_8) rfl k') ?_
    show Go p e below s _ _ _ (s₁.setTop (mkF m 9 #[.val (.int kk), .val (.int vv), .val (.int (3 : Int32)), .unset, .unset, .unset] [(.int (3 : Int32))]))
    obtain ⟨_, _, ⟨T10, L10, k10, n10⟩, -, X10, ⟨Lc10, hQ10, l10, y10, z10⟩, st10⟩ := Jvm.LawKit.callS X0 hx (y := (⟨"com/example/tenure_of_partitions/tenureofpartitions/ApiKeyIsFlexiblePinLaw", "pick", "(I)Lcom/example/tenure_of_partitions/tenureofpartitions/ApiKey;"⟩ : MethodName)) hown (mvT hZ (wdx hw 1 rfl)) (mvT hZ (wdx hw 2 rfl)) (mvT hZ (wdx hw 3 rfl)) (mvT hZ (wdx hw 4 rfl)) (by decide) (backOf (W := 0) (rm1 l Z a0 hw [] (3 : Int32) a_PRODUCE a_FETCH a_LIST_OFFSETS a_METADATA a_OFFSET_COMMIT a_OFFSET_FETCH a_FIND_COORDINATOR a_JOIN_GROUP a_HEARTBEAT a_LEAVE_GROUP a_SYNC_GROUP a_DESCRIBE_GROUPS a_LIST_GROUPS a_API_VERSIONS h0 n0 O0 S_PRODUCE S_FETCH S_LIST_OFFSETS S_METADATA S_OFFSET_COMMIT S_OFFSET_FETCH S_FIND_COORDINATOR S_JOIN_GROUP S_HEARTBEAT S_LEAVE_GROUP S_SYNC_GROUP S_DESCRIBE_GROUPS S_LIST_GROUPS S_API_VERSIONS) hZ (wdx hw 4 rfl) (wdx hw 3 rfl) (by decide) (by decide)) (g := (mkF m 9 #[.val (.int kk), .val (.int vv), .val (.int (3 : Int32)), .unset, .unset, .unset] [(.int (3 : Int32))])) rfl (by rw [hml]; rfl) (argsL := [(.int (3 : Int32))]) (rest := []) (lenOf pd__I_Lcom_example_tenure_of_partitions_tenureofpartitions_ApiKey_ rfl) rfl (by show 2 * 0 + _ ≤ _; exact Nat.le_of_eq rfl) (hb hby at_9) (fun _ _ => ⟨rfl, e0, (by exact Nat.le_of_ble_eq_true rfl), (by exact Nat.le_of_ble_eq_true rfl)⟩)
    dsimp only [Pt.U, Pt.locs, Pt.cells, Pt.slots] at X10 l10 y10 z10 st10 hQ10
    subst l10 y10 z10
    obtain ⟨rfl, Nq10, eq10⟩ := hQ10
    have N10 := Fr.app N0 Nq10
    refine Go.st st10 ?_
    show Go p e below s _ _ _ (T10.setTop (mkF m 12 #[.val (.int kk), .val (.int vv), .val (.int (3 : Int32)), .unset, .unset, .unset] [(.ref (fpick (3 : Int32) a_PRODUCE a_FETCH a_LIST_OFFSETS a_METADATA a_OFFSET_COMMIT a_OFFSET_FETCH a_FIND_COORDINATOR a_JOIN_GROUP a_HEARTBEAT a_LEAVE_GROUP a_SYNC_GROUP a_DESCRIBE_GROUPS a_LIST_GROUPS a_API_VERSIONS))]))
    show Go p e below s _ _ _ (T10.setTop (mkF m 12 #[.val (.int kk), .val (.int vv), .val (.int (3 : Int32)), .unset, .unset, .unset] [(.ref a_METADATA)]))
    refine Go.st (fun _ k' => XS.astoreN X10.here hx rfl (hb hby at_12) rfl rfl (l' := #[.val (.int kk), .val (.int vv), .val (.int (3 : Int32)), .val (.ref a_METADATA), .unset, .unset]) rfl k') ?_
    show Go p e below s _ _ _ (T10.setTop (mkF m 13 #[.val (.int kk), .val (.int vv), .val (.int (3 : Int32)), .val (.ref a_METADATA), .unset, .unset] []))
    refine Go.st (fun _ k' => XS.iloadN X10.here hx rfl (hb hby at_13) rfl k') ?_
    show Go p e below s _ _ _ (T10.setTop (mkF m 14 #[.val (.int kk), .val (.int vv), .val (.int (3 : Int32)), .val (.ref a_METADATA), .unset, .unset] [(.int vv)]))
    refine Go.st (fun _ k' => XS.i2s X10.here hx rfl (hb hby at_14) rfl k') ?_
    show Go p e below s _ _ _ (T10.setTop (mkF m 15 #[.val (.int kk), .val (.int vv), .val (.int (3 : Int32)), .val (.ref a_METADATA), .unset, .unset] [(.int (vv.toInt16.toInt32))]))
    refine Go.st (fun _ k' => XS.istore X10.here hx rfl (hb hby at_15) rfl (l' := #[.val (.int kk), .val (.int vv), .val (.int (3 : Int32)), .val (.ref a_METADATA), .val (.int (vv.toInt16.toInt32)), .unset]) rfl k') ?_
    show Go p e below s _ _ _ (T10.setTop (mkF m 17 #[.val (.int kk), .val (.int vv), .val (.int (3 : Int32)), .val (.ref a_METADATA), .val (.int (vv.toInt16.toInt32)), .unset] []))
    refine Go.st (fun _ k' => XS.iloadN X10.here hx rfl (hb hby at_17) rfl k') ?_
    show Go p e below s _ _ _ (T10.setTop (mkF m 18 #[.val (.int kk), .val (.int vv), .val (.int (3 : Int32)), .val (.ref a_METADATA), .val (.int (vv.toInt16.toInt32)), .unset] [(.int (3 : Int32))]))
    refine Go.st (fun _ k' => XS.iconst X10.here hx rfl (hb hby at_18) k') ?_
    show Go p e below s _ _ _ (T10.setTop (mkF m 19 #[.val (.int kk), .val (.int vv), .val (.int (3 : Int32)), .val (.ref a_METADATA), .val (.int (vv.toInt16.toInt32)), .unset] [(.int (5 : Int32)), (.int (3 : Int32))]))
    refine Go.st (fun _ k' => XS.icmpYes X10.here hx rfl (pc0 := 19) (pc' := 39) rfl (hb hby at_19) rfl (XT.ii_ne_t (by decide)) (by decide) (by decide) k') ?_
    show Go p e below s _ _ _ (T10.setTop (mkF m 39 #[.val (.int kk), .val (.int vv), .val (.int (3 : Int32)), .val (.ref a_METADATA), .val (.int (vv.toInt16.toInt32)), .unset] []))
    refine Go.st (fun _ k' => XS.iloadN X10.here hx rfl (hb hby at_39) rfl k') ?_
    show Go p e below s _ _ _ (T10.setTop (mkF m 40 #[.val (.int kk), .val (.int vv), .val (.int (3 : Int32)), .val (.ref a_METADATA), .val (.int (vv.toInt16.toInt32)), .unset] [(.int (3 : Int32))]))
    refine Go.st (fun _ k' => XS.bipush X10.here hx rfl (hb hby at_40) k') ?_
    show Go p e below s _ _ _ (T10.setTop (mkF m 42 #[.val (.int kk), .val (.int vv), .val (.int (3 : Int32)), .val (.ref a_METADATA), .val (.int (vv.toInt16.toInt32)), .unset] [(.int (13 : Int32)), (.int (3 : Int32))]))
    refine Go.st (fun _ k' => XS.icmpYes X10.here hx rfl (pc0 := 42) (pc' := 61) rfl (hb hby at_42) rfl (XT.ii_ne_t (by decide)) (by decide) (by decide) k') ?_
    show Go p e below s _ _ _ (T10.setTop (mkF m 61 #[.val (.int kk), .val (.int vv), .val (.int (3 : Int32)), .val (.ref a_METADATA), .val (.int (vv.toInt16.toInt32)), .unset] []))
    refine Go.st (fun _ k' => XS.iconst X10.here hx rfl (hb hby at_61) k') ?_
    show Go p e below s _ _ _ (T10.setTop (mkF m 62 #[.val (.int kk), .val (.int vv), .val (.int (3 : Int32)), .val (.ref a_METADATA), .val (.int (vv.toInt16.toInt32)), .unset] [(.int (0 : Int32))]))
    refine Go.st (fun _ k' => XS.istore X10.here hx rfl (hb hby at_62) rfl (l' := #[.val (.int kk), .val (.int vv), .val (.int (3 : Int32)), .val (.ref a_METADATA), .val (.int (vv.toInt16.toInt32)), .val (.int (0 : Int32))]) rfl k') ?_
    show Go p e below s _ _ _ (T10.setTop (mkF m 64 #[.val (.int kk), .val (.int vv), .val (.int (3 : Int32)), .val (.ref a_METADATA), .val (.int (vv.toInt16.toInt32)), .val (.int (0 : Int32))] []))
    refine Go.st (fun _ k' => XS.aloadN X10.here hx rfl (hb hby at_64) rfl rfl k') ?_
    show Go p e below s _ _ _ (T10.setTop (mkF m 65 #[.val (.int kk), .val (.int vv), .val (.int (3 : Int32)), .val (.ref a_METADATA), .val (.int (vv.toInt16.toInt32)), .val (.int (0 : Int32))] [(.ref a_METADATA)]))
    refine Go.st (fun _ k' => XS.iload X10.here hx rfl (hb hby at_65) rfl k') ?_
    show Go p e below s _ _ _ (T10.setTop (mkF m 67 #[.val (.int kk), .val (.int vv), .val (.int (3 : Int32)), .val (.ref a_METADATA), .val (.int (vv.toInt16.toInt32)), .val (.int (0 : Int32))] [(.int (vv.toInt16.toInt32)), (.ref a_METADATA)]))
    obtain ⟨cq11, kq11, q11a, q11b, q11c⟩ := isOf hZ eq10 E_METADATA
    obtain ⟨_, _, ⟨T11, L11, k11, n11⟩, -, X11, ⟨Lc11, hQ11, l11, y11, z11⟩, st11⟩ := X10.virtualBack hx (y := (⟨"com/example/tenure_of_partitions/tenureofpartitions/ApiKey", "isFlexible", "(S)Z"⟩ : MethodName)) (z := (⟨"com/example/tenure_of_partitions/tenureofpartitions/ApiKey", "isFlexible", "(S)Z"⟩ : MethodName)) hown (mvT hZ (wdx hw 8 rfl)) (mvT hZ (wdx hw 9 rfl)) (notFace_of_selects (args := #[]) (mvT hZ (wdx hw 11 rfl))) (mvT hZ (wdx hw 11 rfl)) (mvT hZ (wdx hw 10 rfl)) (by decide) (backOf (W := 0) (rm2 l Z a0 hw [] a_METADATA (vv.toInt16.toInt32) (-1 : Int32) h0 n0 O0 F_METADATA_firstFlexibleVersion) hZ (wdx hw 12 rfl) (wdx hw 6 rfl) (by decide) (by decide)) q11a q11c (g := (mkF m 67 #[.val (.int kk), .val (.int vv), .val (.int (3 : Int32)), .val (.ref a_METADATA), .val (.int (vv.toInt16.toInt32)), .val (.int (0 : Int32))] [(.int (vv.toInt16.toInt32)), (.ref a_METADATA)])) rfl (by rw [hml]; rfl) (Steps.refl _) (argsL := [(.int (vv.toInt16.toInt32))]) (rest := []) (lenOf pd__S_Z rfl) rfl (by show 2 * 0 + _ ≤ _; exact Nat.le_of_eq rfl) (hb hby at_67) (fun _ _ => ⟨rfl, eq10, (by exact Nat.le_of_ble_eq_true rfl), (by exact Nat.le_of_ble_eq_true rfl)⟩)
    dsimp only [Pt.U, Pt.locs, Pt.cells, Pt.slots] at X11 l11 y11 z11 st11 hQ11
    subst l11 y11 z11
    obtain ⟨rfl, Nq11, eq11⟩ := hQ11
    have N11 := Fr.app N10 Nq11
    refine Go.tr st11 ?_
    show Go p e below s _ _ _ (T11.setTop (mkF m 70 #[.val (.int kk), .val (.int vv), .val (.int (3 : Int32)), .val (.ref a_METADATA), .val (.int (vv.toInt16.toInt32)), .val (.int (0 : Int32))] [(.int (if (-1 : Int32) < 0 then (0 : Int32) else if (vv.toInt16.toInt32) < (-1 : Int32) then 0 else 1))]))
    refine Go.st (fun _ k' => XS.iload X11.here hx rfl (hb hby at_70) rfl k') ?_
    show Go p e below s _ _ _ (T11.setTop (mkF m 72 #[.val (.int kk), .val (.int vv), .val (.int (3 : Int32)), .val (.ref a_METADATA), .val (.int (vv.toInt16.toInt32)), .val (.int (0 : Int32))] [(.int (0 : Int32)), (.int (if (-1 : Int32) < 0 then (0 : Int32) else if (vv.toInt16.toInt32) < (-1 : Int32) then 0 else 1))]))
    by_cases hc12 : (if (-1 : Int32) < 0 then (0 : Int32) else if (vv.toInt16.toInt32) < (-1 : Int32) then 0 else 1) = (0 : Int32)
    · refine Go.st (fun _ k' => XS.icmpNo X11.here hx rfl (hb hby at_72) rfl (XT.ii_ne_f hc12) k') ?_
      show Go p e below s _ _ _ (T11.setTop (mkF m 75 #[.val (.int kk), .val (.int vv), .val (.int (3 : Int32)), .val (.ref a_METADATA), .val (.int (vv.toInt16.toInt32)), .val (.int (0 : Int32))] []))
      refine Go.st (fun _ k' => XS.iconst X11.here hx rfl (hb hby at_75) k') ?_
      show Go p e below s _ _ _ (T11.setTop (mkF m 76 #[.val (.int kk), .val (.int vv), .val (.int (3 : Int32)), .val (.ref a_METADATA), .val (.int (vv.toInt16.toInt32)), .val (.int (0 : Int32))] [(.int (1 : Int32))]))
      refine Go.st (fun _ k' => XS.goto X11.here hx rfl (pc0 := 76) (pc' := 80) rfl (hb hby at_76) (by decide) (by decide) k') ?_
      show Go p e below s _ _ _ (T11.setTop (mkF m 80 #[.val (.int kk), .val (.int vv), .val (.int (3 : Int32)), .val (.ref a_METADATA), .val (.int (vv.toInt16.toInt32)), .val (.int (0 : Int32))] [(.int (1 : Int32))]))
      refine Go.retB X11 hx hlk (t := .boolean) Bd.returns (by simp) (hb hby at_80) (by decide) (by decide) eq11 ?_
      exact ⟨rfl, N11, trivial⟩
    · refine Go.st (fun _ k' => XS.icmpYes X11.here hx rfl (pc0 := 72) (pc' := 79) rfl (hb hby at_72) rfl (XT.ii_ne_t hc12) (by decide) (by decide) k') ?_
      show Go p e below s _ _ _ (T11.setTop (mkF m 79 #[.val (.int kk), .val (.int vv), .val (.int (3 : Int32)), .val (.ref a_METADATA), .val (.int (vv.toInt16.toInt32)), .val (.int (0 : Int32))] []))
      refine Go.st (fun _ k' => XS.iconst X11.here hx rfl (hb hby at_79) k') ?_
      show Go p e below s _ _ _ (T11.setTop (mkF m 80 #[.val (.int kk), .val (.int vv), .val (.int (3 : Int32)), .val (.ref a_METADATA), .val (.int (vv.toInt16.toInt32)), .val (.int (0 : Int32))] [(.int (0 : Int32))]))
      refine Go.retB X11 hx hlk (t := .boolean) Bd.returns (by simp) (hb hby at_80) (by decide) (by decide) eq11 ?_
      exact absurd (by simp []) hc12
  · rw [hi]
    show Go p e below s _ _ _ (s₁.setTop (mkF m 8 #[.val (.int kk), .val (.int vv), .val (.int (4 : Int32)), .unset, .unset, .unset] []))
    refine Go.st (fun _ k' => XS.iloadN X0.here hx rfl (hb hby at_8) rfl k') ?_
    show Go p e below s _ _ _ (s₁.setTop (mkF m 9 #[.val (.int kk), .val (.int vv), .val (.int (4 : Int32)), .unset, .unset, .unset] [(.int (4 : Int32))]))
    obtain ⟨_, _, ⟨T13, L13, k13, n13⟩, -, X13, ⟨Lc13, hQ13, l13, y13, z13⟩, st13⟩ := Jvm.LawKit.callS X0 hx (y := (⟨"com/example/tenure_of_partitions/tenureofpartitions/ApiKeyIsFlexiblePinLaw", "pick", "(I)Lcom/example/tenure_of_partitions/tenureofpartitions/ApiKey;"⟩ : MethodName)) hown (mvT hZ (wdx hw 1 rfl)) (mvT hZ (wdx hw 2 rfl)) (mvT hZ (wdx hw 3 rfl)) (mvT hZ (wdx hw 4 rfl)) (by decide) (backOf (W := 0) (rm1 l Z a0 hw [] (4 : Int32) a_PRODUCE a_FETCH a_LIST_OFFSETS a_METADATA a_OFFSET_COMMIT a_OFFSET_FETCH a_FIND_COORDINATOR a_JOIN_GROUP a_HEARTBEAT a_LEAVE_GROUP a_SYNC_GROUP a_DESCRIBE_GROUPS a_LIST_GROUPS a_API_VERSIONS h0 n0 O0 S_PRODUCE S_FETCH S_LIST_OFFSETS S_METADATA S_OFFSET_COMMIT S_OFFSET_FETCH S_FIND_COORDINATOR S_JOIN_GROUP S_HEARTBEAT S_LEAVE_GROUP S_SYNC_GROUP S_DESCRIBE_GROUPS S_LIST_GROUPS S_API_VERSIONS) hZ (wdx hw 4 rfl) (wdx hw 3 rfl) (by decide) (by decide)) (g := (mkF m 9 #[.val (.int kk), .val (.int vv), .val (.int (4 : Int32)), .unset, .unset, .unset] [(.int (4 : Int32))])) rfl (by rw [hml]; rfl) (argsL := [(.int (4 : Int32))]) (rest := []) (lenOf pd__I_Lcom_example_tenure_of_partitions_tenureofpartitions_ApiKey_ rfl) rfl (by show 2 * 0 + _ ≤ _; exact Nat.le_of_eq rfl) (hb hby at_9) (fun _ _ => ⟨rfl, e0, (by exact Nat.le_of_ble_eq_true rfl), (by exact Nat.le_of_ble_eq_true rfl)⟩)
    dsimp only [Pt.U, Pt.locs, Pt.cells, Pt.slots] at X13 l13 y13 z13 st13 hQ13
    subst l13 y13 z13
    obtain ⟨rfl, Nq13, eq13⟩ := hQ13
    have N13 := Fr.app N0 Nq13
    refine Go.st st13 ?_
    show Go p e below s _ _ _ (T13.setTop (mkF m 12 #[.val (.int kk), .val (.int vv), .val (.int (4 : Int32)), .unset, .unset, .unset] [(.ref (fpick (4 : Int32) a_PRODUCE a_FETCH a_LIST_OFFSETS a_METADATA a_OFFSET_COMMIT a_OFFSET_FETCH a_FIND_COORDINATOR a_JOIN_GROUP a_HEARTBEAT a_LEAVE_GROUP a_SYNC_GROUP a_DESCRIBE_GROUPS a_LIST_GROUPS a_API_VERSIONS))]))
    show Go p e below s _ _ _ (T13.setTop (mkF m 12 #[.val (.int kk), .val (.int vv), .val (.int (4 : Int32)), .unset, .unset, .unset] [(.ref a_OFFSET_COMMIT)]))
    refine Go.st (fun _ k' => XS.astoreN X13.here hx rfl (hb hby at_12) rfl rfl (l' := #[.val (.int kk), .val (.int vv), .val (.int (4 : Int32)), .val (.ref a_OFFSET_COMMIT), .unset, .unset]) rfl k') ?_
    show Go p e below s _ _ _ (T13.setTop (mkF m 13 #[.val (.int kk), .val (.int vv), .val (.int (4 : Int32)), .val (.ref a_OFFSET_COMMIT), .unset, .unset] []))
    refine Go.st (fun _ k' => XS.iloadN X13.here hx rfl (hb hby at_13) rfl k') ?_
    show Go p e below s _ _ _ (T13.setTop (mkF m 14 #[.val (.int kk), .val (.int vv), .val (.int (4 : Int32)), .val (.ref a_OFFSET_COMMIT), .unset, .unset] [(.int vv)]))
    refine Go.st (fun _ k' => XS.i2s X13.here hx rfl (hb hby at_14) rfl k') ?_
    show Go p e below s _ _ _ (T13.setTop (mkF m 15 #[.val (.int kk), .val (.int vv), .val (.int (4 : Int32)), .val (.ref a_OFFSET_COMMIT), .unset, .unset] [(.int (vv.toInt16.toInt32))]))
    refine Go.st (fun _ k' => XS.istore X13.here hx rfl (hb hby at_15) rfl (l' := #[.val (.int kk), .val (.int vv), .val (.int (4 : Int32)), .val (.ref a_OFFSET_COMMIT), .val (.int (vv.toInt16.toInt32)), .unset]) rfl k') ?_
    show Go p e below s _ _ _ (T13.setTop (mkF m 17 #[.val (.int kk), .val (.int vv), .val (.int (4 : Int32)), .val (.ref a_OFFSET_COMMIT), .val (.int (vv.toInt16.toInt32)), .unset] []))
    refine Go.st (fun _ k' => XS.iloadN X13.here hx rfl (hb hby at_17) rfl k') ?_
    show Go p e below s _ _ _ (T13.setTop (mkF m 18 #[.val (.int kk), .val (.int vv), .val (.int (4 : Int32)), .val (.ref a_OFFSET_COMMIT), .val (.int (vv.toInt16.toInt32)), .unset] [(.int (4 : Int32))]))
    refine Go.st (fun _ k' => XS.iconst X13.here hx rfl (hb hby at_18) k') ?_
    show Go p e below s _ _ _ (T13.setTop (mkF m 19 #[.val (.int kk), .val (.int vv), .val (.int (4 : Int32)), .val (.ref a_OFFSET_COMMIT), .val (.int (vv.toInt16.toInt32)), .unset] [(.int (5 : Int32)), (.int (4 : Int32))]))
    refine Go.st (fun _ k' => XS.icmpYes X13.here hx rfl (pc0 := 19) (pc' := 39) rfl (hb hby at_19) rfl (XT.ii_ne_t (by decide)) (by decide) (by decide) k') ?_
    show Go p e below s _ _ _ (T13.setTop (mkF m 39 #[.val (.int kk), .val (.int vv), .val (.int (4 : Int32)), .val (.ref a_OFFSET_COMMIT), .val (.int (vv.toInt16.toInt32)), .unset] []))
    refine Go.st (fun _ k' => XS.iloadN X13.here hx rfl (hb hby at_39) rfl k') ?_
    show Go p e below s _ _ _ (T13.setTop (mkF m 40 #[.val (.int kk), .val (.int vv), .val (.int (4 : Int32)), .val (.ref a_OFFSET_COMMIT), .val (.int (vv.toInt16.toInt32)), .unset] [(.int (4 : Int32))]))
    refine Go.st (fun _ k' => XS.bipush X13.here hx rfl (hb hby at_40) k') ?_
    show Go p e below s _ _ _ (T13.setTop (mkF m 42 #[.val (.int kk), .val (.int vv), .val (.int (4 : Int32)), .val (.ref a_OFFSET_COMMIT), .val (.int (vv.toInt16.toInt32)), .unset] [(.int (13 : Int32)), (.int (4 : Int32))]))
    refine Go.st (fun _ k' => XS.icmpYes X13.here hx rfl (pc0 := 42) (pc' := 61) rfl (hb hby at_42) rfl (XT.ii_ne_t (by decide)) (by decide) (by decide) k') ?_
    show Go p e below s _ _ _ (T13.setTop (mkF m 61 #[.val (.int kk), .val (.int vv), .val (.int (4 : Int32)), .val (.ref a_OFFSET_COMMIT), .val (.int (vv.toInt16.toInt32)), .unset] []))
    refine Go.st (fun _ k' => XS.iconst X13.here hx rfl (hb hby at_61) k') ?_
    show Go p e below s _ _ _ (T13.setTop (mkF m 62 #[.val (.int kk), .val (.int vv), .val (.int (4 : Int32)), .val (.ref a_OFFSET_COMMIT), .val (.int (vv.toInt16.toInt32)), .unset] [(.int (0 : Int32))]))
    refine Go.st (fun _ k' => XS.istore X13.here hx rfl (hb hby at_62) rfl (l' := #[.val (.int kk), .val (.int vv), .val (.int (4 : Int32)), .val (.ref a_OFFSET_COMMIT), .val (.int (vv.toInt16.toInt32)), .val (.int (0 : Int32))]) rfl k') ?_
    show Go p e below s _ _ _ (T13.setTop (mkF m 64 #[.val (.int kk), .val (.int vv), .val (.int (4 : Int32)), .val (.ref a_OFFSET_COMMIT), .val (.int (vv.toInt16.toInt32)), .val (.int (0 : Int32))] []))
    refine Go.st (fun _ k' => XS.aloadN X13.here hx rfl (hb hby at_64) rfl rfl k') ?_
    show Go p e below s _ _ _ (T13.setTop (mkF m 65 #[.val (.int kk), .val (.int vv), .val (.int (4 : Int32)), .val (.ref a_OFFSET_COMMIT), .val (.int (vv.toInt16.toInt32)), .val (.int (0 : Int32))] [(.ref a_OFFSET_COMMIT)]))
    refine Go.st (fun _ k' => XS.iload X13.here hx rfl (hb hby at_65) rfl k') ?_
    show Go p e below s _ _ _ (T13.setTop (mkF m 67 #[.val (.int kk), .val (.int vv), .val (.int (4 : Int32)), .val (.ref a_OFFSET_COMMIT), .val (.int (vv.toInt16.toInt32)), .val (.int (0 : Int32))] [(.int (vv.toInt16.toInt32)), (.ref a_OFFSET_COMMIT)]))
    obtain ⟨cq14, kq14, q14a, q14b, q14c⟩ := isOf hZ eq13 E_OFFSET_COMMIT
    obtain ⟨_, _, ⟨T14, L14, k14, n14⟩, -, X14, ⟨Lc14, hQ14, l14, y14, z14⟩, st14⟩ := X13.virtualBack hx (y := (⟨"com/example/tenure_of_partitions/tenureofpartitions/ApiKey", "isFlexible", "(S)Z"⟩ : MethodName)) (z := (⟨"com/example/tenure_of_partitions/tenureofpartitions/ApiKey", "isFlexible", "(S)Z"⟩ : MethodName)) hown (mvT hZ (wdx hw 8 rfl)) (mvT hZ (wdx hw 9 rfl)) (notFace_of_selects (args := #[]) (mvT hZ (wdx hw 11 rfl))) (mvT hZ (wdx hw 11 rfl)) (mvT hZ (wdx hw 10 rfl)) (by decide) (backOf (W := 0) (rm2 l Z a0 hw [] a_OFFSET_COMMIT (vv.toInt16.toInt32) (-1 : Int32) h0 n0 O0 F_OFFSET_COMMIT_firstFlexibleVersion) hZ (wdx hw 12 rfl) (wdx hw 6 rfl) (by decide) (by decide)) q14a q14c (g := (mkF m 67 #[.val (.int kk), .val (.int vv), .val (.int (4 : Int32)), .val (.ref a_OFFSET_COMMIT), .val (.int (vv.toInt16.toInt32)), .val (.int (0 : Int32))] [(.int (vv.toInt16.toInt32)), (.ref a_OFFSET_COMMIT)])) rfl (by rw [hml]; rfl) (Steps.refl _) (argsL := [(.int (vv.toInt16.toInt32))]) (rest := []) (lenOf pd__S_Z rfl) rfl (by show 2 * 0 + _ ≤ _; exact Nat.le_of_eq rfl) (hb hby at_67) (fun _ _ => ⟨rfl, eq13, (by exact Nat.le_of_ble_eq_true rfl), (by exact Nat.le_of_ble_eq_true rfl)⟩)
    dsimp only [Pt.U, Pt.locs, Pt.cells, Pt.slots] at X14 l14 y14 z14 st14 hQ14
    subst l14 y14 z14
    obtain ⟨rfl, Nq14, eq14⟩ := hQ14
    have N14 := Fr.app N13 Nq14
    refine Go.tr st14 ?_
    show Go p e below s _ _ _ (T14.setTop (mkF m 70 #[.val (.int kk), .val (.int vv), .val (.int (4 : Int32)), .val (.ref a_OFFSET_COMMIT), .val (.int (vv.toInt16.toInt32)), .val (.int (0 : Int32))] [(.int (if (-1 : Int32) < 0 then (0 : Int32) else if (vv.toInt16.toInt32) < (-1 : Int32) then 0 else 1))]))
    refine Go.st (fun _ k' => XS.iload X14.here hx rfl (hb hby at_70) rfl k') ?_
    show Go p e below s _ _ _ (T14.setTop (mkF m 72 #[.val (.int kk), .val (.int vv), .val (.int (4 : Int32)), .val (.ref a_OFFSET_COMMIT), .val (.int (vv.toInt16.toInt32)), .val (.int (0 : Int32))] [(.int (0 : Int32)), (.int (if (-1 : Int32) < 0 then (0 : Int32) else if (vv.toInt16.toInt32) < (-1 : Int32) then 0 else 1))]))
    by_cases hc15 : (if (-1 : Int32) < 0 then (0 : Int32) else if (vv.toInt16.toInt32) < (-1 : Int32) then 0 else 1) = (0 : Int32)
    · refine Go.st (fun _ k' => XS.icmpNo X14.here hx rfl (hb hby at_72) rfl (XT.ii_ne_f hc15) k') ?_
      show Go p e below s _ _ _ (T14.setTop (mkF m 75 #[.val (.int kk), .val (.int vv), .val (.int (4 : Int32)), .val (.ref a_OFFSET_COMMIT), .val (.int (vv.toInt16.toInt32)), .val (.int (0 : Int32))] []))
      refine Go.st (fun _ k' => XS.iconst X14.here hx rfl (hb hby at_75) k') ?_
      show Go p e below s _ _ _ (T14.setTop (mkF m 76 #[.val (.int kk), .val (.int vv), .val (.int (4 : Int32)), .val (.ref a_OFFSET_COMMIT), .val (.int (vv.toInt16.toInt32)), .val (.int (0 : Int32))] [(.int (1 : Int32))]))
      refine Go.st (fun _ k' => XS.goto X14.here hx rfl (pc0 := 76) (pc' := 80) rfl (hb hby at_76) (by decide) (by decide) k') ?_
      show Go p e below s _ _ _ (T14.setTop (mkF m 80 #[.val (.int kk), .val (.int vv), .val (.int (4 : Int32)), .val (.ref a_OFFSET_COMMIT), .val (.int (vv.toInt16.toInt32)), .val (.int (0 : Int32))] [(.int (1 : Int32))]))
      refine Go.retB X14 hx hlk (t := .boolean) Bd.returns (by simp) (hb hby at_80) (by decide) (by decide) eq14 ?_
      exact ⟨rfl, N14, trivial⟩
    · refine Go.st (fun _ k' => XS.icmpYes X14.here hx rfl (pc0 := 72) (pc' := 79) rfl (hb hby at_72) rfl (XT.ii_ne_t hc15) (by decide) (by decide) k') ?_
      show Go p e below s _ _ _ (T14.setTop (mkF m 79 #[.val (.int kk), .val (.int vv), .val (.int (4 : Int32)), .val (.ref a_OFFSET_COMMIT), .val (.int (vv.toInt16.toInt32)), .val (.int (0 : Int32))] []))
      refine Go.st (fun _ k' => XS.iconst X14.here hx rfl (hb hby at_79) k') ?_
      show Go p e below s _ _ _ (T14.setTop (mkF m 80 #[.val (.int kk), .val (.int vv), .val (.int (4 : Int32)), .val (.ref a_OFFSET_COMMIT), .val (.int (vv.toInt16.toInt32)), .val (.int (0 : Int32))] [(.int (0 : Int32))]))
      refine Go.retB X14 hx hlk (t := .boolean) Bd.returns (by simp) (hb hby at_80) (by decide) (by decide) eq14 ?_
      exact absurd (by simp []) hc15
  · rw [hi]
    show Go p e below s _ _ _ (s₁.setTop (mkF m 8 #[.val (.int kk), .val (.int vv), .val (.int (5 : Int32)), .unset, .unset, .unset] []))
    refine Go.st (fun _ k' => XS.iloadN X0.here hx rfl (hb hby at_8) rfl k') ?_
    show Go p e below s _ _ _ (s₁.setTop (mkF m 9 #[.val (.int kk), .val (.int vv), .val (.int (5 : Int32)), .unset, .unset, .unset] [(.int (5 : Int32))]))
    obtain ⟨_, _, ⟨T16, L16, k16, n16⟩, -, X16, ⟨Lc16, hQ16, l16, y16, z16⟩, st16⟩ := Jvm.LawKit.callS X0 hx (y := (⟨"com/example/tenure_of_partitions/tenureofpartitions/ApiKeyIsFlexiblePinLaw", "pick", "(I)Lcom/example/tenure_of_partitions/tenureofpartitions/ApiKey;"⟩ : MethodName)) hown (mvT hZ (wdx hw 1 rfl)) (mvT hZ (wdx hw 2 rfl)) (mvT hZ (wdx hw 3 rfl)) (mvT hZ (wdx hw 4 rfl)) (by decide) (backOf (W := 0) (rm1 l Z a0 hw [] (5 : Int32) a_PRODUCE a_FETCH a_LIST_OFFSETS a_METADATA a_OFFSET_COMMIT a_OFFSET_FETCH a_FIND_COORDINATOR a_JOIN_GROUP a_HEARTBEAT a_LEAVE_GROUP a_SYNC_GROUP a_DESCRIBE_GROUPS a_LIST_GROUPS a_API_VERSIONS h0 n0 O0 S_PRODUCE S_FETCH S_LIST_OFFSETS S_METADATA S_OFFSET_COMMIT S_OFFSET_FETCH S_FIND_COORDINATOR S_JOIN_GROUP S_HEARTBEAT S_LEAVE_GROUP S_SYNC_GROUP S_DESCRIBE_GROUPS S_LIST_GROUPS S_API_VERSIONS) hZ (wdx hw 4 rfl) (wdx hw 3 rfl) (by decide) (by decide)) (g := (mkF m 9 #[.val (.int kk), .val (.int vv), .val (.int (5 : Int32)), .unset, .unset, .unset] [(.int (5 : Int32))])) rfl (by rw [hml]; rfl) (argsL := [(.int (5 : Int32))]) (rest := []) (lenOf pd__I_Lcom_example_tenure_of_partitions_tenureofpartitions_ApiKey_ rfl) rfl (by show 2 * 0 + _ ≤ _; exact Nat.le_of_eq rfl) (hb hby at_9) (fun _ _ => ⟨rfl, e0, (by exact Nat.le_of_ble_eq_true rfl), (by exact Nat.le_of_ble_eq_true rfl)⟩)
    dsimp only [Pt.U, Pt.locs, Pt.cells, Pt.slots] at X16 l16 y16 z16 st16 hQ16
    subst l16 y16 z16
    obtain ⟨rfl, Nq16, eq16⟩ := hQ16
    have N16 := Fr.app N0 Nq16
    refine Go.st st16 ?_
    show Go p e below s _ _ _ (T16.setTop (mkF m 12 #[.val (.int kk), .val (.int vv), .val (.int (5 : Int32)), .unset, .unset, .unset] [(.ref (fpick (5 : Int32) a_PRODUCE a_FETCH a_LIST_OFFSETS a_METADATA a_OFFSET_COMMIT a_OFFSET_FETCH a_FIND_COORDINATOR a_JOIN_GROUP a_HEARTBEAT a_LEAVE_GROUP a_SYNC_GROUP a_DESCRIBE_GROUPS a_LIST_GROUPS a_API_VERSIONS))]))
    show Go p e below s _ _ _ (T16.setTop (mkF m 12 #[.val (.int kk), .val (.int vv), .val (.int (5 : Int32)), .unset, .unset, .unset] [(.ref a_OFFSET_FETCH)]))
    refine Go.st (fun _ k' => XS.astoreN X16.here hx rfl (hb hby at_12) rfl rfl (l' := #[.val (.int kk), .val (.int vv), .val (.int (5 : Int32)), .val (.ref a_OFFSET_FETCH), .unset, .unset]) rfl k') ?_
    show Go p e below s _ _ _ (T16.setTop (mkF m 13 #[.val (.int kk), .val (.int vv), .val (.int (5 : Int32)), .val (.ref a_OFFSET_FETCH), .unset, .unset] []))
    refine Go.st (fun _ k' => XS.iloadN X16.here hx rfl (hb hby at_13) rfl k') ?_
    show Go p e below s _ _ _ (T16.setTop (mkF m 14 #[.val (.int kk), .val (.int vv), .val (.int (5 : Int32)), .val (.ref a_OFFSET_FETCH), .unset, .unset] [(.int vv)]))
    refine Go.st (fun _ k' => XS.i2s X16.here hx rfl (hb hby at_14) rfl k') ?_
    show Go p e below s _ _ _ (T16.setTop (mkF m 15 #[.val (.int kk), .val (.int vv), .val (.int (5 : Int32)), .val (.ref a_OFFSET_FETCH), .unset, .unset] [(.int (vv.toInt16.toInt32))]))
    refine Go.st (fun _ k' => XS.istore X16.here hx rfl (hb hby at_15) rfl (l' := #[.val (.int kk), .val (.int vv), .val (.int (5 : Int32)), .val (.ref a_OFFSET_FETCH), .val (.int (vv.toInt16.toInt32)), .unset]) rfl k') ?_
    show Go p e below s _ _ _ (T16.setTop (mkF m 17 #[.val (.int kk), .val (.int vv), .val (.int (5 : Int32)), .val (.ref a_OFFSET_FETCH), .val (.int (vv.toInt16.toInt32)), .unset] []))
    refine Go.st (fun _ k' => XS.iloadN X16.here hx rfl (hb hby at_17) rfl k') ?_
    show Go p e below s _ _ _ (T16.setTop (mkF m 18 #[.val (.int kk), .val (.int vv), .val (.int (5 : Int32)), .val (.ref a_OFFSET_FETCH), .val (.int (vv.toInt16.toInt32)), .unset] [(.int (5 : Int32))]))
    refine Go.st (fun _ k' => XS.iconst X16.here hx rfl (hb hby at_18) k') ?_
    show Go p e below s _ _ _ (T16.setTop (mkF m 19 #[.val (.int kk), .val (.int vv), .val (.int (5 : Int32)), .val (.ref a_OFFSET_FETCH), .val (.int (vv.toInt16.toInt32)), .unset] [(.int (5 : Int32)), (.int (5 : Int32))]))
    refine Go.st (fun _ k' => XS.icmpNo X16.here hx rfl (hb hby at_19) rfl (XT.ii_ne_f (by decide)) k') ?_
    show Go p e below s _ _ _ (T16.setTop (mkF m 22 #[.val (.int kk), .val (.int vv), .val (.int (5 : Int32)), .val (.ref a_OFFSET_FETCH), .val (.int (vv.toInt16.toInt32)), .unset] []))
    refine Go.st (fun _ k' => XS.iload X16.here hx rfl (hb hby at_22) rfl k') ?_
    show Go p e below s _ _ _ (T16.setTop (mkF m 24 #[.val (.int kk), .val (.int vv), .val (.int (5 : Int32)), .val (.ref a_OFFSET_FETCH), .val (.int (vv.toInt16.toInt32)), .unset] [(.int (vv.toInt16.toInt32))]))
    refine Go.st (fun _ k' => XS.bipush X16.here hx rfl (hb hby at_24) k') ?_
    show Go p e below s _ _ _ (T16.setTop (mkF m 26 #[.val (.int kk), .val (.int vv), .val (.int (5 : Int32)), .val (.ref a_OFFSET_FETCH), .val (.int (vv.toInt16.toInt32)), .unset] [(.int (6 : Int32)), (.int (vv.toInt16.toInt32))]))
    by_cases hc17 : (vv.toInt16.toInt32) < (6 : Int32)
    · refine Go.st (fun _ k' => XS.icmpYes X16.here hx rfl (pc0 := 26) (pc' := 33) rfl (hb hby at_26) rfl (XT.ii_lt_t hc17) (by decide) (by decide) k') ?_
      show Go p e below s _ _ _ (T16.setTop (mkF m 33 #[.val (.int kk), .val (.int vv), .val (.int (5 : Int32)), .val (.ref a_OFFSET_FETCH), .val (.int (vv.toInt16.toInt32)), .unset] []))
      refine Go.st (fun _ k' => XS.iconst X16.here hx rfl (hb hby at_33) k') ?_
      show Go p e below s _ _ _ (T16.setTop (mkF m 34 #[.val (.int kk), .val (.int vv), .val (.int (5 : Int32)), .val (.ref a_OFFSET_FETCH), .val (.int (vv.toInt16.toInt32)), .unset] [(.int (0 : Int32))]))
      refine Go.st (fun _ k' => XS.istore X16.here hx rfl (hb hby at_34) rfl (l' := #[.val (.int kk), .val (.int vv), .val (.int (5 : Int32)), .val (.ref a_OFFSET_FETCH), .val (.int (vv.toInt16.toInt32)), .val (.int (0 : Int32))]) rfl k') ?_
      show Go p e below s _ _ _ (T16.setTop (mkF m 36 #[.val (.int kk), .val (.int vv), .val (.int (5 : Int32)), .val (.ref a_OFFSET_FETCH), .val (.int (vv.toInt16.toInt32)), .val (.int (0 : Int32))] []))
      refine Go.st (fun _ k' => XS.goto X16.here hx rfl (pc0 := 36) (pc' := 64) rfl (hb hby at_36) (by decide) (by decide) k') ?_
      show Go p e below s _ _ _ (T16.setTop (mkF m 64 #[.val (.int kk), .val (.int vv), .val (.int (5 : Int32)), .val (.ref a_OFFSET_FETCH), .val (.int (vv.toInt16.toInt32)), .val (.int (0 : Int32))] []))
      refine Go.st (fun _ k' => XS.aloadN X16.here hx rfl (hb hby at_64) rfl rfl k') ?_
      show Go p e below s _ _ _ (T16.setTop (mkF m 65 #[.val (.int kk), .val (.int vv), .val (.int (5 : Int32)), .val (.ref a_OFFSET_FETCH), .val (.int (vv.toInt16.toInt32)), .val (.int (0 : Int32))] [(.ref a_OFFSET_FETCH)]))
      refine Go.st (fun _ k' => XS.iload X16.here hx rfl (hb hby at_65) rfl k') ?_
      show Go p e below s _ _ _ (T16.setTop (mkF m 67 #[.val (.int kk), .val (.int vv), .val (.int (5 : Int32)), .val (.ref a_OFFSET_FETCH), .val (.int (vv.toInt16.toInt32)), .val (.int (0 : Int32))] [(.int (vv.toInt16.toInt32)), (.ref a_OFFSET_FETCH)]))
      obtain ⟨cq18, kq18, q18a, q18b, q18c⟩ := isOf hZ eq16 E_OFFSET_FETCH
      obtain ⟨_, _, ⟨T18, L18, k18, n18⟩, -, X18, ⟨Lc18, hQ18, l18, y18, z18⟩, st18⟩ := X16.virtualBack hx (y := (⟨"com/example/tenure_of_partitions/tenureofpartitions/ApiKey", "isFlexible", "(S)Z"⟩ : MethodName)) (z := (⟨"com/example/tenure_of_partitions/tenureofpartitions/ApiKey", "isFlexible", "(S)Z"⟩ : MethodName)) hown (mvT hZ (wdx hw 8 rfl)) (mvT hZ (wdx hw 9 rfl)) (notFace_of_selects (args := #[]) (mvT hZ (wdx hw 11 rfl))) (mvT hZ (wdx hw 11 rfl)) (mvT hZ (wdx hw 10 rfl)) (by decide) (backOf (W := 0) (rm2 l Z a0 hw [] a_OFFSET_FETCH (vv.toInt16.toInt32) (6 : Int32) h0 n0 O0 F_OFFSET_FETCH_firstFlexibleVersion) hZ (wdx hw 12 rfl) (wdx hw 6 rfl) (by decide) (by decide)) q18a q18c (g := (mkF m 67 #[.val (.int kk), .val (.int vv), .val (.int (5 : Int32)), .val (.ref a_OFFSET_FETCH), .val (.int (vv.toInt16.toInt32)), .val (.int (0 : Int32))] [(.int (vv.toInt16.toInt32)), (.ref a_OFFSET_FETCH)])) rfl (by rw [hml]; rfl) (Steps.refl _) (argsL := [(.int (vv.toInt16.toInt32))]) (rest := []) (lenOf pd__S_Z rfl) rfl (by show 2 * 0 + _ ≤ _; exact Nat.le_of_eq rfl) (hb hby at_67) (fun _ _ => ⟨rfl, eq16, (by exact Nat.le_of_ble_eq_true rfl), (by exact Nat.le_of_ble_eq_true rfl)⟩)
      dsimp only [Pt.U, Pt.locs, Pt.cells, Pt.slots] at X18 l18 y18 z18 st18 hQ18
      subst l18 y18 z18
      obtain ⟨rfl, Nq18, eq18⟩ := hQ18
      have N18 := Fr.app N16 Nq18
      refine Go.tr st18 ?_
      show Go p e below s _ _ _ (T18.setTop (mkF m 70 #[.val (.int kk), .val (.int vv), .val (.int (5 : Int32)), .val (.ref a_OFFSET_FETCH), .val (.int (vv.toInt16.toInt32)), .val (.int (0 : Int32))] [(.int (if (6 : Int32) < 0 then (0 : Int32) else if (vv.toInt16.toInt32) < (6 : Int32) then 0 else 1))]))
      refine Go.st (fun _ k' => XS.iload X18.here hx rfl (hb hby at_70) rfl k') ?_
      show Go p e below s _ _ _ (T18.setTop (mkF m 72 #[.val (.int kk), .val (.int vv), .val (.int (5 : Int32)), .val (.ref a_OFFSET_FETCH), .val (.int (vv.toInt16.toInt32)), .val (.int (0 : Int32))] [(.int (0 : Int32)), (.int (if (6 : Int32) < 0 then (0 : Int32) else if (vv.toInt16.toInt32) < (6 : Int32) then 0 else 1))]))
      by_cases hc19 : (if (6 : Int32) < 0 then (0 : Int32) else if (vv.toInt16.toInt32) < (6 : Int32) then 0 else 1) = (0 : Int32)
      · refine Go.st (fun _ k' => XS.icmpNo X18.here hx rfl (hb hby at_72) rfl (XT.ii_ne_f hc19) k') ?_
        show Go p e below s _ _ _ (T18.setTop (mkF m 75 #[.val (.int kk), .val (.int vv), .val (.int (5 : Int32)), .val (.ref a_OFFSET_FETCH), .val (.int (vv.toInt16.toInt32)), .val (.int (0 : Int32))] []))
        refine Go.st (fun _ k' => XS.iconst X18.here hx rfl (hb hby at_75) k') ?_
        show Go p e below s _ _ _ (T18.setTop (mkF m 76 #[.val (.int kk), .val (.int vv), .val (.int (5 : Int32)), .val (.ref a_OFFSET_FETCH), .val (.int (vv.toInt16.toInt32)), .val (.int (0 : Int32))] [(.int (1 : Int32))]))
        refine Go.st (fun _ k' => XS.goto X18.here hx rfl (pc0 := 76) (pc' := 80) rfl (hb hby at_76) (by decide) (by decide) k') ?_
        show Go p e below s _ _ _ (T18.setTop (mkF m 80 #[.val (.int kk), .val (.int vv), .val (.int (5 : Int32)), .val (.ref a_OFFSET_FETCH), .val (.int (vv.toInt16.toInt32)), .val (.int (0 : Int32))] [(.int (1 : Int32))]))
        refine Go.retB X18 hx hlk (t := .boolean) Bd.returns (by simp) (hb hby at_80) (by decide) (by decide) eq18 ?_
        exact ⟨rfl, N18, trivial⟩
      · refine Go.st (fun _ k' => XS.icmpYes X18.here hx rfl (pc0 := 72) (pc' := 79) rfl (hb hby at_72) rfl (XT.ii_ne_t hc19) (by decide) (by decide) k') ?_
        show Go p e below s _ _ _ (T18.setTop (mkF m 79 #[.val (.int kk), .val (.int vv), .val (.int (5 : Int32)), .val (.ref a_OFFSET_FETCH), .val (.int (vv.toInt16.toInt32)), .val (.int (0 : Int32))] []))
        refine Go.st (fun _ k' => XS.iconst X18.here hx rfl (hb hby at_79) k') ?_
        show Go p e below s _ _ _ (T18.setTop (mkF m 80 #[.val (.int kk), .val (.int vv), .val (.int (5 : Int32)), .val (.ref a_OFFSET_FETCH), .val (.int (vv.toInt16.toInt32)), .val (.int (0 : Int32))] [(.int (0 : Int32))]))
        refine Go.retB X18 hx hlk (t := .boolean) Bd.returns (by simp) (hb hby at_80) (by decide) (by decide) eq18 ?_
        exact absurd (by simp [hc17]) hc19
    · refine Go.st (fun _ k' => XS.icmpNo X16.here hx rfl (hb hby at_26) rfl (XT.ii_lt_f hc17) k') ?_
      show Go p e below s _ _ _ (T16.setTop (mkF m 29 #[.val (.int kk), .val (.int vv), .val (.int (5 : Int32)), .val (.ref a_OFFSET_FETCH), .val (.int (vv.toInt16.toInt32)), .unset] []))
      refine Go.st (fun _ k' => XS.iconst X16.here hx rfl (hb hby at_29) k') ?_
      show Go p e below s _ _ _ (T16.setTop (mkF m 30 #[.val (.int kk), .val (.int vv), .val (.int (5 : Int32)), .val (.ref a_OFFSET_FETCH), .val (.int (vv.toInt16.toInt32)), .unset] [(.int (1 : Int32))]))
      refine Go.st (fun _ k' => XS.goto X16.here hx rfl (pc0 := 30) (pc' := 34) rfl (hb hby at_30) (by decide) (by decide) k') ?_
      show Go p e below s _ _ _ (T16.setTop (mkF m 34 #[.val (.int kk), .val (.int vv), .val (.int (5 : Int32)), .val (.ref a_OFFSET_FETCH), .val (.int (vv.toInt16.toInt32)), .unset] [(.int (1 : Int32))]))
      refine Go.st (fun _ k' => XS.istore X16.here hx rfl (hb hby at_34) rfl (l' := #[.val (.int kk), .val (.int vv), .val (.int (5 : Int32)), .val (.ref a_OFFSET_FETCH), .val (.int (vv.toInt16.toInt32)), .val (.int (1 : Int32))]) rfl k') ?_
      show Go p e below s _ _ _ (T16.setTop (mkF m 36 #[.val (.int kk), .val (.int vv), .val (.int (5 : Int32)), .val (.ref a_OFFSET_FETCH), .val (.int (vv.toInt16.toInt32)), .val (.int (1 : Int32))] []))
      refine Go.st (fun _ k' => XS.goto X16.here hx rfl (pc0 := 36) (pc' := 64) rfl (hb hby at_36) (by decide) (by decide) k') ?_
      show Go p e below s _ _ _ (T16.setTop (mkF m 64 #[.val (.int kk), .val (.int vv), .val (.int (5 : Int32)), .val (.ref a_OFFSET_FETCH), .val (.int (vv.toInt16.toInt32)), .val (.int (1 : Int32))] []))
      refine Go.st (fun _ k' => XS.aloadN X16.here hx rfl (hb hby at_64) rfl rfl k') ?_
      show Go p e below s _ _ _ (T16.setTop (mkF m 65 #[.val (.int kk), .val (.int vv), .val (.int (5 : Int32)), .val (.ref a_OFFSET_FETCH), .val (.int (vv.toInt16.toInt32)), .val (.int (1 : Int32))] [(.ref a_OFFSET_FETCH)]))
      refine Go.st (fun _ k' => XS.iload X16.here hx rfl (hb hby at_65) rfl k') ?_
      show Go p e below s _ _ _ (T16.setTop (mkF m 67 #[.val (.int kk), .val (.int vv), .val (.int (5 : Int32)), .val (.ref a_OFFSET_FETCH), .val (.int (vv.toInt16.toInt32)), .val (.int (1 : Int32))] [(.int (vv.toInt16.toInt32)), (.ref a_OFFSET_FETCH)]))
      obtain ⟨cq20, kq20, q20a, q20b, q20c⟩ := isOf hZ eq16 E_OFFSET_FETCH
      obtain ⟨_, _, ⟨T20, L20, k20, n20⟩, -, X20, ⟨Lc20, hQ20, l20, y20, z20⟩, st20⟩ := X16.virtualBack hx (y := (⟨"com/example/tenure_of_partitions/tenureofpartitions/ApiKey", "isFlexible", "(S)Z"⟩ : MethodName)) (z := (⟨"com/example/tenure_of_partitions/tenureofpartitions/ApiKey", "isFlexible", "(S)Z"⟩ : MethodName)) hown (mvT hZ (wdx hw 8 rfl)) (mvT hZ (wdx hw 9 rfl)) (notFace_of_selects (args := #[]) (mvT hZ (wdx hw 11 rfl))) (mvT hZ (wdx hw 11 rfl)) (mvT hZ (wdx hw 10 rfl)) (by decide) (backOf (W := 0) (rm2 l Z a0 hw [] a_OFFSET_FETCH (vv.toInt16.toInt32) (6 : Int32) h0 n0 O0 F_OFFSET_FETCH_firstFlexibleVersion) hZ (wdx hw 12 rfl) (wdx hw 6 rfl) (by decide) (by decide)) q20a q20c (g := (mkF m 67 #[.val (.int kk), .val (.int vv), .val (.int (5 : Int32)), .val (.ref a_OFFSET_FETCH), .val (.int (vv.toInt16.toInt32)), .val (.int (1 : Int32))] [(.int (vv.toInt16.toInt32)), (.ref a_OFFSET_FETCH)])) rfl (by rw [hml]; rfl) (Steps.refl _) (argsL := [(.int (vv.toInt16.toInt32))]) (rest := []) (lenOf pd__S_Z rfl) rfl (by show 2 * 0 + _ ≤ _; exact Nat.le_of_eq rfl) (hb hby at_67) (fun _ _ => ⟨rfl, eq16, (by exact Nat.le_of_ble_eq_true rfl), (by exact Nat.le_of_ble_eq_true rfl)⟩)
      dsimp only [Pt.U, Pt.locs, Pt.cells, Pt.slots] at X20 l20 y20 z20 st20 hQ20
      subst l20 y20 z20
      obtain ⟨rfl, Nq20, eq20⟩ := hQ20
      have N20 := Fr.app N16 Nq20
      refine Go.tr st20 ?_
      show Go p e below s _ _ _ (T20.setTop (mkF m 70 #[.val (.int kk), .val (.int vv), .val (.int (5 : Int32)), .val (.ref a_OFFSET_FETCH), .val (.int (vv.toInt16.toInt32)), .val (.int (1 : Int32))] [(.int (if (6 : Int32) < 0 then (0 : Int32) else if (vv.toInt16.toInt32) < (6 : Int32) then 0 else 1))]))
      refine Go.st (fun _ k' => XS.iload X20.here hx rfl (hb hby at_70) rfl k') ?_
      show Go p e below s _ _ _ (T20.setTop (mkF m 72 #[.val (.int kk), .val (.int vv), .val (.int (5 : Int32)), .val (.ref a_OFFSET_FETCH), .val (.int (vv.toInt16.toInt32)), .val (.int (1 : Int32))] [(.int (1 : Int32)), (.int (if (6 : Int32) < 0 then (0 : Int32) else if (vv.toInt16.toInt32) < (6 : Int32) then 0 else 1))]))
      by_cases hc21 : (if (6 : Int32) < 0 then (0 : Int32) else if (vv.toInt16.toInt32) < (6 : Int32) then 0 else 1) = (1 : Int32)
      · refine Go.st (fun _ k' => XS.icmpNo X20.here hx rfl (hb hby at_72) rfl (XT.ii_ne_f hc21) k') ?_
        show Go p e below s _ _ _ (T20.setTop (mkF m 75 #[.val (.int kk), .val (.int vv), .val (.int (5 : Int32)), .val (.ref a_OFFSET_FETCH), .val (.int (vv.toInt16.toInt32)), .val (.int (1 : Int32))] []))
        refine Go.st (fun _ k' => XS.iconst X20.here hx rfl (hb hby at_75) k') ?_
        show Go p e below s _ _ _ (T20.setTop (mkF m 76 #[.val (.int kk), .val (.int vv), .val (.int (5 : Int32)), .val (.ref a_OFFSET_FETCH), .val (.int (vv.toInt16.toInt32)), .val (.int (1 : Int32))] [(.int (1 : Int32))]))
        refine Go.st (fun _ k' => XS.goto X20.here hx rfl (pc0 := 76) (pc' := 80) rfl (hb hby at_76) (by decide) (by decide) k') ?_
        show Go p e below s _ _ _ (T20.setTop (mkF m 80 #[.val (.int kk), .val (.int vv), .val (.int (5 : Int32)), .val (.ref a_OFFSET_FETCH), .val (.int (vv.toInt16.toInt32)), .val (.int (1 : Int32))] [(.int (1 : Int32))]))
        refine Go.retB X20 hx hlk (t := .boolean) Bd.returns (by simp) (hb hby at_80) (by decide) (by decide) eq20 ?_
        exact ⟨rfl, N20, trivial⟩
      · refine Go.st (fun _ k' => XS.icmpYes X20.here hx rfl (pc0 := 72) (pc' := 79) rfl (hb hby at_72) rfl (XT.ii_ne_t hc21) (by decide) (by decide) k') ?_
        show Go p e below s _ _ _ (T20.setTop (mkF m 79 #[.val (.int kk), .val (.int vv), .val (.int (5 : Int32)), .val (.ref a_OFFSET_FETCH), .val (.int (vv.toInt16.toInt32)), .val (.int (1 : Int32))] []))
        refine Go.st (fun _ k' => XS.iconst X20.here hx rfl (hb hby at_79) k') ?_
        show Go p e below s _ _ _ (T20.setTop (mkF m 80 #[.val (.int kk), .val (.int vv), .val (.int (5 : Int32)), .val (.ref a_OFFSET_FETCH), .val (.int (vv.toInt16.toInt32)), .val (.int (1 : Int32))] [(.int (0 : Int32))]))
        refine Go.retB X20 hx hlk (t := .boolean) Bd.returns (by simp) (hb hby at_80) (by decide) (by decide) eq20 ?_
        exact absurd (by simp [hc17]) hc21
  · rw [hi]
    show Go p e below s _ _ _ (s₁.setTop (mkF m 8 #[.val (.int kk), .val (.int vv), .val (.int (6 : Int32)), .unset, .unset, .unset] []))
    refine Go.st (fun _ k' => XS.iloadN X0.here hx rfl (hb hby at_8) rfl k') ?_
    show Go p e below s _ _ _ (s₁.setTop (mkF m 9 #[.val (.int kk), .val (.int vv), .val (.int (6 : Int32)), .unset, .unset, .unset] [(.int (6 : Int32))]))
    obtain ⟨_, _, ⟨T22, L22, k22, n22⟩, -, X22, ⟨Lc22, hQ22, l22, y22, z22⟩, st22⟩ := Jvm.LawKit.callS X0 hx (y := (⟨"com/example/tenure_of_partitions/tenureofpartitions/ApiKeyIsFlexiblePinLaw", "pick", "(I)Lcom/example/tenure_of_partitions/tenureofpartitions/ApiKey;"⟩ : MethodName)) hown (mvT hZ (wdx hw 1 rfl)) (mvT hZ (wdx hw 2 rfl)) (mvT hZ (wdx hw 3 rfl)) (mvT hZ (wdx hw 4 rfl)) (by decide) (backOf (W := 0) (rm1 l Z a0 hw [] (6 : Int32) a_PRODUCE a_FETCH a_LIST_OFFSETS a_METADATA a_OFFSET_COMMIT a_OFFSET_FETCH a_FIND_COORDINATOR a_JOIN_GROUP a_HEARTBEAT a_LEAVE_GROUP a_SYNC_GROUP a_DESCRIBE_GROUPS a_LIST_GROUPS a_API_VERSIONS h0 n0 O0 S_PRODUCE S_FETCH S_LIST_OFFSETS S_METADATA S_OFFSET_COMMIT S_OFFSET_FETCH S_FIND_COORDINATOR S_JOIN_GROUP S_HEARTBEAT S_LEAVE_GROUP S_SYNC_GROUP S_DESCRIBE_GROUPS S_LIST_GROUPS S_API_VERSIONS) hZ (wdx hw 4 rfl) (wdx hw 3 rfl) (by decide) (by decide)) (g := (mkF m 9 #[.val (.int kk), .val (.int vv), .val (.int (6 : Int32)), .unset, .unset, .unset] [(.int (6 : Int32))])) rfl (by rw [hml]; rfl) (argsL := [(.int (6 : Int32))]) (rest := []) (lenOf pd__I_Lcom_example_tenure_of_partitions_tenureofpartitions_ApiKey_ rfl) rfl (by show 2 * 0 + _ ≤ _; exact Nat.le_of_eq rfl) (hb hby at_9) (fun _ _ => ⟨rfl, e0, (by exact Nat.le_of_ble_eq_true rfl), (by exact Nat.le_of_ble_eq_true rfl)⟩)
    dsimp only [Pt.U, Pt.locs, Pt.cells, Pt.slots] at X22 l22 y22 z22 st22 hQ22
    subst l22 y22 z22
    obtain ⟨rfl, Nq22, eq22⟩ := hQ22
    have N22 := Fr.app N0 Nq22
    refine Go.st st22 ?_
    show Go p e below s _ _ _ (T22.setTop (mkF m 12 #[.val (.int kk), .val (.int vv), .val (.int (6 : Int32)), .unset, .unset, .unset] [(.ref (fpick (6 : Int32) a_PRODUCE a_FETCH a_LIST_OFFSETS a_METADATA a_OFFSET_COMMIT a_OFFSET_FETCH a_FIND_COORDINATOR a_JOIN_GROUP a_HEARTBEAT a_LEAVE_GROUP a_SYNC_GROUP a_DESCRIBE_GROUPS a_LIST_GROUPS a_API_VERSIONS))]))
    show Go p e below s _ _ _ (T22.setTop (mkF m 12 #[.val (.int kk), .val (.int vv), .val (.int (6 : Int32)), .unset, .unset, .unset] [(.ref a_FIND_COORDINATOR)]))
    refine Go.st (fun _ k' => XS.astoreN X22.here hx rfl (hb hby at_12) rfl rfl (l' := #[.val (.int kk), .val (.int vv), .val (.int (6 : Int32)), .val (.ref a_FIND_COORDINATOR), .unset, .unset]) rfl k') ?_
    show Go p e below s _ _ _ (T22.setTop (mkF m 13 #[.val (.int kk), .val (.int vv), .val (.int (6 : Int32)), .val (.ref a_FIND_COORDINATOR), .unset, .unset] []))
    refine Go.st (fun _ k' => XS.iloadN X22.here hx rfl (hb hby at_13) rfl k') ?_
    show Go p e below s _ _ _ (T22.setTop (mkF m 14 #[.val (.int kk), .val (.int vv), .val (.int (6 : Int32)), .val (.ref a_FIND_COORDINATOR), .unset, .unset] [(.int vv)]))
    refine Go.st (fun _ k' => XS.i2s X22.here hx rfl (hb hby at_14) rfl k') ?_
    show Go p e below s _ _ _ (T22.setTop (mkF m 15 #[.val (.int kk), .val (.int vv), .val (.int (6 : Int32)), .val (.ref a_FIND_COORDINATOR), .unset, .unset] [(.int (vv.toInt16.toInt32))]))
    refine Go.st (fun _ k' => XS.istore X22.here hx rfl (hb hby at_15) rfl (l' := #[.val (.int kk), .val (.int vv), .val (.int (6 : Int32)), .val (.ref a_FIND_COORDINATOR), .val (.int (vv.toInt16.toInt32)), .unset]) rfl k') ?_
    show Go p e below s _ _ _ (T22.setTop (mkF m 17 #[.val (.int kk), .val (.int vv), .val (.int (6 : Int32)), .val (.ref a_FIND_COORDINATOR), .val (.int (vv.toInt16.toInt32)), .unset] []))
    refine Go.st (fun _ k' => XS.iloadN X22.here hx rfl (hb hby at_17) rfl k') ?_
    show Go p e below s _ _ _ (T22.setTop (mkF m 18 #[.val (.int kk), .val (.int vv), .val (.int (6 : Int32)), .val (.ref a_FIND_COORDINATOR), .val (.int (vv.toInt16.toInt32)), .unset] [(.int (6 : Int32))]))
    refine Go.st (fun _ k' => XS.iconst X22.here hx rfl (hb hby at_18) k') ?_
    show Go p e below s _ _ _ (T22.setTop (mkF m 19 #[.val (.int kk), .val (.int vv), .val (.int (6 : Int32)), .val (.ref a_FIND_COORDINATOR), .val (.int (vv.toInt16.toInt32)), .unset] [(.int (5 : Int32)), (.int (6 : Int32))]))
    refine Go.st (fun _ k' => XS.icmpYes X22.here hx rfl (pc0 := 19) (pc' := 39) rfl (hb hby at_19) rfl (XT.ii_ne_t (by decide)) (by decide) (by decide) k') ?_
    show Go p e below s _ _ _ (T22.setTop (mkF m 39 #[.val (.int kk), .val (.int vv), .val (.int (6 : Int32)), .val (.ref a_FIND_COORDINATOR), .val (.int (vv.toInt16.toInt32)), .unset] []))
    refine Go.st (fun _ k' => XS.iloadN X22.here hx rfl (hb hby at_39) rfl k') ?_
    show Go p e below s _ _ _ (T22.setTop (mkF m 40 #[.val (.int kk), .val (.int vv), .val (.int (6 : Int32)), .val (.ref a_FIND_COORDINATOR), .val (.int (vv.toInt16.toInt32)), .unset] [(.int (6 : Int32))]))
    refine Go.st (fun _ k' => XS.bipush X22.here hx rfl (hb hby at_40) k') ?_
    show Go p e below s _ _ _ (T22.setTop (mkF m 42 #[.val (.int kk), .val (.int vv), .val (.int (6 : Int32)), .val (.ref a_FIND_COORDINATOR), .val (.int (vv.toInt16.toInt32)), .unset] [(.int (13 : Int32)), (.int (6 : Int32))]))
    refine Go.st (fun _ k' => XS.icmpYes X22.here hx rfl (pc0 := 42) (pc' := 61) rfl (hb hby at_42) rfl (XT.ii_ne_t (by decide)) (by decide) (by decide) k') ?_
    show Go p e below s _ _ _ (T22.setTop (mkF m 61 #[.val (.int kk), .val (.int vv), .val (.int (6 : Int32)), .val (.ref a_FIND_COORDINATOR), .val (.int (vv.toInt16.toInt32)), .unset] []))
    refine Go.st (fun _ k' => XS.iconst X22.here hx rfl (hb hby at_61) k') ?_
    show Go p e below s _ _ _ (T22.setTop (mkF m 62 #[.val (.int kk), .val (.int vv), .val (.int (6 : Int32)), .val (.ref a_FIND_COORDINATOR), .val (.int (vv.toInt16.toInt32)), .unset] [(.int (0 : Int32))]))
    refine Go.st (fun _ k' => XS.istore X22.here hx rfl (hb hby at_62) rfl (l' := #[.val (.int kk), .val (.int vv), .val (.int (6 : Int32)), .val (.ref a_FIND_COORDINATOR), .val (.int (vv.toInt16.toInt32)), .val (.int (0 : Int32))]) rfl k') ?_
    show Go p e below s _ _ _ (T22.setTop (mkF m 64 #[.val (.int kk), .val (.int vv), .val (.int (6 : Int32)), .val (.ref a_FIND_COORDINATOR), .val (.int (vv.toInt16.toInt32)), .val (.int (0 : Int32))] []))
    refine Go.st (fun _ k' => XS.aloadN X22.here hx rfl (hb hby at_64) rfl rfl k') ?_
    show Go p e below s _ _ _ (T22.setTop (mkF m 65 #[.val (.int kk), .val (.int vv), .val (.int (6 : Int32)), .val (.ref a_FIND_COORDINATOR), .val (.int (vv.toInt16.toInt32)), .val (.int (0 : Int32))] [(.ref a_FIND_COORDINATOR)]))
    refine Go.st (fun _ k' => XS.iload X22.here hx rfl (hb hby at_65) rfl k') ?_
    show Go p e below s _ _ _ (T22.setTop (mkF m 67 #[.val (.int kk), .val (.int vv), .val (.int (6 : Int32)), .val (.ref a_FIND_COORDINATOR), .val (.int (vv.toInt16.toInt32)), .val (.int (0 : Int32))] [(.int (vv.toInt16.toInt32)), (.ref a_FIND_COORDINATOR)]))
    obtain ⟨cq23, kq23, q23a, q23b, q23c⟩ := isOf hZ eq22 E_FIND_COORDINATOR
    obtain ⟨_, _, ⟨T23, L23, k23, n23⟩, -, X23, ⟨Lc23, hQ23, l23, y23, z23⟩, st23⟩ := X22.virtualBack hx (y := (⟨"com/example/tenure_of_partitions/tenureofpartitions/ApiKey", "isFlexible", "(S)Z"⟩ : MethodName)) (z := (⟨"com/example/tenure_of_partitions/tenureofpartitions/ApiKey", "isFlexible", "(S)Z"⟩ : MethodName)) hown (mvT hZ (wdx hw 8 rfl)) (mvT hZ (wdx hw 9 rfl)) (notFace_of_selects (args := #[]) (mvT hZ (wdx hw 11 rfl))) (mvT hZ (wdx hw 11 rfl)) (mvT hZ (wdx hw 10 rfl)) (by decide) (backOf (W := 0) (rm2 l Z a0 hw [] a_FIND_COORDINATOR (vv.toInt16.toInt32) (-1 : Int32) h0 n0 O0 F_FIND_COORDINATOR_firstFlexibleVersion) hZ (wdx hw 12 rfl) (wdx hw 6 rfl) (by decide) (by decide)) q23a q23c (g := (mkF m 67 #[.val (.int kk), .val (.int vv), .val (.int (6 : Int32)), .val (.ref a_FIND_COORDINATOR), .val (.int (vv.toInt16.toInt32)), .val (.int (0 : Int32))] [(.int (vv.toInt16.toInt32)), (.ref a_FIND_COORDINATOR)])) rfl (by rw [hml]; rfl) (Steps.refl _) (argsL := [(.int (vv.toInt16.toInt32))]) (rest := []) (lenOf pd__S_Z rfl) rfl (by show 2 * 0 + _ ≤ _; exact Nat.le_of_eq rfl) (hb hby at_67) (fun _ _ => ⟨rfl, eq22, (by exact Nat.le_of_ble_eq_true rfl), (by exact Nat.le_of_ble_eq_true rfl)⟩)
    dsimp only [Pt.U, Pt.locs, Pt.cells, Pt.slots] at X23 l23 y23 z23 st23 hQ23
    subst l23 y23 z23
    obtain ⟨rfl, Nq23, eq23⟩ := hQ23
    have N23 := Fr.app N22 Nq23
    refine Go.tr st23 ?_
    show Go p e below s _ _ _ (T23.setTop (mkF m 70 #[.val (.int kk), .val (.int vv), .val (.int (6 : Int32)), .val (.ref a_FIND_COORDINATOR), .val (.int (vv.toInt16.toInt32)), .val (.int (0 : Int32))] [(.int (if (-1 : Int32) < 0 then (0 : Int32) else if (vv.toInt16.toInt32) < (-1 : Int32) then 0 else 1))]))
    refine Go.st (fun _ k' => XS.iload X23.here hx rfl (hb hby at_70) rfl k') ?_
    show Go p e below s _ _ _ (T23.setTop (mkF m 72 #[.val (.int kk), .val (.int vv), .val (.int (6 : Int32)), .val (.ref a_FIND_COORDINATOR), .val (.int (vv.toInt16.toInt32)), .val (.int (0 : Int32))] [(.int (0 : Int32)), (.int (if (-1 : Int32) < 0 then (0 : Int32) else if (vv.toInt16.toInt32) < (-1 : Int32) then 0 else 1))]))
    by_cases hc24 : (if (-1 : Int32) < 0 then (0 : Int32) else if (vv.toInt16.toInt32) < (-1 : Int32) then 0 else 1) = (0 : Int32)
    · refine Go.st (fun _ k' => XS.icmpNo X23.here hx rfl (hb hby at_72) rfl (XT.ii_ne_f hc24) k') ?_
      show Go p e below s _ _ _ (T23.setTop (mkF m 75 #[.val (.int kk), .val (.int vv), .val (.int (6 : Int32)), .val (.ref a_FIND_COORDINATOR), .val (.int (vv.toInt16.toInt32)), .val (.int (0 : Int32))] []))
      refine Go.st (fun _ k' => XS.iconst X23.here hx rfl (hb hby at_75) k') ?_
      show Go p e below s _ _ _ (T23.setTop (mkF m 76 #[.val (.int kk), .val (.int vv), .val (.int (6 : Int32)), .val (.ref a_FIND_COORDINATOR), .val (.int (vv.toInt16.toInt32)), .val (.int (0 : Int32))] [(.int (1 : Int32))]))
      refine Go.st (fun _ k' => XS.goto X23.here hx rfl (pc0 := 76) (pc' := 80) rfl (hb hby at_76) (by decide) (by decide) k') ?_
      show Go p e below s _ _ _ (T23.setTop (mkF m 80 #[.val (.int kk), .val (.int vv), .val (.int (6 : Int32)), .val (.ref a_FIND_COORDINATOR), .val (.int (vv.toInt16.toInt32)), .val (.int (0 : Int32))] [(.int (1 : Int32))]))
      refine Go.retB X23 hx hlk (t := .boolean) Bd.returns (by simp) (hb hby at_80) (by decide) (by decide) eq23 ?_
      exact ⟨rfl, N23, trivial⟩
    · refine Go.st (fun _ k' => XS.icmpYes X23.here hx rfl (pc0 := 72) (pc' := 79) rfl (hb hby at_72) rfl (XT.ii_ne_t hc24) (by decide) (by decide) k') ?_
      show Go p e below s _ _ _ (T23.setTop (mkF m 79 #[.val (.int kk), .val (.int vv), .val (.int (6 : Int32)), .val (.ref a_FIND_COORDINATOR), .val (.int (vv.toInt16.toInt32)), .val (.int (0 : Int32))] []))
      refine Go.st (fun _ k' => XS.iconst X23.here hx rfl (hb hby at_79) k') ?_
      show Go p e below s _ _ _ (T23.setTop (mkF m 80 #[.val (.int kk), .val (.int vv), .val (.int (6 : Int32)), .val (.ref a_FIND_COORDINATOR), .val (.int (vv.toInt16.toInt32)), .val (.int (0 : Int32))] [(.int (0 : Int32))]))
      refine Go.retB X23 hx hlk (t := .boolean) Bd.returns (by simp) (hb hby at_80) (by decide) (by decide) eq23 ?_
      exact absurd (by simp []) hc24
  · rw [hi]
    show Go p e below s _ _ _ (s₁.setTop (mkF m 8 #[.val (.int kk), .val (.int vv), .val (.int (7 : Int32)), .unset, .unset, .unset] []))
    refine Go.st (fun _ k' => XS.iloadN X0.here hx rfl (hb hby at_8) rfl k') ?_
    show Go p e below s _ _ _ (s₁.setTop (mkF m 9 #[.val (.int kk), .val (.int vv), .val (.int (7 : Int32)), .unset, .unset, .unset] [(.int (7 : Int32))]))
    obtain ⟨_, _, ⟨T25, L25, k25, n25⟩, -, X25, ⟨Lc25, hQ25, l25, y25, z25⟩, st25⟩ := Jvm.LawKit.callS X0 hx (y := (⟨"com/example/tenure_of_partitions/tenureofpartitions/ApiKeyIsFlexiblePinLaw", "pick", "(I)Lcom/example/tenure_of_partitions/tenureofpartitions/ApiKey;"⟩ : MethodName)) hown (mvT hZ (wdx hw 1 rfl)) (mvT hZ (wdx hw 2 rfl)) (mvT hZ (wdx hw 3 rfl)) (mvT hZ (wdx hw 4 rfl)) (by decide) (backOf (W := 0) (rm1 l Z a0 hw [] (7 : Int32) a_PRODUCE a_FETCH a_LIST_OFFSETS a_METADATA a_OFFSET_COMMIT a_OFFSET_FETCH a_FIND_COORDINATOR a_JOIN_GROUP a_HEARTBEAT a_LEAVE_GROUP a_SYNC_GROUP a_DESCRIBE_GROUPS a_LIST_GROUPS a_API_VERSIONS h0 n0 O0 S_PRODUCE S_FETCH S_LIST_OFFSETS S_METADATA S_OFFSET_COMMIT S_OFFSET_FETCH S_FIND_COORDINATOR S_JOIN_GROUP S_HEARTBEAT S_LEAVE_GROUP S_SYNC_GROUP S_DESCRIBE_GROUPS S_LIST_GROUPS S_API_VERSIONS) hZ (wdx hw 4 rfl) (wdx hw 3 rfl) (by decide) (by decide)) (g := (mkF m 9 #[.val (.int kk), .val (.int vv), .val (.int (7 : Int32)), .unset, .unset, .unset] [(.int (7 : Int32))])) rfl (by rw [hml]; rfl) (argsL := [(.int (7 : Int32))]) (rest := []) (lenOf pd__I_Lcom_example_tenure_of_partitions_tenureofpartitions_ApiKey_ rfl) rfl (by show 2 * 0 + _ ≤ _; exact Nat.le_of_eq rfl) (hb hby at_9) (fun _ _ => ⟨rfl, e0, (by exact Nat.le_of_ble_eq_true rfl), (by exact Nat.le_of_ble_eq_true rfl)⟩)
    dsimp only [Pt.U, Pt.locs, Pt.cells, Pt.slots] at X25 l25 y25 z25 st25 hQ25
    subst l25 y25 z25
    obtain ⟨rfl, Nq25, eq25⟩ := hQ25
    have N25 := Fr.app N0 Nq25
    refine Go.st st25 ?_
    show Go p e below s _ _ _ (T25.setTop (mkF m 12 #[.val (.int kk), .val (.int vv), .val (.int (7 : Int32)), .unset, .unset, .unset] [(.ref (fpick (7 : Int32) a_PRODUCE a_FETCH a_LIST_OFFSETS a_METADATA a_OFFSET_COMMIT a_OFFSET_FETCH a_FIND_COORDINATOR a_JOIN_GROUP a_HEARTBEAT a_LEAVE_GROUP a_SYNC_GROUP a_DESCRIBE_GROUPS a_LIST_GROUPS a_API_VERSIONS))]))
    show Go p e below s _ _ _ (T25.setTop (mkF m 12 #[.val (.int kk), .val (.int vv), .val (.int (7 : Int32)), .unset, .unset, .unset] [(.ref a_JOIN_GROUP)]))
    refine Go.st (fun _ k' => XS.astoreN X25.here hx rfl (hb hby at_12) rfl rfl (l' := #[.val (.int kk), .val (.int vv), .val (.int (7 : Int32)), .val (.ref a_JOIN_GROUP), .unset, .unset]) rfl k') ?_
    show Go p e below s _ _ _ (T25.setTop (mkF m 13 #[.val (.int kk), .val (.int vv), .val (.int (7 : Int32)), .val (.ref a_JOIN_GROUP), .unset, .unset] []))
    refine Go.st (fun _ k' => XS.iloadN X25.here hx rfl (hb hby at_13) rfl k') ?_
    show Go p e below s _ _ _ (T25.setTop (mkF m 14 #[.val (.int kk), .val (.int vv), .val (.int (7 : Int32)), .val (.ref a_JOIN_GROUP), .unset, .unset] [(.int vv)]))
    refine Go.st (fun _ k' => XS.i2s X25.here hx rfl (hb hby at_14) rfl k') ?_
    show Go p e below s _ _ _ (T25.setTop (mkF m 15 #[.val (.int kk), .val (.int vv), .val (.int (7 : Int32)), .val (.ref a_JOIN_GROUP), .unset, .unset] [(.int (vv.toInt16.toInt32))]))
    refine Go.st (fun _ k' => XS.istore X25.here hx rfl (hb hby at_15) rfl (l' := #[.val (.int kk), .val (.int vv), .val (.int (7 : Int32)), .val (.ref a_JOIN_GROUP), .val (.int (vv.toInt16.toInt32)), .unset]) rfl k') ?_
    show Go p e below s _ _ _ (T25.setTop (mkF m 17 #[.val (.int kk), .val (.int vv), .val (.int (7 : Int32)), .val (.ref a_JOIN_GROUP), .val (.int (vv.toInt16.toInt32)), .unset] []))
    refine Go.st (fun _ k' => XS.iloadN X25.here hx rfl (hb hby at_17) rfl k') ?_
    show Go p e below s _ _ _ (T25.setTop (mkF m 18 #[.val (.int kk), .val (.int vv), .val (.int (7 : Int32)), .val (.ref a_JOIN_GROUP), .val (.int (vv.toInt16.toInt32)), .unset] [(.int (7 : Int32))]))
    refine Go.st (fun _ k' => XS.iconst X25.here hx rfl (hb hby at_18) k') ?_
    show Go p e below s _ _ _ (T25.setTop (mkF m 19 #[.val (.int kk), .val (.int vv), .val (.int (7 : Int32)), .val (.ref a_JOIN_GROUP), .val (.int (vv.toInt16.toInt32)), .unset] [(.int (5 : Int32)), (.int (7 : Int32))]))
    refine Go.st (fun _ k' => XS.icmpYes X25.here hx rfl (pc0 := 19) (pc' := 39) rfl (hb hby at_19) rfl (XT.ii_ne_t (by decide)) (by decide) (by decide) k') ?_
    show Go p e below s _ _ _ (T25.setTop (mkF m 39 #[.val (.int kk), .val (.int vv), .val (.int (7 : Int32)), .val (.ref a_JOIN_GROUP), .val (.int (vv.toInt16.toInt32)), .unset] []))
    refine Go.st (fun _ k' => XS.iloadN X25.here hx rfl (hb hby at_39) rfl k') ?_
    show Go p e below s _ _ _ (T25.setTop (mkF m 40 #[.val (.int kk), .val (.int vv), .val (.int (7 : Int32)), .val (.ref a_JOIN_GROUP), .val (.int (vv.toInt16.toInt32)), .unset] [(.int (7 : Int32))]))
    refine Go.st (fun _ k' => XS.bipush X25.here hx rfl (hb hby at_40) k') ?_
    show Go p e below s _ _ _ (T25.setTop (mkF m 42 #[.val (.int kk), .val (.int vv), .val (.int (7 : Int32)), .val (.ref a_JOIN_GROUP), .val (.int (vv.toInt16.toInt32)), .unset] [(.int (13 : Int32)), (.int (7 : Int32))]))
    refine Go.st (fun _ k' => XS.icmpYes X25.here hx rfl (pc0 := 42) (pc' := 61) rfl (hb hby at_42) rfl (XT.ii_ne_t (by decide)) (by decide) (by decide) k') ?_
    show Go p e below s _ _ _ (T25.setTop (mkF m 61 #[.val (.int kk), .val (.int vv), .val (.int (7 : Int32)), .val (.ref a_JOIN_GROUP), .val (.int (vv.toInt16.toInt32)), .unset] []))
    refine Go.st (fun _ k' => XS.iconst X25.here hx rfl (hb hby at_61) k') ?_
    show Go p e below s _ _ _ (T25.setTop (mkF m 62 #[.val (.int kk), .val (.int vv), .val (.int (7 : Int32)), .val (.ref a_JOIN_GROUP), .val (.int (vv.toInt16.toInt32)), .unset] [(.int (0 : Int32))]))
    refine Go.st (fun _ k' => XS.istore X25.here hx rfl (hb hby at_62) rfl (l' := #[.val (.int kk), .val (.int vv), .val (.int (7 : Int32)), .val (.ref a_JOIN_GROUP), .val (.int (vv.toInt16.toInt32)), .val (.int (0 : Int32))]) rfl k') ?_
    show Go p e below s _ _ _ (T25.setTop (mkF m 64 #[.val (.int kk), .val (.int vv), .val (.int (7 : Int32)), .val (.ref a_JOIN_GROUP), .val (.int (vv.toInt16.toInt32)), .val (.int (0 : Int32))] []))
    refine Go.st (fun _ k' => XS.aloadN X25.here hx rfl (hb hby at_64) rfl rfl k') ?_
    show Go p e below s _ _ _ (T25.setTop (mkF m 65 #[.val (.int kk), .val (.int vv), .val (.int (7 : Int32)), .val (.ref a_JOIN_GROUP), .val (.int (vv.toInt16.toInt32)), .val (.int (0 : Int32))] [(.ref a_JOIN_GROUP)]))
    refine Go.st (fun _ k' => XS.iload X25.here hx rfl (hb hby at_65) rfl k') ?_
    show Go p e below s _ _ _ (T25.setTop (mkF m 67 #[.val (.int kk), .val (.int vv), .val (.int (7 : Int32)), .val (.ref a_JOIN_GROUP), .val (.int (vv.toInt16.toInt32)), .val (.int (0 : Int32))] [(.int (vv.toInt16.toInt32)), (.ref a_JOIN_GROUP)]))
    obtain ⟨cq26, kq26, q26a, q26b, q26c⟩ := isOf hZ eq25 E_JOIN_GROUP
    obtain ⟨_, _, ⟨T26, L26, k26, n26⟩, -, X26, ⟨Lc26, hQ26, l26, y26, z26⟩, st26⟩ := X25.virtualBack hx (y := (⟨"com/example/tenure_of_partitions/tenureofpartitions/ApiKey", "isFlexible", "(S)Z"⟩ : MethodName)) (z := (⟨"com/example/tenure_of_partitions/tenureofpartitions/ApiKey", "isFlexible", "(S)Z"⟩ : MethodName)) hown (mvT hZ (wdx hw 8 rfl)) (mvT hZ (wdx hw 9 rfl)) (notFace_of_selects (args := #[]) (mvT hZ (wdx hw 11 rfl))) (mvT hZ (wdx hw 11 rfl)) (mvT hZ (wdx hw 10 rfl)) (by decide) (backOf (W := 0) (rm2 l Z a0 hw [] a_JOIN_GROUP (vv.toInt16.toInt32) (-1 : Int32) h0 n0 O0 F_JOIN_GROUP_firstFlexibleVersion) hZ (wdx hw 12 rfl) (wdx hw 6 rfl) (by decide) (by decide)) q26a q26c (g := (mkF m 67 #[.val (.int kk), .val (.int vv), .val (.int (7 : Int32)), .val (.ref a_JOIN_GROUP), .val (.int (vv.toInt16.toInt32)), .val (.int (0 : Int32))] [(.int (vv.toInt16.toInt32)), (.ref a_JOIN_GROUP)])) rfl (by rw [hml]; rfl) (Steps.refl _) (argsL := [(.int (vv.toInt16.toInt32))]) (rest := []) (lenOf pd__S_Z rfl) rfl (by show 2 * 0 + _ ≤ _; exact Nat.le_of_eq rfl) (hb hby at_67) (fun _ _ => ⟨rfl, eq25, (by exact Nat.le_of_ble_eq_true rfl), (by exact Nat.le_of_ble_eq_true rfl)⟩)
    dsimp only [Pt.U, Pt.locs, Pt.cells, Pt.slots] at X26 l26 y26 z26 st26 hQ26
    subst l26 y26 z26
    obtain ⟨rfl, Nq26, eq26⟩ := hQ26
    have N26 := Fr.app N25 Nq26
    refine Go.tr st26 ?_
    show Go p e below s _ _ _ (T26.setTop (mkF m 70 #[.val (.int kk), .val (.int vv), .val (.int (7 : Int32)), .val (.ref a_JOIN_GROUP), .val (.int (vv.toInt16.toInt32)), .val (.int (0 : Int32))] [(.int (if (-1 : Int32) < 0 then (0 : Int32) else if (vv.toInt16.toInt32) < (-1 : Int32) then 0 else 1))]))
    refine Go.st (fun _ k' => XS.iload X26.here hx rfl (hb hby at_70) rfl k') ?_
    show Go p e below s _ _ _ (T26.setTop (mkF m 72 #[.val (.int kk), .val (.int vv), .val (.int (7 : Int32)), .val (.ref a_JOIN_GROUP), .val (.int (vv.toInt16.toInt32)), .val (.int (0 : Int32))] [(.int (0 : Int32)), (.int (if (-1 : Int32) < 0 then (0 : Int32) else if (vv.toInt16.toInt32) < (-1 : Int32) then 0 else 1))]))
    by_cases hc27 : (if (-1 : Int32) < 0 then (0 : Int32) else if (vv.toInt16.toInt32) < (-1 : Int32) then 0 else 1) = (0 : Int32)
    · refine Go.st (fun _ k' => XS.icmpNo X26.here hx rfl (hb hby at_72) rfl (XT.ii_ne_f hc27) k') ?_
      show Go p e below s _ _ _ (T26.setTop (mkF m 75 #[.val (.int kk), .val (.int vv), .val (.int (7 : Int32)), .val (.ref a_JOIN_GROUP), .val (.int (vv.toInt16.toInt32)), .val (.int (0 : Int32))] []))
      refine Go.st (fun _ k' => XS.iconst X26.here hx rfl (hb hby at_75) k') ?_
      show Go p e below s _ _ _ (T26.setTop (mkF m 76 #[.val (.int kk), .val (.int vv), .val (.int (7 : Int32)), .val (.ref a_JOIN_GROUP), .val (.int (vv.toInt16.toInt32)), .val (.int (0 : Int32))] [(.int (1 : Int32))]))
      refine Go.st (fun _ k' => XS.goto X26.here hx rfl (pc0 := 76) (pc' := 80) rfl (hb hby at_76) (by decide) (by decide) k') ?_
      show Go p e below s _ _ _ (T26.setTop (mkF m 80 #[.val (.int kk), .val (.int vv), .val (.int (7 : Int32)), .val (.ref a_JOIN_GROUP), .val (.int (vv.toInt16.toInt32)), .val (.int (0 : Int32))] [(.int (1 : Int32))]))
      refine Go.retB X26 hx hlk (t := .boolean) Bd.returns (by simp) (hb hby at_80) (by decide) (by decide) eq26 ?_
      exact ⟨rfl, N26, trivial⟩
    · refine Go.st (fun _ k' => XS.icmpYes X26.here hx rfl (pc0 := 72) (pc' := 79) rfl (hb hby at_72) rfl (XT.ii_ne_t hc27) (by decide) (by decide) k') ?_
      show Go p e below s _ _ _ (T26.setTop (mkF m 79 #[.val (.int kk), .val (.int vv), .val (.int (7 : Int32)), .val (.ref a_JOIN_GROUP), .val (.int (vv.toInt16.toInt32)), .val (.int (0 : Int32))] []))
      refine Go.st (fun _ k' => XS.iconst X26.here hx rfl (hb hby at_79) k') ?_
      show Go p e below s _ _ _ (T26.setTop (mkF m 80 #[.val (.int kk), .val (.int vv), .val (.int (7 : Int32)), .val (.ref a_JOIN_GROUP), .val (.int (vv.toInt16.toInt32)), .val (.int (0 : Int32))] [(.int (0 : Int32))]))
      refine Go.retB X26 hx hlk (t := .boolean) Bd.returns (by simp) (hb hby at_80) (by decide) (by decide) eq26 ?_
      exact absurd (by simp []) hc27
  · rw [hi]
    show Go p e below s _ _ _ (s₁.setTop (mkF m 8 #[.val (.int kk), .val (.int vv), .val (.int (8 : Int32)), .unset, .unset, .unset] []))
    refine Go.st (fun _ k' => XS.iloadN X0.here hx rfl (hb hby at_8) rfl k') ?_
    show Go p e below s _ _ _ (s₁.setTop (mkF m 9 #[.val (.int kk), .val (.int vv), .val (.int (8 : Int32)), .unset, .unset, .unset] [(.int (8 : Int32))]))
    obtain ⟨_, _, ⟨T28, L28, k28, n28⟩, -, X28, ⟨Lc28, hQ28, l28, y28, z28⟩, st28⟩ := Jvm.LawKit.callS X0 hx (y := (⟨"com/example/tenure_of_partitions/tenureofpartitions/ApiKeyIsFlexiblePinLaw", "pick", "(I)Lcom/example/tenure_of_partitions/tenureofpartitions/ApiKey;"⟩ : MethodName)) hown (mvT hZ (wdx hw 1 rfl)) (mvT hZ (wdx hw 2 rfl)) (mvT hZ (wdx hw 3 rfl)) (mvT hZ (wdx hw 4 rfl)) (by decide) (backOf (W := 0) (rm1 l Z a0 hw [] (8 : Int32) a_PRODUCE a_FETCH a_LIST_OFFSETS a_METADATA a_OFFSET_COMMIT a_OFFSET_FETCH a_FIND_COORDINATOR a_JOIN_GROUP a_HEARTBEAT a_LEAVE_GROUP a_SYNC_GROUP a_DESCRIBE_GROUPS a_LIST_GROUPS a_API_VERSIONS h0 n0 O0 S_PRODUCE S_FETCH S_LIST_OFFSETS S_METADATA S_OFFSET_COMMIT S_OFFSET_FETCH S_FIND_COORDINATOR S_JOIN_GROUP S_HEARTBEAT S_LEAVE_GROUP S_SYNC_GROUP S_DESCRIBE_GROUPS S_LIST_GROUPS S_API_VERSIONS) hZ (wdx hw 4 rfl) (wdx hw 3 rfl) (by decide) (by decide)) (g := (mkF m 9 #[.val (.int kk), .val (.int vv), .val (.int (8 : Int32)), .unset, .unset, .unset] [(.int (8 : Int32))])) rfl (by rw [hml]; rfl) (argsL := [(.int (8 : Int32))]) (rest := []) (lenOf pd__I_Lcom_example_tenure_of_partitions_tenureofpartitions_ApiKey_ rfl) rfl (by show 2 * 0 + _ ≤ _; exact Nat.le_of_eq rfl) (hb hby at_9) (fun _ _ => ⟨rfl, e0, (by exact Nat.le_of_ble_eq_true rfl), (by exact Nat.le_of_ble_eq_true rfl)⟩)
    dsimp only [Pt.U, Pt.locs, Pt.cells, Pt.slots] at X28 l28 y28 z28 st28 hQ28
    subst l28 y28 z28
    obtain ⟨rfl, Nq28, eq28⟩ := hQ28
    have N28 := Fr.app N0 Nq28
    refine Go.st st28 ?_
    show Go p e below s _ _ _ (T28.setTop (mkF m 12 #[.val (.int kk), .val (.int vv), .val (.int (8 : Int32)), .unset, .unset, .unset] [(.ref (fpick (8 : Int32) a_PRODUCE a_FETCH a_LIST_OFFSETS a_METADATA a_OFFSET_COMMIT a_OFFSET_FETCH a_FIND_COORDINATOR a_JOIN_GROUP a_HEARTBEAT a_LEAVE_GROUP a_SYNC_GROUP a_DESCRIBE_GROUPS a_LIST_GROUPS a_API_VERSIONS))]))
    show Go p e below s _ _ _ (T28.setTop (mkF m 12 #[.val (.int kk), .val (.int vv), .val (.int (8 : Int32)), .unset, .unset, .unset] [(.ref a_HEARTBEAT)]))
    refine Go.st (fun _ k' => XS.astoreN X28.here hx rfl (hb hby at_12) rfl rfl (l' := #[.val (.int kk), .val (.int vv), .val (.int (8 : Int32)), .val (.ref a_HEARTBEAT), .unset, .unset]) rfl k') ?_
    show Go p e below s _ _ _ (T28.setTop (mkF m 13 #[.val (.int kk), .val (.int vv), .val (.int (8 : Int32)), .val (.ref a_HEARTBEAT), .unset, .unset] []))
    refine Go.st (fun _ k' => XS.iloadN X28.here hx rfl (hb hby at_13) rfl k') ?_
    show Go p e below s _ _ _ (T28.setTop (mkF m 14 #[.val (.int kk), .val (.int vv), .val (.int (8 : Int32)), .val (.ref a_HEARTBEAT), .unset, .unset] [(.int vv)]))
    refine Go.st (fun _ k' => XS.i2s X28.here hx rfl (hb hby at_14) rfl k') ?_
    show Go p e below s _ _ _ (T28.setTop (mkF m 15 #[.val (.int kk), .val (.int vv), .val (.int (8 : Int32)), .val (.ref a_HEARTBEAT), .unset, .unset] [(.int (vv.toInt16.toInt32))]))
    refine Go.st (fun _ k' => XS.istore X28.here hx rfl (hb hby at_15) rfl (l' := #[.val (.int kk), .val (.int vv), .val (.int (8 : Int32)), .val (.ref a_HEARTBEAT), .val (.int (vv.toInt16.toInt32)), .unset]) rfl k') ?_
    show Go p e below s _ _ _ (T28.setTop (mkF m 17 #[.val (.int kk), .val (.int vv), .val (.int (8 : Int32)), .val (.ref a_HEARTBEAT), .val (.int (vv.toInt16.toInt32)), .unset] []))
    refine Go.st (fun _ k' => XS.iloadN X28.here hx rfl (hb hby at_17) rfl k') ?_
    show Go p e below s _ _ _ (T28.setTop (mkF m 18 #[.val (.int kk), .val (.int vv), .val (.int (8 : Int32)), .val (.ref a_HEARTBEAT), .val (.int (vv.toInt16.toInt32)), .unset] [(.int (8 : Int32))]))
    refine Go.st (fun _ k' => XS.iconst X28.here hx rfl (hb hby at_18) k') ?_
    show Go p e below s _ _ _ (T28.setTop (mkF m 19 #[.val (.int kk), .val (.int vv), .val (.int (8 : Int32)), .val (.ref a_HEARTBEAT), .val (.int (vv.toInt16.toInt32)), .unset] [(.int (5 : Int32)), (.int (8 : Int32))]))
    refine Go.st (fun _ k' => XS.icmpYes X28.here hx rfl (pc0 := 19) (pc' := 39) rfl (hb hby at_19) rfl (XT.ii_ne_t (by decide)) (by decide) (by decide) k') ?_
    show Go p e below s _ _ _ (T28.setTop (mkF m 39 #[.val (.int kk), .val (.int vv), .val (.int (8 : Int32)), .val (.ref a_HEARTBEAT), .val (.int (vv.toInt16.toInt32)), .unset] []))
    refine Go.st (fun _ k' => XS.iloadN X28.here hx rfl (hb hby at_39) rfl k') ?_
    show Go p e below s _ _ _ (T28.setTop (mkF m 40 #[.val (.int kk), .val (.int vv), .val (.int (8 : Int32)), .val (.ref a_HEARTBEAT), .val (.int (vv.toInt16.toInt32)), .unset] [(.int (8 : Int32))]))
    refine Go.st (fun _ k' => XS.bipush X28.here hx rfl (hb hby at_40) k') ?_
    show Go p e below s _ _ _ (T28.setTop (mkF m 42 #[.val (.int kk), .val (.int vv), .val (.int (8 : Int32)), .val (.ref a_HEARTBEAT), .val (.int (vv.toInt16.toInt32)), .unset] [(.int (13 : Int32)), (.int (8 : Int32))]))
    refine Go.st (fun _ k' => XS.icmpYes X28.here hx rfl (pc0 := 42) (pc' := 61) rfl (hb hby at_42) rfl (XT.ii_ne_t (by decide)) (by decide) (by decide) k') ?_
    show Go p e below s _ _ _ (T28.setTop (mkF m 61 #[.val (.int kk), .val (.int vv), .val (.int (8 : Int32)), .val (.ref a_HEARTBEAT), .val (.int (vv.toInt16.toInt32)), .unset] []))
    refine Go.st (fun _ k' => XS.iconst X28.here hx rfl (hb hby at_61) k') ?_
    show Go p e below s _ _ _ (T28.setTop (mkF m 62 #[.val (.int kk), .val (.int vv), .val (.int (8 : Int32)), .val (.ref a_HEARTBEAT), .val (.int (vv.toInt16.toInt32)), .unset] [(.int (0 : Int32))]))
    refine Go.st (fun _ k' => XS.istore X28.here hx rfl (hb hby at_62) rfl (l' := #[.val (.int kk), .val (.int vv), .val (.int (8 : Int32)), .val (.ref a_HEARTBEAT), .val (.int (vv.toInt16.toInt32)), .val (.int (0 : Int32))]) rfl k') ?_
    show Go p e below s _ _ _ (T28.setTop (mkF m 64 #[.val (.int kk), .val (.int vv), .val (.int (8 : Int32)), .val (.ref a_HEARTBEAT), .val (.int (vv.toInt16.toInt32)), .val (.int (0 : Int32))] []))
    refine Go.st (fun _ k' => XS.aloadN X28.here hx rfl (hb hby at_64) rfl rfl k') ?_
    show Go p e below s _ _ _ (T28.setTop (mkF m 65 #[.val (.int kk), .val (.int vv), .val (.int (8 : Int32)), .val (.ref a_HEARTBEAT), .val (.int (vv.toInt16.toInt32)), .val (.int (0 : Int32))] [(.ref a_HEARTBEAT)]))
    refine Go.st (fun _ k' => XS.iload X28.here hx rfl (hb hby at_65) rfl k') ?_
    show Go p e below s _ _ _ (T28.setTop (mkF m 67 #[.val (.int kk), .val (.int vv), .val (.int (8 : Int32)), .val (.ref a_HEARTBEAT), .val (.int (vv.toInt16.toInt32)), .val (.int (0 : Int32))] [(.int (vv.toInt16.toInt32)), (.ref a_HEARTBEAT)]))
    obtain ⟨cq29, kq29, q29a, q29b, q29c⟩ := isOf hZ eq28 E_HEARTBEAT
    obtain ⟨_, _, ⟨T29, L29, k29, n29⟩, -, X29, ⟨Lc29, hQ29, l29, y29, z29⟩, st29⟩ := X28.virtualBack hx (y := (⟨"com/example/tenure_of_partitions/tenureofpartitions/ApiKey", "isFlexible", "(S)Z"⟩ : MethodName)) (z := (⟨"com/example/tenure_of_partitions/tenureofpartitions/ApiKey", "isFlexible", "(S)Z"⟩ : MethodName)) hown (mvT hZ (wdx hw 8 rfl)) (mvT hZ (wdx hw 9 rfl)) (notFace_of_selects (args := #[]) (mvT hZ (wdx hw 11 rfl))) (mvT hZ (wdx hw 11 rfl)) (mvT hZ (wdx hw 10 rfl)) (by decide) (backOf (W := 0) (rm2 l Z a0 hw [] a_HEARTBEAT (vv.toInt16.toInt32) (-1 : Int32) h0 n0 O0 F_HEARTBEAT_firstFlexibleVersion) hZ (wdx hw 12 rfl) (wdx hw 6 rfl) (by decide) (by decide)) q29a q29c (g := (mkF m 67 #[.val (.int kk), .val (.int vv), .val (.int (8 : Int32)), .val (.ref a_HEARTBEAT), .val (.int (vv.toInt16.toInt32)), .val (.int (0 : Int32))] [(.int (vv.toInt16.toInt32)), (.ref a_HEARTBEAT)])) rfl (by rw [hml]; rfl) (Steps.refl _) (argsL := [(.int (vv.toInt16.toInt32))]) (rest := []) (lenOf pd__S_Z rfl) rfl (by show 2 * 0 + _ ≤ _; exact Nat.le_of_eq rfl) (hb hby at_67) (fun _ _ => ⟨rfl, eq28, (by exact Nat.le_of_ble_eq_true rfl), (by exact Nat.le_of_ble_eq_true rfl)⟩)
    dsimp only [Pt.U, Pt.locs, Pt.cells, Pt.slots] at X29 l29 y29 z29 st29 hQ29
    subst l29 y29 z29
    obtain ⟨rfl, Nq29, eq29⟩ := hQ29
    have N29 := Fr.app N28 Nq29
    refine Go.tr st29 ?_
    show Go p e below s _ _ _ (T29.setTop (mkF m 70 #[.val (.int kk), .val (.int vv), .val (.int (8 : Int32)), .val (.ref a_HEARTBEAT), .val (.int (vv.toInt16.toInt32)), .val (.int (0 : Int32))] [(.int (if (-1 : Int32) < 0 then (0 : Int32) else if (vv.toInt16.toInt32) < (-1 : Int32) then 0 else 1))]))
    refine Go.st (fun _ k' => XS.iload X29.here hx rfl (hb hby at_70) rfl k') ?_
    show Go p e below s _ _ _ (T29.setTop (mkF m 72 #[.val (.int kk), .val (.int vv), .val (.int (8 : Int32)), .val (.ref a_HEARTBEAT), .val (.int (vv.toInt16.toInt32)), .val (.int (0 : Int32))] [(.int (0 : Int32)), (.int (if (-1 : Int32) < 0 then (0 : Int32) else if (vv.toInt16.toInt32) < (-1 : Int32) then 0 else 1))]))
    by_cases hc30 : (if (-1 : Int32) < 0 then (0 : Int32) else if (vv.toInt16.toInt32) < (-1 : Int32) then 0 else 1) = (0 : Int32)
    · refine Go.st (fun _ k' => XS.icmpNo X29.here hx rfl (hb hby at_72) rfl (XT.ii_ne_f hc30) k') ?_
      show Go p e below s _ _ _ (T29.setTop (mkF m 75 #[.val (.int kk), .val (.int vv), .val (.int (8 : Int32)), .val (.ref a_HEARTBEAT), .val (.int (vv.toInt16.toInt32)), .val (.int (0 : Int32))] []))
      refine Go.st (fun _ k' => XS.iconst X29.here hx rfl (hb hby at_75) k') ?_
      show Go p e below s _ _ _ (T29.setTop (mkF m 76 #[.val (.int kk), .val (.int vv), .val (.int (8 : Int32)), .val (.ref a_HEARTBEAT), .val (.int (vv.toInt16.toInt32)), .val (.int (0 : Int32))] [(.int (1 : Int32))]))
      refine Go.st (fun _ k' => XS.goto X29.here hx rfl (pc0 := 76) (pc' := 80) rfl (hb hby at_76) (by decide) (by decide) k') ?_
      show Go p e below s _ _ _ (T29.setTop (mkF m 80 #[.val (.int kk), .val (.int vv), .val (.int (8 : Int32)), .val (.ref a_HEARTBEAT), .val (.int (vv.toInt16.toInt32)), .val (.int (0 : Int32))] [(.int (1 : Int32))]))
      refine Go.retB X29 hx hlk (t := .boolean) Bd.returns (by simp) (hb hby at_80) (by decide) (by decide) eq29 ?_
      exact ⟨rfl, N29, trivial⟩
    · refine Go.st (fun _ k' => XS.icmpYes X29.here hx rfl (pc0 := 72) (pc' := 79) rfl (hb hby at_72) rfl (XT.ii_ne_t hc30) (by decide) (by decide) k') ?_
      show Go p e below s _ _ _ (T29.setTop (mkF m 79 #[.val (.int kk), .val (.int vv), .val (.int (8 : Int32)), .val (.ref a_HEARTBEAT), .val (.int (vv.toInt16.toInt32)), .val (.int (0 : Int32))] []))
      refine Go.st (fun _ k' => XS.iconst X29.here hx rfl (hb hby at_79) k') ?_
      show Go p e below s _ _ _ (T29.setTop (mkF m 80 #[.val (.int kk), .val (.int vv), .val (.int (8 : Int32)), .val (.ref a_HEARTBEAT), .val (.int (vv.toInt16.toInt32)), .val (.int (0 : Int32))] [(.int (0 : Int32))]))
      refine Go.retB X29 hx hlk (t := .boolean) Bd.returns (by simp) (hb hby at_80) (by decide) (by decide) eq29 ?_
      exact absurd (by simp []) hc30
  · rw [hi]
    show Go p e below s _ _ _ (s₁.setTop (mkF m 8 #[.val (.int kk), .val (.int vv), .val (.int (9 : Int32)), .unset, .unset, .unset] []))
    refine Go.st (fun _ k' => XS.iloadN X0.here hx rfl (hb hby at_8) rfl k') ?_
    show Go p e below s _ _ _ (s₁.setTop (mkF m 9 #[.val (.int kk), .val (.int vv), .val (.int (9 : Int32)), .unset, .unset, .unset] [(.int (9 : Int32))]))
    obtain ⟨_, _, ⟨T31, L31, k31, n31⟩, -, X31, ⟨Lc31, hQ31, l31, y31, z31⟩, st31⟩ := Jvm.LawKit.callS X0 hx (y := (⟨"com/example/tenure_of_partitions/tenureofpartitions/ApiKeyIsFlexiblePinLaw", "pick", "(I)Lcom/example/tenure_of_partitions/tenureofpartitions/ApiKey;"⟩ : MethodName)) hown (mvT hZ (wdx hw 1 rfl)) (mvT hZ (wdx hw 2 rfl)) (mvT hZ (wdx hw 3 rfl)) (mvT hZ (wdx hw 4 rfl)) (by decide) (backOf (W := 0) (rm1 l Z a0 hw [] (9 : Int32) a_PRODUCE a_FETCH a_LIST_OFFSETS a_METADATA a_OFFSET_COMMIT a_OFFSET_FETCH a_FIND_COORDINATOR a_JOIN_GROUP a_HEARTBEAT a_LEAVE_GROUP a_SYNC_GROUP a_DESCRIBE_GROUPS a_LIST_GROUPS a_API_VERSIONS h0 n0 O0 S_PRODUCE S_FETCH S_LIST_OFFSETS S_METADATA S_OFFSET_COMMIT S_OFFSET_FETCH S_FIND_COORDINATOR S_JOIN_GROUP S_HEARTBEAT S_LEAVE_GROUP S_SYNC_GROUP S_DESCRIBE_GROUPS S_LIST_GROUPS S_API_VERSIONS) hZ (wdx hw 4 rfl) (wdx hw 3 rfl) (by decide) (by decide)) (g := (mkF m 9 #[.val (.int kk), .val (.int vv), .val (.int (9 : Int32)), .unset, .unset, .unset] [(.int (9 : Int32))])) rfl (by rw [hml]; rfl) (argsL := [(.int (9 : Int32))]) (rest := []) (lenOf pd__I_Lcom_example_tenure_of_partitions_tenureofpartitions_ApiKey_ rfl) rfl (by show 2 * 0 + _ ≤ _; exact Nat.le_of_eq rfl) (hb hby at_9) (fun _ _ => ⟨rfl, e0, (by exact Nat.le_of_ble_eq_true rfl), (by exact Nat.le_of_ble_eq_true rfl)⟩)
    dsimp only [Pt.U, Pt.locs, Pt.cells, Pt.slots] at X31 l31 y31 z31 st31 hQ31
    subst l31 y31 z31
    obtain ⟨rfl, Nq31, eq31⟩ := hQ31
    have N31 := Fr.app N0 Nq31
    refine Go.st st31 ?_
    show Go p e below s _ _ _ (T31.setTop (mkF m 12 #[.val (.int kk), .val (.int vv), .val (.int (9 : Int32)), .unset, .unset, .unset] [(.ref (fpick (9 : Int32) a_PRODUCE a_FETCH a_LIST_OFFSETS a_METADATA a_OFFSET_COMMIT a_OFFSET_FETCH a_FIND_COORDINATOR a_JOIN_GROUP a_HEARTBEAT a_LEAVE_GROUP a_SYNC_GROUP a_DESCRIBE_GROUPS a_LIST_GROUPS a_API_VERSIONS))]))
    show Go p e below s _ _ _ (T31.setTop (mkF m 12 #[.val (.int kk), .val (.int vv), .val (.int (9 : Int32)), .unset, .unset, .unset] [(.ref a_LEAVE_GROUP)]))
    refine Go.st (fun _ k' => XS.astoreN X31.here hx rfl (hb hby at_12) rfl rfl (l' := #[.val (.int kk), .val (.int vv), .val (.int (9 : Int32)), .val (.ref a_LEAVE_GROUP), .unset, .unset]) rfl k') ?_
    show Go p e below s _ _ _ (T31.setTop (mkF m 13 #[.val (.int kk), .val (.int vv), .val (.int (9 : Int32)), .val (.ref a_LEAVE_GROUP), .unset, .unset] []))
    refine Go.st (fun _ k' => XS.iloadN X31.here hx rfl (hb hby at_13) rfl k') ?_
    show Go p e below s _ _ _ (T31.setTop (mkF m 14 #[.val (.int kk), .val (.int vv), .val (.int (9 : Int32)), .val (.ref a_LEAVE_GROUP), .unset, .unset] [(.int vv)]))
    refine Go.st (fun _ k' => XS.i2s X31.here hx rfl (hb hby at_14) rfl k') ?_
    show Go p e below s _ _ _ (T31.setTop (mkF m 15 #[.val (.int kk), .val (.int vv), .val (.int (9 : Int32)), .val (.ref a_LEAVE_GROUP), .unset, .unset] [(.int (vv.toInt16.toInt32))]))
    refine Go.st (fun _ k' => XS.istore X31.here hx rfl (hb hby at_15) rfl (l' := #[.val (.int kk), .val (.int vv), .val (.int (9 : Int32)), .val (.ref a_LEAVE_GROUP), .val (.int (vv.toInt16.toInt32)), .unset]) rfl k') ?_
    show Go p e below s _ _ _ (T31.setTop (mkF m 17 #[.val (.int kk), .val (.int vv), .val (.int (9 : Int32)), .val (.ref a_LEAVE_GROUP), .val (.int (vv.toInt16.toInt32)), .unset] []))
    refine Go.st (fun _ k' => XS.iloadN X31.here hx rfl (hb hby at_17) rfl k') ?_
    show Go p e below s _ _ _ (T31.setTop (mkF m 18 #[.val (.int kk), .val (.int vv), .val (.int (9 : Int32)), .val (.ref a_LEAVE_GROUP), .val (.int (vv.toInt16.toInt32)), .unset] [(.int (9 : Int32))]))
    refine Go.st (fun _ k' => XS.iconst X31.here hx rfl (hb hby at_18) k') ?_
    show Go p e below s _ _ _ (T31.setTop (mkF m 19 #[.val (.int kk), .val (.int vv), .val (.int (9 : Int32)), .val (.ref a_LEAVE_GROUP), .val (.int (vv.toInt16.toInt32)), .unset] [(.int (5 : Int32)), (.int (9 : Int32))]))
    refine Go.st (fun _ k' => XS.icmpYes X31.here hx rfl (pc0 := 19) (pc' := 39) rfl (hb hby at_19) rfl (XT.ii_ne_t (by decide)) (by decide) (by decide) k') ?_
    show Go p e below s _ _ _ (T31.setTop (mkF m 39 #[.val (.int kk), .val (.int vv), .val (.int (9 : Int32)), .val (.ref a_LEAVE_GROUP), .val (.int (vv.toInt16.toInt32)), .unset] []))
    refine Go.st (fun _ k' => XS.iloadN X31.here hx rfl (hb hby at_39) rfl k') ?_
    show Go p e below s _ _ _ (T31.setTop (mkF m 40 #[.val (.int kk), .val (.int vv), .val (.int (9 : Int32)), .val (.ref a_LEAVE_GROUP), .val (.int (vv.toInt16.toInt32)), .unset] [(.int (9 : Int32))]))
    refine Go.st (fun _ k' => XS.bipush X31.here hx rfl (hb hby at_40) k') ?_
    show Go p e below s _ _ _ (T31.setTop (mkF m 42 #[.val (.int kk), .val (.int vv), .val (.int (9 : Int32)), .val (.ref a_LEAVE_GROUP), .val (.int (vv.toInt16.toInt32)), .unset] [(.int (13 : Int32)), (.int (9 : Int32))]))
    refine Go.st (fun _ k' => XS.icmpYes X31.here hx rfl (pc0 := 42) (pc' := 61) rfl (hb hby at_42) rfl (XT.ii_ne_t (by decide)) (by decide) (by decide) k') ?_
    show Go p e below s _ _ _ (T31.setTop (mkF m 61 #[.val (.int kk), .val (.int vv), .val (.int (9 : Int32)), .val (.ref a_LEAVE_GROUP), .val (.int (vv.toInt16.toInt32)), .unset] []))
    refine Go.st (fun _ k' => XS.iconst X31.here hx rfl (hb hby at_61) k') ?_
    show Go p e below s _ _ _ (T31.setTop (mkF m 62 #[.val (.int kk), .val (.int vv), .val (.int (9 : Int32)), .val (.ref a_LEAVE_GROUP), .val (.int (vv.toInt16.toInt32)), .unset] [(.int (0 : Int32))]))
    refine Go.st (fun _ k' => XS.istore X31.here hx rfl (hb hby at_62) rfl (l' := #[.val (.int kk), .val (.int vv), .val (.int (9 : Int32)), .val (.ref a_LEAVE_GROUP), .val (.int (vv.toInt16.toInt32)), .val (.int (0 : Int32))]) rfl k') ?_
    show Go p e below s _ _ _ (T31.setTop (mkF m 64 #[.val (.int kk), .val (.int vv), .val (.int (9 : Int32)), .val (.ref a_LEAVE_GROUP), .val (.int (vv.toInt16.toInt32)), .val (.int (0 : Int32))] []))
    refine Go.st (fun _ k' => XS.aloadN X31.here hx rfl (hb hby at_64) rfl rfl k') ?_
    show Go p e below s _ _ _ (T31.setTop (mkF m 65 #[.val (.int kk), .val (.int vv), .val (.int (9 : Int32)), .val (.ref a_LEAVE_GROUP), .val (.int (vv.toInt16.toInt32)), .val (.int (0 : Int32))] [(.ref a_LEAVE_GROUP)]))
    refine Go.st (fun _ k' => XS.iload X31.here hx rfl (hb hby at_65) rfl k') ?_
    show Go p e below s _ _ _ (T31.setTop (mkF m 67 #[.val (.int kk), .val (.int vv), .val (.int (9 : Int32)), .val (.ref a_LEAVE_GROUP), .val (.int (vv.toInt16.toInt32)), .val (.int (0 : Int32))] [(.int (vv.toInt16.toInt32)), (.ref a_LEAVE_GROUP)]))
    obtain ⟨cq32, kq32, q32a, q32b, q32c⟩ := isOf hZ eq31 E_LEAVE_GROUP
    obtain ⟨_, _, ⟨T32, L32, k32, n32⟩, -, X32, ⟨Lc32, hQ32, l32, y32, z32⟩, st32⟩ := X31.virtualBack hx (y := (⟨"com/example/tenure_of_partitions/tenureofpartitions/ApiKey", "isFlexible", "(S)Z"⟩ : MethodName)) (z := (⟨"com/example/tenure_of_partitions/tenureofpartitions/ApiKey", "isFlexible", "(S)Z"⟩ : MethodName)) hown (mvT hZ (wdx hw 8 rfl)) (mvT hZ (wdx hw 9 rfl)) (notFace_of_selects (args := #[]) (mvT hZ (wdx hw 11 rfl))) (mvT hZ (wdx hw 11 rfl)) (mvT hZ (wdx hw 10 rfl)) (by decide) (backOf (W := 0) (rm2 l Z a0 hw [] a_LEAVE_GROUP (vv.toInt16.toInt32) (-1 : Int32) h0 n0 O0 F_LEAVE_GROUP_firstFlexibleVersion) hZ (wdx hw 12 rfl) (wdx hw 6 rfl) (by decide) (by decide)) q32a q32c (g := (mkF m 67 #[.val (.int kk), .val (.int vv), .val (.int (9 : Int32)), .val (.ref a_LEAVE_GROUP), .val (.int (vv.toInt16.toInt32)), .val (.int (0 : Int32))] [(.int (vv.toInt16.toInt32)), (.ref a_LEAVE_GROUP)])) rfl (by rw [hml]; rfl) (Steps.refl _) (argsL := [(.int (vv.toInt16.toInt32))]) (rest := []) (lenOf pd__S_Z rfl) rfl (by show 2 * 0 + _ ≤ _; exact Nat.le_of_eq rfl) (hb hby at_67) (fun _ _ => ⟨rfl, eq31, (by exact Nat.le_of_ble_eq_true rfl), (by exact Nat.le_of_ble_eq_true rfl)⟩)
    dsimp only [Pt.U, Pt.locs, Pt.cells, Pt.slots] at X32 l32 y32 z32 st32 hQ32
    subst l32 y32 z32
    obtain ⟨rfl, Nq32, eq32⟩ := hQ32
    have N32 := Fr.app N31 Nq32
    refine Go.tr st32 ?_
    show Go p e below s _ _ _ (T32.setTop (mkF m 70 #[.val (.int kk), .val (.int vv), .val (.int (9 : Int32)), .val (.ref a_LEAVE_GROUP), .val (.int (vv.toInt16.toInt32)), .val (.int (0 : Int32))] [(.int (if (-1 : Int32) < 0 then (0 : Int32) else if (vv.toInt16.toInt32) < (-1 : Int32) then 0 else 1))]))
    refine Go.st (fun _ k' => XS.iload X32.here hx rfl (hb hby at_70) rfl k') ?_
    show Go p e below s _ _ _ (T32.setTop (mkF m 72 #[.val (.int kk), .val (.int vv), .val (.int (9 : Int32)), .val (.ref a_LEAVE_GROUP), .val (.int (vv.toInt16.toInt32)), .val (.int (0 : Int32))] [(.int (0 : Int32)), (.int (if (-1 : Int32) < 0 then (0 : Int32) else if (vv.toInt16.toInt32) < (-1 : Int32) then 0 else 1))]))
    by_cases hc33 : (if (-1 : Int32) < 0 then (0 : Int32) else if (vv.toInt16.toInt32) < (-1 : Int32) then 0 else 1) = (0 : Int32)
    · refine Go.st (fun _ k' => XS.icmpNo X32.here hx rfl (hb hby at_72) rfl (XT.ii_ne_f hc33) k') ?_
      show Go p e below s _ _ _ (T32.setTop (mkF m 75 #[.val (.int kk), .val (.int vv), .val (.int (9 : Int32)), .val (.ref a_LEAVE_GROUP), .val (.int (vv.toInt16.toInt32)), .val (.int (0 : Int32))] []))
      refine Go.st (fun _ k' => XS.iconst X32.here hx rfl (hb hby at_75) k') ?_
      show Go p e below s _ _ _ (T32.setTop (mkF m 76 #[.val (.int kk), .val (.int vv), .val (.int (9 : Int32)), .val (.ref a_LEAVE_GROUP), .val (.int (vv.toInt16.toInt32)), .val (.int (0 : Int32))] [(.int (1 : Int32))]))
      refine Go.st (fun _ k' => XS.goto X32.here hx rfl (pc0 := 76) (pc' := 80) rfl (hb hby at_76) (by decide) (by decide) k') ?_
      show Go p e below s _ _ _ (T32.setTop (mkF m 80 #[.val (.int kk), .val (.int vv), .val (.int (9 : Int32)), .val (.ref a_LEAVE_GROUP), .val (.int (vv.toInt16.toInt32)), .val (.int (0 : Int32))] [(.int (1 : Int32))]))
      refine Go.retB X32 hx hlk (t := .boolean) Bd.returns (by simp) (hb hby at_80) (by decide) (by decide) eq32 ?_
      exact ⟨rfl, N32, trivial⟩
    · refine Go.st (fun _ k' => XS.icmpYes X32.here hx rfl (pc0 := 72) (pc' := 79) rfl (hb hby at_72) rfl (XT.ii_ne_t hc33) (by decide) (by decide) k') ?_
      show Go p e below s _ _ _ (T32.setTop (mkF m 79 #[.val (.int kk), .val (.int vv), .val (.int (9 : Int32)), .val (.ref a_LEAVE_GROUP), .val (.int (vv.toInt16.toInt32)), .val (.int (0 : Int32))] []))
      refine Go.st (fun _ k' => XS.iconst X32.here hx rfl (hb hby at_79) k') ?_
      show Go p e below s _ _ _ (T32.setTop (mkF m 80 #[.val (.int kk), .val (.int vv), .val (.int (9 : Int32)), .val (.ref a_LEAVE_GROUP), .val (.int (vv.toInt16.toInt32)), .val (.int (0 : Int32))] [(.int (0 : Int32))]))
      refine Go.retB X32 hx hlk (t := .boolean) Bd.returns (by simp) (hb hby at_80) (by decide) (by decide) eq32 ?_
      exact absurd (by simp []) hc33
  · rw [hi]
    show Go p e below s _ _ _ (s₁.setTop (mkF m 8 #[.val (.int kk), .val (.int vv), .val (.int (10 : Int32)), .unset, .unset, .unset] []))
    refine Go.st (fun _ k' => XS.iloadN X0.here hx rfl (hb hby at_8) rfl k') ?_
    show Go p e below s _ _ _ (s₁.setTop (mkF m 9 #[.val (.int kk), .val (.int vv), .val (.int (10 : Int32)), .unset, .unset, .unset] [(.int (10 : Int32))]))
    obtain ⟨_, _, ⟨T34, L34, k34, n34⟩, -, X34, ⟨Lc34, hQ34, l34, y34, z34⟩, st34⟩ := Jvm.LawKit.callS X0 hx (y := (⟨"com/example/tenure_of_partitions/tenureofpartitions/ApiKeyIsFlexiblePinLaw", "pick", "(I)Lcom/example/tenure_of_partitions/tenureofpartitions/ApiKey;"⟩ : MethodName)) hown (mvT hZ (wdx hw 1 rfl)) (mvT hZ (wdx hw 2 rfl)) (mvT hZ (wdx hw 3 rfl)) (mvT hZ (wdx hw 4 rfl)) (by decide) (backOf (W := 0) (rm1 l Z a0 hw [] (10 : Int32) a_PRODUCE a_FETCH a_LIST_OFFSETS a_METADATA a_OFFSET_COMMIT a_OFFSET_FETCH a_FIND_COORDINATOR a_JOIN_GROUP a_HEARTBEAT a_LEAVE_GROUP a_SYNC_GROUP a_DESCRIBE_GROUPS a_LIST_GROUPS a_API_VERSIONS h0 n0 O0 S_PRODUCE S_FETCH S_LIST_OFFSETS S_METADATA S_OFFSET_COMMIT S_OFFSET_FETCH S_FIND_COORDINATOR S_JOIN_GROUP S_HEARTBEAT S_LEAVE_GROUP S_SYNC_GROUP S_DESCRIBE_GROUPS S_LIST_GROUPS S_API_VERSIONS) hZ (wdx hw 4 rfl) (wdx hw 3 rfl) (by decide) (by decide)) (g := (mkF m 9 #[.val (.int kk), .val (.int vv), .val (.int (10 : Int32)), .unset, .unset, .unset] [(.int (10 : Int32))])) rfl (by rw [hml]; rfl) (argsL := [(.int (10 : Int32))]) (rest := []) (lenOf pd__I_Lcom_example_tenure_of_partitions_tenureofpartitions_ApiKey_ rfl) rfl (by show 2 * 0 + _ ≤ _; exact Nat.le_of_eq rfl) (hb hby at_9) (fun _ _ => ⟨rfl, e0, (by exact Nat.le_of_ble_eq_true rfl), (by exact Nat.le_of_ble_eq_true rfl)⟩)
    dsimp only [Pt.U, Pt.locs, Pt.cells, Pt.slots] at X34 l34 y34 z34 st34 hQ34
    subst l34 y34 z34
    obtain ⟨rfl, Nq34, eq34⟩ := hQ34
    have N34 := Fr.app N0 Nq34
    refine Go.st st34 ?_
    show Go p e below s _ _ _ (T34.setTop (mkF m 12 #[.val (.int kk), .val (.int vv), .val (.int (10 : Int32)), .unset, .unset, .unset] [(.ref (fpick (10 : Int32) a_PRODUCE a_FETCH a_LIST_OFFSETS a_METADATA a_OFFSET_COMMIT a_OFFSET_FETCH a_FIND_COORDINATOR a_JOIN_GROUP a_HEARTBEAT a_LEAVE_GROUP a_SYNC_GROUP a_DESCRIBE_GROUPS a_LIST_GROUPS a_API_VERSIONS))]))
    show Go p e below s _ _ _ (T34.setTop (mkF m 12 #[.val (.int kk), .val (.int vv), .val (.int (10 : Int32)), .unset, .unset, .unset] [(.ref a_SYNC_GROUP)]))
    refine Go.st (fun _ k' => XS.astoreN X34.here hx rfl (hb hby at_12) rfl rfl (l' := #[.val (.int kk), .val (.int vv), .val (.int (10 : Int32)), .val (.ref a_SYNC_GROUP), .unset, .unset]) rfl k') ?_
    show Go p e below s _ _ _ (T34.setTop (mkF m 13 #[.val (.int kk), .val (.int vv), .val (.int (10 : Int32)), .val (.ref a_SYNC_GROUP), .unset, .unset] []))
    refine Go.st (fun _ k' => XS.iloadN X34.here hx rfl (hb hby at_13) rfl k') ?_
    show Go p e below s _ _ _ (T34.setTop (mkF m 14 #[.val (.int kk), .val (.int vv), .val (.int (10 : Int32)), .val (.ref a_SYNC_GROUP), .unset, .unset] [(.int vv)]))
    refine Go.st (fun _ k' => XS.i2s X34.here hx rfl (hb hby at_14) rfl k') ?_
    show Go p e below s _ _ _ (T34.setTop (mkF m 15 #[.val (.int kk), .val (.int vv), .val (.int (10 : Int32)), .val (.ref a_SYNC_GROUP), .unset, .unset] [(.int (vv.toInt16.toInt32))]))
    refine Go.st (fun _ k' => XS.istore X34.here hx rfl (hb hby at_15) rfl (l' := #[.val (.int kk), .val (.int vv), .val (.int (10 : Int32)), .val (.ref a_SYNC_GROUP), .val (.int (vv.toInt16.toInt32)), .unset]) rfl k') ?_
    show Go p e below s _ _ _ (T34.setTop (mkF m 17 #[.val (.int kk), .val (.int vv), .val (.int (10 : Int32)), .val (.ref a_SYNC_GROUP), .val (.int (vv.toInt16.toInt32)), .unset] []))
    refine Go.st (fun _ k' => XS.iloadN X34.here hx rfl (hb hby at_17) rfl k') ?_
    show Go p e below s _ _ _ (T34.setTop (mkF m 18 #[.val (.int kk), .val (.int vv), .val (.int (10 : Int32)), .val (.ref a_SYNC_GROUP), .val (.int (vv.toInt16.toInt32)), .unset] [(.int (10 : Int32))]))
    refine Go.st (fun _ k' => XS.iconst X34.here hx rfl (hb hby at_18) k') ?_
    show Go p e below s _ _ _ (T34.setTop (mkF m 19 #[.val (.int kk), .val (.int vv), .val (.int (10 : Int32)), .val (.ref a_SYNC_GROUP), .val (.int (vv.toInt16.toInt32)), .unset] [(.int (5 : Int32)), (.int (10 : Int32))]))
    refine Go.st (fun _ k' => XS.icmpYes X34.here hx rfl (pc0 := 19) (pc' := 39) rfl (hb hby at_19) rfl (XT.ii_ne_t (by decide)) (by decide) (by decide) k') ?_
    show Go p e below s _ _ _ (T34.setTop (mkF m 39 #[.val (.int kk), .val (.int vv), .val (.int (10 : Int32)), .val (.ref a_SYNC_GROUP), .val (.int (vv.toInt16.toInt32)), .unset] []))
    refine Go.st (fun _ k' => XS.iloadN X34.here hx rfl (hb hby at_39) rfl k') ?_
    show Go p e below s _ _ _ (T34.setTop (mkF m 40 #[.val (.int kk), .val (.int vv), .val (.int (10 : Int32)), .val (.ref a_SYNC_GROUP), .val (.int (vv.toInt16.toInt32)), .unset] [(.int (10 : Int32))]))
    refine Go.st (fun _ k' => XS.bipush X34.here hx rfl (hb hby at_40) k') ?_
    show Go p e below s _ _ _ (T34.setTop (mkF m 42 #[.val (.int kk), .val (.int vv), .val (.int (10 : Int32)), .val (.ref a_SYNC_GROUP), .val (.int (vv.toInt16.toInt32)), .unset] [(.int (13 : Int32)), (.int (10 : Int32))]))
    refine Go.st (fun _ k' => XS.icmpYes X34.here hx rfl (pc0 := 42) (pc' := 61) rfl (hb hby at_42) rfl (XT.ii_ne_t (by decide)) (by decide) (by decide) k') ?_
    show Go p e below s _ _ _ (T34.setTop (mkF m 61 #[.val (.int kk), .val (.int vv), .val (.int (10 : Int32)), .val (.ref a_SYNC_GROUP), .val (.int (vv.toInt16.toInt32)), .unset] []))
    refine Go.st (fun _ k' => XS.iconst X34.here hx rfl (hb hby at_61) k') ?_
    show Go p e below s _ _ _ (T34.setTop (mkF m 62 #[.val (.int kk), .val (.int vv), .val (.int (10 : Int32)), .val (.ref a_SYNC_GROUP), .val (.int (vv.toInt16.toInt32)), .unset] [(.int (0 : Int32))]))
    refine Go.st (fun _ k' => XS.istore X34.here hx rfl (hb hby at_62) rfl (l' := #[.val (.int kk), .val (.int vv), .val (.int (10 : Int32)), .val (.ref a_SYNC_GROUP), .val (.int (vv.toInt16.toInt32)), .val (.int (0 : Int32))]) rfl k') ?_
    show Go p e below s _ _ _ (T34.setTop (mkF m 64 #[.val (.int kk), .val (.int vv), .val (.int (10 : Int32)), .val (.ref a_SYNC_GROUP), .val (.int (vv.toInt16.toInt32)), .val (.int (0 : Int32))] []))
    refine Go.st (fun _ k' => XS.aloadN X34.here hx rfl (hb hby at_64) rfl rfl k') ?_
    show Go p e below s _ _ _ (T34.setTop (mkF m 65 #[.val (.int kk), .val (.int vv), .val (.int (10 : Int32)), .val (.ref a_SYNC_GROUP), .val (.int (vv.toInt16.toInt32)), .val (.int (0 : Int32))] [(.ref a_SYNC_GROUP)]))
    refine Go.st (fun _ k' => XS.iload X34.here hx rfl (hb hby at_65) rfl k') ?_
    show Go p e below s _ _ _ (T34.setTop (mkF m 67 #[.val (.int kk), .val (.int vv), .val (.int (10 : Int32)), .val (.ref a_SYNC_GROUP), .val (.int (vv.toInt16.toInt32)), .val (.int (0 : Int32))] [(.int (vv.toInt16.toInt32)), (.ref a_SYNC_GROUP)]))
    obtain ⟨cq35, kq35, q35a, q35b, q35c⟩ := isOf hZ eq34 E_SYNC_GROUP
    obtain ⟨_, _, ⟨T35, L35, k35, n35⟩, -, X35, ⟨Lc35, hQ35, l35, y35, z35⟩, st35⟩ := X34.virtualBack hx (y := (⟨"com/example/tenure_of_partitions/tenureofpartitions/ApiKey", "isFlexible", "(S)Z"⟩ : MethodName)) (z := (⟨"com/example/tenure_of_partitions/tenureofpartitions/ApiKey", "isFlexible", "(S)Z"⟩ : MethodName)) hown (mvT hZ (wdx hw 8 rfl)) (mvT hZ (wdx hw 9 rfl)) (notFace_of_selects (args := #[]) (mvT hZ (wdx hw 11 rfl))) (mvT hZ (wdx hw 11 rfl)) (mvT hZ (wdx hw 10 rfl)) (by decide) (backOf (W := 0) (rm2 l Z a0 hw [] a_SYNC_GROUP (vv.toInt16.toInt32) (-1 : Int32) h0 n0 O0 F_SYNC_GROUP_firstFlexibleVersion) hZ (wdx hw 12 rfl) (wdx hw 6 rfl) (by decide) (by decide)) q35a q35c (g := (mkF m 67 #[.val (.int kk), .val (.int vv), .val (.int (10 : Int32)), .val (.ref a_SYNC_GROUP), .val (.int (vv.toInt16.toInt32)), .val (.int (0 : Int32))] [(.int (vv.toInt16.toInt32)), (.ref a_SYNC_GROUP)])) rfl (by rw [hml]; rfl) (Steps.refl _) (argsL := [(.int (vv.toInt16.toInt32))]) (rest := []) (lenOf pd__S_Z rfl) rfl (by show 2 * 0 + _ ≤ _; exact Nat.le_of_eq rfl) (hb hby at_67) (fun _ _ => ⟨rfl, eq34, (by exact Nat.le_of_ble_eq_true rfl), (by exact Nat.le_of_ble_eq_true rfl)⟩)
    dsimp only [Pt.U, Pt.locs, Pt.cells, Pt.slots] at X35 l35 y35 z35 st35 hQ35
    subst l35 y35 z35
    obtain ⟨rfl, Nq35, eq35⟩ := hQ35
    have N35 := Fr.app N34 Nq35
    refine Go.tr st35 ?_
    show Go p e below s _ _ _ (T35.setTop (mkF m 70 #[.val (.int kk), .val (.int vv), .val (.int (10 : Int32)), .val (.ref a_SYNC_GROUP), .val (.int (vv.toInt16.toInt32)), .val (.int (0 : Int32))] [(.int (if (-1 : Int32) < 0 then (0 : Int32) else if (vv.toInt16.toInt32) < (-1 : Int32) then 0 else 1))]))
    refine Go.st (fun _ k' => XS.iload X35.here hx rfl (hb hby at_70) rfl k') ?_
    show Go p e below s _ _ _ (T35.setTop (mkF m 72 #[.val (.int kk), .val (.int vv), .val (.int (10 : Int32)), .val (.ref a_SYNC_GROUP), .val (.int (vv.toInt16.toInt32)), .val (.int (0 : Int32))] [(.int (0 : Int32)), (.int (if (-1 : Int32) < 0 then (0 : Int32) else if (vv.toInt16.toInt32) < (-1 : Int32) then 0 else 1))]))
    by_cases hc36 : (if (-1 : Int32) < 0 then (0 : Int32) else if (vv.toInt16.toInt32) < (-1 : Int32) then 0 else 1) = (0 : Int32)
    · refine Go.st (fun _ k' => XS.icmpNo X35.here hx rfl (hb hby at_72) rfl (XT.ii_ne_f hc36) k') ?_
      show Go p e below s _ _ _ (T35.setTop (mkF m 75 #[.val (.int kk), .val (.int vv), .val (.int (10 : Int32)), .val (.ref a_SYNC_GROUP), .val (.int (vv.toInt16.toInt32)), .val (.int (0 : Int32))] []))
      refine Go.st (fun _ k' => XS.iconst X35.here hx rfl (hb hby at_75) k') ?_
      show Go p e below s _ _ _ (T35.setTop (mkF m 76 #[.val (.int kk), .val (.int vv), .val (.int (10 : Int32)), .val (.ref a_SYNC_GROUP), .val (.int (vv.toInt16.toInt32)), .val (.int (0 : Int32))] [(.int (1 : Int32))]))
      refine Go.st (fun _ k' => XS.goto X35.here hx rfl (pc0 := 76) (pc' := 80) rfl (hb hby at_76) (by decide) (by decide) k') ?_
      show Go p e below s _ _ _ (T35.setTop (mkF m 80 #[.val (.int kk), .val (.int vv), .val (.int (10 : Int32)), .val (.ref a_SYNC_GROUP), .val (.int (vv.toInt16.toInt32)), .val (.int (0 : Int32))] [(.int (1 : Int32))]))
      refine Go.retB X35 hx hlk (t := .boolean) Bd.returns (by simp) (hb hby at_80) (by decide) (by decide) eq35 ?_
      exact ⟨rfl, N35, trivial⟩
    · refine Go.st (fun _ k' => XS.icmpYes X35.here hx rfl (pc0 := 72) (pc' := 79) rfl (hb hby at_72) rfl (XT.ii_ne_t hc36) (by decide) (by decide) k') ?_
      show Go p e below s _ _ _ (T35.setTop (mkF m 79 #[.val (.int kk), .val (.int vv), .val (.int (10 : Int32)), .val (.ref a_SYNC_GROUP), .val (.int (vv.toInt16.toInt32)), .val (.int (0 : Int32))] []))
      refine Go.st (fun _ k' => XS.iconst X35.here hx rfl (hb hby at_79) k') ?_
      show Go p e below s _ _ _ (T35.setTop (mkF m 80 #[.val (.int kk), .val (.int vv), .val (.int (10 : Int32)), .val (.ref a_SYNC_GROUP), .val (.int (vv.toInt16.toInt32)), .val (.int (0 : Int32))] [(.int (0 : Int32))]))
      refine Go.retB X35 hx hlk (t := .boolean) Bd.returns (by simp) (hb hby at_80) (by decide) (by decide) eq35 ?_
      exact absurd (by simp []) hc36
  · rw [hi]
    show Go p e below s _ _ _ (s₁.setTop (mkF m 8 #[.val (.int kk), .val (.int vv), .val (.int (11 : Int32)), .unset, .unset, .unset] []))
    refine Go.st (fun _ k' => XS.iloadN X0.here hx rfl (hb hby at_8) rfl k') ?_
    show Go p e below s _ _ _ (s₁.setTop (mkF m 9 #[.val (.int kk), .val (.int vv), .val (.int (11 : Int32)), .unset, .unset, .unset] [(.int (11 : Int32))]))
    obtain ⟨_, _, ⟨T37, L37, k37, n37⟩, -, X37, ⟨Lc37, hQ37, l37, y37, z37⟩, st37⟩ := Jvm.LawKit.callS X0 hx (y := (⟨"com/example/tenure_of_partitions/tenureofpartitions/ApiKeyIsFlexiblePinLaw", "pick", "(I)Lcom/example/tenure_of_partitions/tenureofpartitions/ApiKey;"⟩ : MethodName)) hown (mvT hZ (wdx hw 1 rfl)) (mvT hZ (wdx hw 2 rfl)) (mvT hZ (wdx hw 3 rfl)) (mvT hZ (wdx hw 4 rfl)) (by decide) (backOf (W := 0) (rm1 l Z a0 hw [] (11 : Int32) a_PRODUCE a_FETCH a_LIST_OFFSETS a_METADATA a_OFFSET_COMMIT a_OFFSET_FETCH a_FIND_COORDINATOR a_JOIN_GROUP a_HEARTBEAT a_LEAVE_GROUP a_SYNC_GROUP a_DESCRIBE_GROUPS a_LIST_GROUPS a_API_VERSIONS h0 n0 O0 S_PRODUCE S_FETCH S_LIST_OFFSETS S_METADATA S_OFFSET_COMMIT S_OFFSET_FETCH S_FIND_COORDINATOR S_JOIN_GROUP S_HEARTBEAT S_LEAVE_GROUP S_SYNC_GROUP S_DESCRIBE_GROUPS S_LIST_GROUPS S_API_VERSIONS) hZ (wdx hw 4 rfl) (wdx hw 3 rfl) (by decide) (by decide)) (g := (mkF m 9 #[.val (.int kk), .val (.int vv), .val (.int (11 : Int32)), .unset, .unset, .unset] [(.int (11 : Int32))])) rfl (by rw [hml]; rfl) (argsL := [(.int (11 : Int32))]) (rest := []) (lenOf pd__I_Lcom_example_tenure_of_partitions_tenureofpartitions_ApiKey_ rfl) rfl (by show 2 * 0 + _ ≤ _; exact Nat.le_of_eq rfl) (hb hby at_9) (fun _ _ => ⟨rfl, e0, (by exact Nat.le_of_ble_eq_true rfl), (by exact Nat.le_of_ble_eq_true rfl)⟩)
    dsimp only [Pt.U, Pt.locs, Pt.cells, Pt.slots] at X37 l37 y37 z37 st37 hQ37
    subst l37 y37 z37
    obtain ⟨rfl, Nq37, eq37⟩ := hQ37
    have N37 := Fr.app N0 Nq37
    refine Go.st st37 ?_
    show Go p e below s _ _ _ (T37.setTop (mkF m 12 #[.val (.int kk), .val (.int vv), .val (.int (11 : Int32)), .unset, .unset, .unset] [(.ref (fpick (11 : Int32) a_PRODUCE a_FETCH a_LIST_OFFSETS a_METADATA a_OFFSET_COMMIT a_OFFSET_FETCH a_FIND_COORDINATOR a_JOIN_GROUP a_HEARTBEAT a_LEAVE_GROUP a_SYNC_GROUP a_DESCRIBE_GROUPS a_LIST_GROUPS a_API_VERSIONS))]))
    show Go p e below s _ _ _ (T37.setTop (mkF m 12 #[.val (.int kk), .val (.int vv), .val (.int (11 : Int32)), .unset, .unset, .unset] [(.ref a_DESCRIBE_GROUPS)]))
    refine Go.st (fun _ k' => XS.astoreN X37.here hx rfl (hb hby at_12) rfl rfl (l' := #[.val (.int kk), .val (.int vv), .val (.int (11 : Int32)), .val (.ref a_DESCRIBE_GROUPS), .unset, .unset]) rfl k') ?_
    show Go p e below s _ _ _ (T37.setTop (mkF m 13 #[.val (.int kk), .val (.int vv), .val (.int (11 : Int32)), .val (.ref a_DESCRIBE_GROUPS), .unset, .unset] []))
    refine Go.st (fun _ k' => XS.iloadN X37.here hx rfl (hb hby at_13) rfl k') ?_
    show Go p e below s _ _ _ (T37.setTop (mkF m 14 #[.val (.int kk), .val (.int vv), .val (.int (11 : Int32)), .val (.ref a_DESCRIBE_GROUPS), .unset, .unset] [(.int vv)]))
    refine Go.st (fun _ k' => XS.i2s X37.here hx rfl (hb hby at_14) rfl k') ?_
    show Go p e below s _ _ _ (T37.setTop (mkF m 15 #[.val (.int kk), .val (.int vv), .val (.int (11 : Int32)), .val (.ref a_DESCRIBE_GROUPS), .unset, .unset] [(.int (vv.toInt16.toInt32))]))
    refine Go.st (fun _ k' => XS.istore X37.here hx rfl (hb hby at_15) rfl (l' := #[.val (.int kk), .val (.int vv), .val (.int (11 : Int32)), .val (.ref a_DESCRIBE_GROUPS), .val (.int (vv.toInt16.toInt32)), .unset]) rfl k') ?_
    show Go p e below s _ _ _ (T37.setTop (mkF m 17 #[.val (.int kk), .val (.int vv), .val (.int (11 : Int32)), .val (.ref a_DESCRIBE_GROUPS), .val (.int (vv.toInt16.toInt32)), .unset] []))
    refine Go.st (fun _ k' => XS.iloadN X37.here hx rfl (hb hby at_17) rfl k') ?_
    show Go p e below s _ _ _ (T37.setTop (mkF m 18 #[.val (.int kk), .val (.int vv), .val (.int (11 : Int32)), .val (.ref a_DESCRIBE_GROUPS), .val (.int (vv.toInt16.toInt32)), .unset] [(.int (11 : Int32))]))
    refine Go.st (fun _ k' => XS.iconst X37.here hx rfl (hb hby at_18) k') ?_
    show Go p e below s _ _ _ (T37.setTop (mkF m 19 #[.val (.int kk), .val (.int vv), .val (.int (11 : Int32)), .val (.ref a_DESCRIBE_GROUPS), .val (.int (vv.toInt16.toInt32)), .unset] [(.int (5 : Int32)), (.int (11 : Int32))]))
    refine Go.st (fun _ k' => XS.icmpYes X37.here hx rfl (pc0 := 19) (pc' := 39) rfl (hb hby at_19) rfl (XT.ii_ne_t (by decide)) (by decide) (by decide) k') ?_
    show Go p e below s _ _ _ (T37.setTop (mkF m 39 #[.val (.int kk), .val (.int vv), .val (.int (11 : Int32)), .val (.ref a_DESCRIBE_GROUPS), .val (.int (vv.toInt16.toInt32)), .unset] []))
    refine Go.st (fun _ k' => XS.iloadN X37.here hx rfl (hb hby at_39) rfl k') ?_
    show Go p e below s _ _ _ (T37.setTop (mkF m 40 #[.val (.int kk), .val (.int vv), .val (.int (11 : Int32)), .val (.ref a_DESCRIBE_GROUPS), .val (.int (vv.toInt16.toInt32)), .unset] [(.int (11 : Int32))]))
    refine Go.st (fun _ k' => XS.bipush X37.here hx rfl (hb hby at_40) k') ?_
    show Go p e below s _ _ _ (T37.setTop (mkF m 42 #[.val (.int kk), .val (.int vv), .val (.int (11 : Int32)), .val (.ref a_DESCRIBE_GROUPS), .val (.int (vv.toInt16.toInt32)), .unset] [(.int (13 : Int32)), (.int (11 : Int32))]))
    refine Go.st (fun _ k' => XS.icmpYes X37.here hx rfl (pc0 := 42) (pc' := 61) rfl (hb hby at_42) rfl (XT.ii_ne_t (by decide)) (by decide) (by decide) k') ?_
    show Go p e below s _ _ _ (T37.setTop (mkF m 61 #[.val (.int kk), .val (.int vv), .val (.int (11 : Int32)), .val (.ref a_DESCRIBE_GROUPS), .val (.int (vv.toInt16.toInt32)), .unset] []))
    refine Go.st (fun _ k' => XS.iconst X37.here hx rfl (hb hby at_61) k') ?_
    show Go p e below s _ _ _ (T37.setTop (mkF m 62 #[.val (.int kk), .val (.int vv), .val (.int (11 : Int32)), .val (.ref a_DESCRIBE_GROUPS), .val (.int (vv.toInt16.toInt32)), .unset] [(.int (0 : Int32))]))
    refine Go.st (fun _ k' => XS.istore X37.here hx rfl (hb hby at_62) rfl (l' := #[.val (.int kk), .val (.int vv), .val (.int (11 : Int32)), .val (.ref a_DESCRIBE_GROUPS), .val (.int (vv.toInt16.toInt32)), .val (.int (0 : Int32))]) rfl k') ?_
    show Go p e below s _ _ _ (T37.setTop (mkF m 64 #[.val (.int kk), .val (.int vv), .val (.int (11 : Int32)), .val (.ref a_DESCRIBE_GROUPS), .val (.int (vv.toInt16.toInt32)), .val (.int (0 : Int32))] []))
    refine Go.st (fun _ k' => XS.aloadN X37.here hx rfl (hb hby at_64) rfl rfl k') ?_
    show Go p e below s _ _ _ (T37.setTop (mkF m 65 #[.val (.int kk), .val (.int vv), .val (.int (11 : Int32)), .val (.ref a_DESCRIBE_GROUPS), .val (.int (vv.toInt16.toInt32)), .val (.int (0 : Int32))] [(.ref a_DESCRIBE_GROUPS)]))
    refine Go.st (fun _ k' => XS.iload X37.here hx rfl (hb hby at_65) rfl k') ?_
    show Go p e below s _ _ _ (T37.setTop (mkF m 67 #[.val (.int kk), .val (.int vv), .val (.int (11 : Int32)), .val (.ref a_DESCRIBE_GROUPS), .val (.int (vv.toInt16.toInt32)), .val (.int (0 : Int32))] [(.int (vv.toInt16.toInt32)), (.ref a_DESCRIBE_GROUPS)]))
    obtain ⟨cq38, kq38, q38a, q38b, q38c⟩ := isOf hZ eq37 E_DESCRIBE_GROUPS
    obtain ⟨_, _, ⟨T38, L38, k38, n38⟩, -, X38, ⟨Lc38, hQ38, l38, y38, z38⟩, st38⟩ := X37.virtualBack hx (y := (⟨"com/example/tenure_of_partitions/tenureofpartitions/ApiKey", "isFlexible", "(S)Z"⟩ : MethodName)) (z := (⟨"com/example/tenure_of_partitions/tenureofpartitions/ApiKey", "isFlexible", "(S)Z"⟩ : MethodName)) hown (mvT hZ (wdx hw 8 rfl)) (mvT hZ (wdx hw 9 rfl)) (notFace_of_selects (args := #[]) (mvT hZ (wdx hw 11 rfl))) (mvT hZ (wdx hw 11 rfl)) (mvT hZ (wdx hw 10 rfl)) (by decide) (backOf (W := 0) (rm2 l Z a0 hw [] a_DESCRIBE_GROUPS (vv.toInt16.toInt32) (-1 : Int32) h0 n0 O0 F_DESCRIBE_GROUPS_firstFlexibleVersion) hZ (wdx hw 12 rfl) (wdx hw 6 rfl) (by decide) (by decide)) q38a q38c (g := (mkF m 67 #[.val (.int kk), .val (.int vv), .val (.int (11 : Int32)), .val (.ref a_DESCRIBE_GROUPS), .val (.int (vv.toInt16.toInt32)), .val (.int (0 : Int32))] [(.int (vv.toInt16.toInt32)), (.ref a_DESCRIBE_GROUPS)])) rfl (by rw [hml]; rfl) (Steps.refl _) (argsL := [(.int (vv.toInt16.toInt32))]) (rest := []) (lenOf pd__S_Z rfl) rfl (by show 2 * 0 + _ ≤ _; exact Nat.le_of_eq rfl) (hb hby at_67) (fun _ _ => ⟨rfl, eq37, (by exact Nat.le_of_ble_eq_true rfl), (by exact Nat.le_of_ble_eq_true rfl)⟩)
    dsimp only [Pt.U, Pt.locs, Pt.cells, Pt.slots] at X38 l38 y38 z38 st38 hQ38
    subst l38 y38 z38
    obtain ⟨rfl, Nq38, eq38⟩ := hQ38
    have N38 := Fr.app N37 Nq38
    refine Go.tr st38 ?_
    show Go p e below s _ _ _ (T38.setTop (mkF m 70 #[.val (.int kk), .val (.int vv), .val (.int (11 : Int32)), .val (.ref a_DESCRIBE_GROUPS), .val (.int (vv.toInt16.toInt32)), .val (.int (0 : Int32))] [(.int (if (-1 : Int32) < 0 then (0 : Int32) else if (vv.toInt16.toInt32) < (-1 : Int32) then 0 else 1))]))
    refine Go.st (fun _ k' => XS.iload X38.here hx rfl (hb hby at_70) rfl k') ?_
    show Go p e below s _ _ _ (T38.setTop (mkF m 72 #[.val (.int kk), .val (.int vv), .val (.int (11 : Int32)), .val (.ref a_DESCRIBE_GROUPS), .val (.int (vv.toInt16.toInt32)), .val (.int (0 : Int32))] [(.int (0 : Int32)), (.int (if (-1 : Int32) < 0 then (0 : Int32) else if (vv.toInt16.toInt32) < (-1 : Int32) then 0 else 1))]))
    by_cases hc39 : (if (-1 : Int32) < 0 then (0 : Int32) else if (vv.toInt16.toInt32) < (-1 : Int32) then 0 else 1) = (0 : Int32)
    · refine Go.st (fun _ k' => XS.icmpNo X38.here hx rfl (hb hby at_72) rfl (XT.ii_ne_f hc39) k') ?_
      show Go p e below s _ _ _ (T38.setTop (mkF m 75 #[.val (.int kk), .val (.int vv), .val (.int (11 : Int32)), .val (.ref a_DESCRIBE_GROUPS), .val (.int (vv.toInt16.toInt32)), .val (.int (0 : Int32))] []))
      refine Go.st (fun _ k' => XS.iconst X38.here hx rfl (hb hby at_75) k') ?_
      show Go p e below s _ _ _ (T38.setTop (mkF m 76 #[.val (.int kk), .val (.int vv), .val (.int (11 : Int32)), .val (.ref a_DESCRIBE_GROUPS), .val (.int (vv.toInt16.toInt32)), .val (.int (0 : Int32))] [(.int (1 : Int32))]))
      refine Go.st (fun _ k' => XS.goto X38.here hx rfl (pc0 := 76) (pc' := 80) rfl (hb hby at_76) (by decide) (by decide) k') ?_
      show Go p e below s _ _ _ (T38.setTop (mkF m 80 #[.val (.int kk), .val (.int vv), .val (.int (11 : Int32)), .val (.ref a_DESCRIBE_GROUPS), .val (.int (vv.toInt16.toInt32)), .val (.int (0 : Int32))] [(.int (1 : Int32))]))
      refine Go.retB X38 hx hlk (t := .boolean) Bd.returns (by simp) (hb hby at_80) (by decide) (by decide) eq38 ?_
      exact ⟨rfl, N38, trivial⟩
    · refine Go.st (fun _ k' => XS.icmpYes X38.here hx rfl (pc0 := 72) (pc' := 79) rfl (hb hby at_72) rfl (XT.ii_ne_t hc39) (by decide) (by decide) k') ?_
      show Go p e below s _ _ _ (T38.setTop (mkF m 79 #[.val (.int kk), .val (.int vv), .val (.int (11 : Int32)), .val (.ref a_DESCRIBE_GROUPS), .val (.int (vv.toInt16.toInt32)), .val (.int (0 : Int32))] []))
      refine Go.st (fun _ k' => XS.iconst X38.here hx rfl (hb hby at_79) k') ?_
      show Go p e below s _ _ _ (T38.setTop (mkF m 80 #[.val (.int kk), .val (.int vv), .val (.int (11 : Int32)), .val (.ref a_DESCRIBE_GROUPS), .val (.int (vv.toInt16.toInt32)), .val (.int (0 : Int32))] [(.int (0 : Int32))]))
      refine Go.retB X38 hx hlk (t := .boolean) Bd.returns (by simp) (hb hby at_80) (by decide) (by decide) eq38 ?_
      exact absurd (by simp []) hc39
  · rw [hi]
    show Go p e below s _ _ _ (s₁.setTop (mkF m 8 #[.val (.int kk), .val (.int vv), .val (.int (12 : Int32)), .unset, .unset, .unset] []))
    refine Go.st (fun _ k' => XS.iloadN X0.here hx rfl (hb hby at_8) rfl k') ?_
    show Go p e below s _ _ _ (s₁.setTop (mkF m 9 #[.val (.int kk), .val (.int vv), .val (.int (12 : Int32)), .unset, .unset, .unset] [(.int (12 : Int32))]))
    obtain ⟨_, _, ⟨T40, L40, k40, n40⟩, -, X40, ⟨Lc40, hQ40, l40, y40, z40⟩, st40⟩ := Jvm.LawKit.callS X0 hx (y := (⟨"com/example/tenure_of_partitions/tenureofpartitions/ApiKeyIsFlexiblePinLaw", "pick", "(I)Lcom/example/tenure_of_partitions/tenureofpartitions/ApiKey;"⟩ : MethodName)) hown (mvT hZ (wdx hw 1 rfl)) (mvT hZ (wdx hw 2 rfl)) (mvT hZ (wdx hw 3 rfl)) (mvT hZ (wdx hw 4 rfl)) (by decide) (backOf (W := 0) (rm1 l Z a0 hw [] (12 : Int32) a_PRODUCE a_FETCH a_LIST_OFFSETS a_METADATA a_OFFSET_COMMIT a_OFFSET_FETCH a_FIND_COORDINATOR a_JOIN_GROUP a_HEARTBEAT a_LEAVE_GROUP a_SYNC_GROUP a_DESCRIBE_GROUPS a_LIST_GROUPS a_API_VERSIONS h0 n0 O0 S_PRODUCE S_FETCH S_LIST_OFFSETS S_METADATA S_OFFSET_COMMIT S_OFFSET_FETCH S_FIND_COORDINATOR S_JOIN_GROUP S_HEARTBEAT S_LEAVE_GROUP S_SYNC_GROUP S_DESCRIBE_GROUPS S_LIST_GROUPS S_API_VERSIONS) hZ (wdx hw 4 rfl) (wdx hw 3 rfl) (by decide) (by decide)) (g := (mkF m 9 #[.val (.int kk), .val (.int vv), .val (.int (12 : Int32)), .unset, .unset, .unset] [(.int (12 : Int32))])) rfl (by rw [hml]; rfl) (argsL := [(.int (12 : Int32))]) (rest := []) (lenOf pd__I_Lcom_example_tenure_of_partitions_tenureofpartitions_ApiKey_ rfl) rfl (by show 2 * 0 + _ ≤ _; exact Nat.le_of_eq rfl) (hb hby at_9) (fun _ _ => ⟨rfl, e0, (by exact Nat.le_of_ble_eq_true rfl), (by exact Nat.le_of_ble_eq_true rfl)⟩)
    dsimp only [Pt.U, Pt.locs, Pt.cells, Pt.slots] at X40 l40 y40 z40 st40 hQ40
    subst l40 y40 z40
    obtain ⟨rfl, Nq40, eq40⟩ := hQ40
    have N40 := Fr.app N0 Nq40
    refine Go.st st40 ?_
    show Go p e below s _ _ _ (T40.setTop (mkF m 12 #[.val (.int kk), .val (.int vv), .val (.int (12 : Int32)), .unset, .unset, .unset] [(.ref (fpick (12 : Int32) a_PRODUCE a_FETCH a_LIST_OFFSETS a_METADATA a_OFFSET_COMMIT a_OFFSET_FETCH a_FIND_COORDINATOR a_JOIN_GROUP a_HEARTBEAT a_LEAVE_GROUP a_SYNC_GROUP a_DESCRIBE_GROUPS a_LIST_GROUPS a_API_VERSIONS))]))
    show Go p e below s _ _ _ (T40.setTop (mkF m 12 #[.val (.int kk), .val (.int vv), .val (.int (12 : Int32)), .unset, .unset, .unset] [(.ref a_LIST_GROUPS)]))
    refine Go.st (fun _ k' => XS.astoreN X40.here hx rfl (hb hby at_12) rfl rfl (l' := #[.val (.int kk), .val (.int vv), .val (.int (12 : Int32)), .val (.ref a_LIST_GROUPS), .unset, .unset]) rfl k') ?_
    show Go p e below s _ _ _ (T40.setTop (mkF m 13 #[.val (.int kk), .val (.int vv), .val (.int (12 : Int32)), .val (.ref a_LIST_GROUPS), .unset, .unset] []))
    refine Go.st (fun _ k' => XS.iloadN X40.here hx rfl (hb hby at_13) rfl k') ?_
    show Go p e below s _ _ _ (T40.setTop (mkF m 14 #[.val (.int kk), .val (.int vv), .val (.int (12 : Int32)), .val (.ref a_LIST_GROUPS), .unset, .unset] [(.int vv)]))
    refine Go.st (fun _ k' => XS.i2s X40.here hx rfl (hb hby at_14) rfl k') ?_
    show Go p e below s _ _ _ (T40.setTop (mkF m 15 #[.val (.int kk), .val (.int vv), .val (.int (12 : Int32)), .val (.ref a_LIST_GROUPS), .unset, .unset] [(.int (vv.toInt16.toInt32))]))
    refine Go.st (fun _ k' => XS.istore X40.here hx rfl (hb hby at_15) rfl (l' := #[.val (.int kk), .val (.int vv), .val (.int (12 : Int32)), .val (.ref a_LIST_GROUPS), .val (.int (vv.toInt16.toInt32)), .unset]) rfl k') ?_
    show Go p e below s _ _ _ (T40.setTop (mkF m 17 #[.val (.int kk), .val (.int vv), .val (.int (12 : Int32)), .val (.ref a_LIST_GROUPS), .val (.int (vv.toInt16.toInt32)), .unset] []))
    refine Go.st (fun _ k' => XS.iloadN X40.here hx rfl (hb hby at_17) rfl k') ?_
    show Go p e below s _ _ _ (T40.setTop (mkF m 18 #[.val (.int kk), .val (.int vv), .val (.int (12 : Int32)), .val (.ref a_LIST_GROUPS), .val (.int (vv.toInt16.toInt32)), .unset] [(.int (12 : Int32))]))
    refine Go.st (fun _ k' => XS.iconst X40.here hx rfl (hb hby at_18) k') ?_
    show Go p e below s _ _ _ (T40.setTop (mkF m 19 #[.val (.int kk), .val (.int vv), .val (.int (12 : Int32)), .val (.ref a_LIST_GROUPS), .val (.int (vv.toInt16.toInt32)), .unset] [(.int (5 : Int32)), (.int (12 : Int32))]))
    refine Go.st (fun _ k' => XS.icmpYes X40.here hx rfl (pc0 := 19) (pc' := 39) rfl (hb hby at_19) rfl (XT.ii_ne_t (by decide)) (by decide) (by decide) k') ?_
    show Go p e below s _ _ _ (T40.setTop (mkF m 39 #[.val (.int kk), .val (.int vv), .val (.int (12 : Int32)), .val (.ref a_LIST_GROUPS), .val (.int (vv.toInt16.toInt32)), .unset] []))
    refine Go.st (fun _ k' => XS.iloadN X40.here hx rfl (hb hby at_39) rfl k') ?_
    show Go p e below s _ _ _ (T40.setTop (mkF m 40 #[.val (.int kk), .val (.int vv), .val (.int (12 : Int32)), .val (.ref a_LIST_GROUPS), .val (.int (vv.toInt16.toInt32)), .unset] [(.int (12 : Int32))]))
    refine Go.st (fun _ k' => XS.bipush X40.here hx rfl (hb hby at_40) k') ?_
    show Go p e below s _ _ _ (T40.setTop (mkF m 42 #[.val (.int kk), .val (.int vv), .val (.int (12 : Int32)), .val (.ref a_LIST_GROUPS), .val (.int (vv.toInt16.toInt32)), .unset] [(.int (13 : Int32)), (.int (12 : Int32))]))
    refine Go.st (fun _ k' => XS.icmpYes X40.here hx rfl (pc0 := 42) (pc' := 61) rfl (hb hby at_42) rfl (XT.ii_ne_t (by decide)) (by decide) (by decide) k') ?_
    show Go p e below s _ _ _ (T40.setTop (mkF m 61 #[.val (.int kk), .val (.int vv), .val (.int (12 : Int32)), .val (.ref a_LIST_GROUPS), .val (.int (vv.toInt16.toInt32)), .unset] []))
    refine Go.st (fun _ k' => XS.iconst X40.here hx rfl (hb hby at_61) k') ?_
    show Go p e below s _ _ _ (T40.setTop (mkF m 62 #[.val (.int kk), .val (.int vv), .val (.int (12 : Int32)), .val (.ref a_LIST_GROUPS), .val (.int (vv.toInt16.toInt32)), .unset] [(.int (0 : Int32))]))
    refine Go.st (fun _ k' => XS.istore X40.here hx rfl (hb hby at_62) rfl (l' := #[.val (.int kk), .val (.int vv), .val (.int (12 : Int32)), .val (.ref a_LIST_GROUPS), .val (.int (vv.toInt16.toInt32)), .val (.int (0 : Int32))]) rfl k') ?_
    show Go p e below s _ _ _ (T40.setTop (mkF m 64 #[.val (.int kk), .val (.int vv), .val (.int (12 : Int32)), .val (.ref a_LIST_GROUPS), .val (.int (vv.toInt16.toInt32)), .val (.int (0 : Int32))] []))
    refine Go.st (fun _ k' => XS.aloadN X40.here hx rfl (hb hby at_64) rfl rfl k') ?_
    show Go p e below s _ _ _ (T40.setTop (mkF m 65 #[.val (.int kk), .val (.int vv), .val (.int (12 : Int32)), .val (.ref a_LIST_GROUPS), .val (.int (vv.toInt16.toInt32)), .val (.int (0 : Int32))] [(.ref a_LIST_GROUPS)]))
    refine Go.st (fun _ k' => XS.iload X40.here hx rfl (hb hby at_65) rfl k') ?_
    show Go p e below s _ _ _ (T40.setTop (mkF m 67 #[.val (.int kk), .val (.int vv), .val (.int (12 : Int32)), .val (.ref a_LIST_GROUPS), .val (.int (vv.toInt16.toInt32)), .val (.int (0 : Int32))] [(.int (vv.toInt16.toInt32)), (.ref a_LIST_GROUPS)]))
    obtain ⟨cq41, kq41, q41a, q41b, q41c⟩ := isOf hZ eq40 E_LIST_GROUPS
    obtain ⟨_, _, ⟨T41, L41, k41, n41⟩, -, X41, ⟨Lc41, hQ41, l41, y41, z41⟩, st41⟩ := X40.virtualBack hx (y := (⟨"com/example/tenure_of_partitions/tenureofpartitions/ApiKey", "isFlexible", "(S)Z"⟩ : MethodName)) (z := (⟨"com/example/tenure_of_partitions/tenureofpartitions/ApiKey", "isFlexible", "(S)Z"⟩ : MethodName)) hown (mvT hZ (wdx hw 8 rfl)) (mvT hZ (wdx hw 9 rfl)) (notFace_of_selects (args := #[]) (mvT hZ (wdx hw 11 rfl))) (mvT hZ (wdx hw 11 rfl)) (mvT hZ (wdx hw 10 rfl)) (by decide) (backOf (W := 0) (rm2 l Z a0 hw [] a_LIST_GROUPS (vv.toInt16.toInt32) (-1 : Int32) h0 n0 O0 F_LIST_GROUPS_firstFlexibleVersion) hZ (wdx hw 12 rfl) (wdx hw 6 rfl) (by decide) (by decide)) q41a q41c (g := (mkF m 67 #[.val (.int kk), .val (.int vv), .val (.int (12 : Int32)), .val (.ref a_LIST_GROUPS), .val (.int (vv.toInt16.toInt32)), .val (.int (0 : Int32))] [(.int (vv.toInt16.toInt32)), (.ref a_LIST_GROUPS)])) rfl (by rw [hml]; rfl) (Steps.refl _) (argsL := [(.int (vv.toInt16.toInt32))]) (rest := []) (lenOf pd__S_Z rfl) rfl (by show 2 * 0 + _ ≤ _; exact Nat.le_of_eq rfl) (hb hby at_67) (fun _ _ => ⟨rfl, eq40, (by exact Nat.le_of_ble_eq_true rfl), (by exact Nat.le_of_ble_eq_true rfl)⟩)
    dsimp only [Pt.U, Pt.locs, Pt.cells, Pt.slots] at X41 l41 y41 z41 st41 hQ41
    subst l41 y41 z41
    obtain ⟨rfl, Nq41, eq41⟩ := hQ41
    have N41 := Fr.app N40 Nq41
    refine Go.tr st41 ?_
    show Go p e below s _ _ _ (T41.setTop (mkF m 70 #[.val (.int kk), .val (.int vv), .val (.int (12 : Int32)), .val (.ref a_LIST_GROUPS), .val (.int (vv.toInt16.toInt32)), .val (.int (0 : Int32))] [(.int (if (-1 : Int32) < 0 then (0 : Int32) else if (vv.toInt16.toInt32) < (-1 : Int32) then 0 else 1))]))
    refine Go.st (fun _ k' => XS.iload X41.here hx rfl (hb hby at_70) rfl k') ?_
    show Go p e below s _ _ _ (T41.setTop (mkF m 72 #[.val (.int kk), .val (.int vv), .val (.int (12 : Int32)), .val (.ref a_LIST_GROUPS), .val (.int (vv.toInt16.toInt32)), .val (.int (0 : Int32))] [(.int (0 : Int32)), (.int (if (-1 : Int32) < 0 then (0 : Int32) else if (vv.toInt16.toInt32) < (-1 : Int32) then 0 else 1))]))
    by_cases hc42 : (if (-1 : Int32) < 0 then (0 : Int32) else if (vv.toInt16.toInt32) < (-1 : Int32) then 0 else 1) = (0 : Int32)
    · refine Go.st (fun _ k' => XS.icmpNo X41.here hx rfl (hb hby at_72) rfl (XT.ii_ne_f hc42) k') ?_
      show Go p e below s _ _ _ (T41.setTop (mkF m 75 #[.val (.int kk), .val (.int vv), .val (.int (12 : Int32)), .val (.ref a_LIST_GROUPS), .val (.int (vv.toInt16.toInt32)), .val (.int (0 : Int32))] []))
      refine Go.st (fun _ k' => XS.iconst X41.here hx rfl (hb hby at_75) k') ?_
      show Go p e below s _ _ _ (T41.setTop (mkF m 76 #[.val (.int kk), .val (.int vv), .val (.int (12 : Int32)), .val (.ref a_LIST_GROUPS), .val (.int (vv.toInt16.toInt32)), .val (.int (0 : Int32))] [(.int (1 : Int32))]))
      refine Go.st (fun _ k' => XS.goto X41.here hx rfl (pc0 := 76) (pc' := 80) rfl (hb hby at_76) (by decide) (by decide) k') ?_
      show Go p e below s _ _ _ (T41.setTop (mkF m 80 #[.val (.int kk), .val (.int vv), .val (.int (12 : Int32)), .val (.ref a_LIST_GROUPS), .val (.int (vv.toInt16.toInt32)), .val (.int (0 : Int32))] [(.int (1 : Int32))]))
      refine Go.retB X41 hx hlk (t := .boolean) Bd.returns (by simp) (hb hby at_80) (by decide) (by decide) eq41 ?_
      exact ⟨rfl, N41, trivial⟩
    · refine Go.st (fun _ k' => XS.icmpYes X41.here hx rfl (pc0 := 72) (pc' := 79) rfl (hb hby at_72) rfl (XT.ii_ne_t hc42) (by decide) (by decide) k') ?_
      show Go p e below s _ _ _ (T41.setTop (mkF m 79 #[.val (.int kk), .val (.int vv), .val (.int (12 : Int32)), .val (.ref a_LIST_GROUPS), .val (.int (vv.toInt16.toInt32)), .val (.int (0 : Int32))] []))
      refine Go.st (fun _ k' => XS.iconst X41.here hx rfl (hb hby at_79) k') ?_
      show Go p e below s _ _ _ (T41.setTop (mkF m 80 #[.val (.int kk), .val (.int vv), .val (.int (12 : Int32)), .val (.ref a_LIST_GROUPS), .val (.int (vv.toInt16.toInt32)), .val (.int (0 : Int32))] [(.int (0 : Int32))]))
      refine Go.retB X41 hx hlk (t := .boolean) Bd.returns (by simp) (hb hby at_80) (by decide) (by decide) eq41 ?_
      exact absurd (by simp []) hc42
  · rw [hi]
    show Go p e below s _ _ _ (s₁.setTop (mkF m 8 #[.val (.int kk), .val (.int vv), .val (.int (13 : Int32)), .unset, .unset, .unset] []))
    refine Go.st (fun _ k' => XS.iloadN X0.here hx rfl (hb hby at_8) rfl k') ?_
    show Go p e below s _ _ _ (s₁.setTop (mkF m 9 #[.val (.int kk), .val (.int vv), .val (.int (13 : Int32)), .unset, .unset, .unset] [(.int (13 : Int32))]))
    obtain ⟨_, _, ⟨T43, L43, k43, n43⟩, -, X43, ⟨Lc43, hQ43, l43, y43, z43⟩, st43⟩ := Jvm.LawKit.callS X0 hx (y := (⟨"com/example/tenure_of_partitions/tenureofpartitions/ApiKeyIsFlexiblePinLaw", "pick", "(I)Lcom/example/tenure_of_partitions/tenureofpartitions/ApiKey;"⟩ : MethodName)) hown (mvT hZ (wdx hw 1 rfl)) (mvT hZ (wdx hw 2 rfl)) (mvT hZ (wdx hw 3 rfl)) (mvT hZ (wdx hw 4 rfl)) (by decide) (backOf (W := 0) (rm1 l Z a0 hw [] (13 : Int32) a_PRODUCE a_FETCH a_LIST_OFFSETS a_METADATA a_OFFSET_COMMIT a_OFFSET_FETCH a_FIND_COORDINATOR a_JOIN_GROUP a_HEARTBEAT a_LEAVE_GROUP a_SYNC_GROUP a_DESCRIBE_GROUPS a_LIST_GROUPS a_API_VERSIONS h0 n0 O0 S_PRODUCE S_FETCH S_LIST_OFFSETS S_METADATA S_OFFSET_COMMIT S_OFFSET_FETCH S_FIND_COORDINATOR S_JOIN_GROUP S_HEARTBEAT S_LEAVE_GROUP S_SYNC_GROUP S_DESCRIBE_GROUPS S_LIST_GROUPS S_API_VERSIONS) hZ (wdx hw 4 rfl) (wdx hw 3 rfl) (by decide) (by decide)) (g := (mkF m 9 #[.val (.int kk), .val (.int vv), .val (.int (13 : Int32)), .unset, .unset, .unset] [(.int (13 : Int32))])) rfl (by rw [hml]; rfl) (argsL := [(.int (13 : Int32))]) (rest := []) (lenOf pd__I_Lcom_example_tenure_of_partitions_tenureofpartitions_ApiKey_ rfl) rfl (by show 2 * 0 + _ ≤ _; exact Nat.le_of_eq rfl) (hb hby at_9) (fun _ _ => ⟨rfl, e0, (by exact Nat.le_of_ble_eq_true rfl), (by exact Nat.le_of_ble_eq_true rfl)⟩)
    dsimp only [Pt.U, Pt.locs, Pt.cells, Pt.slots] at X43 l43 y43 z43 st43 hQ43
    subst l43 y43 z43
    obtain ⟨rfl, Nq43, eq43⟩ := hQ43
    have N43 := Fr.app N0 Nq43
    refine Go.st st43 ?_
    show Go p e below s _ _ _ (T43.setTop (mkF m 12 #[.val (.int kk), .val (.int vv), .val (.int (13 : Int32)), .unset, .unset, .unset] [(.ref (fpick (13 : Int32) a_PRODUCE a_FETCH a_LIST_OFFSETS a_METADATA a_OFFSET_COMMIT a_OFFSET_FETCH a_FIND_COORDINATOR a_JOIN_GROUP a_HEARTBEAT a_LEAVE_GROUP a_SYNC_GROUP a_DESCRIBE_GROUPS a_LIST_GROUPS a_API_VERSIONS))]))
    show Go p e below s _ _ _ (T43.setTop (mkF m 12 #[.val (.int kk), .val (.int vv), .val (.int (13 : Int32)), .unset, .unset, .unset] [(.ref a_API_VERSIONS)]))
    refine Go.st (fun _ k' => XS.astoreN X43.here hx rfl (hb hby at_12) rfl rfl (l' := #[.val (.int kk), .val (.int vv), .val (.int (13 : Int32)), .val (.ref a_API_VERSIONS), .unset, .unset]) rfl k') ?_
    show Go p e below s _ _ _ (T43.setTop (mkF m 13 #[.val (.int kk), .val (.int vv), .val (.int (13 : Int32)), .val (.ref a_API_VERSIONS), .unset, .unset] []))
    refine Go.st (fun _ k' => XS.iloadN X43.here hx rfl (hb hby at_13) rfl k') ?_
    show Go p e below s _ _ _ (T43.setTop (mkF m 14 #[.val (.int kk), .val (.int vv), .val (.int (13 : Int32)), .val (.ref a_API_VERSIONS), .unset, .unset] [(.int vv)]))
    refine Go.st (fun _ k' => XS.i2s X43.here hx rfl (hb hby at_14) rfl k') ?_
    show Go p e below s _ _ _ (T43.setTop (mkF m 15 #[.val (.int kk), .val (.int vv), .val (.int (13 : Int32)), .val (.ref a_API_VERSIONS), .unset, .unset] [(.int (vv.toInt16.toInt32))]))
    refine Go.st (fun _ k' => XS.istore X43.here hx rfl (hb hby at_15) rfl (l' := #[.val (.int kk), .val (.int vv), .val (.int (13 : Int32)), .val (.ref a_API_VERSIONS), .val (.int (vv.toInt16.toInt32)), .unset]) rfl k') ?_
    show Go p e below s _ _ _ (T43.setTop (mkF m 17 #[.val (.int kk), .val (.int vv), .val (.int (13 : Int32)), .val (.ref a_API_VERSIONS), .val (.int (vv.toInt16.toInt32)), .unset] []))
    refine Go.st (fun _ k' => XS.iloadN X43.here hx rfl (hb hby at_17) rfl k') ?_
    show Go p e below s _ _ _ (T43.setTop (mkF m 18 #[.val (.int kk), .val (.int vv), .val (.int (13 : Int32)), .val (.ref a_API_VERSIONS), .val (.int (vv.toInt16.toInt32)), .unset] [(.int (13 : Int32))]))
    refine Go.st (fun _ k' => XS.iconst X43.here hx rfl (hb hby at_18) k') ?_
    show Go p e below s _ _ _ (T43.setTop (mkF m 19 #[.val (.int kk), .val (.int vv), .val (.int (13 : Int32)), .val (.ref a_API_VERSIONS), .val (.int (vv.toInt16.toInt32)), .unset] [(.int (5 : Int32)), (.int (13 : Int32))]))
    refine Go.st (fun _ k' => XS.icmpYes X43.here hx rfl (pc0 := 19) (pc' := 39) rfl (hb hby at_19) rfl (XT.ii_ne_t (by decide)) (by decide) (by decide) k') ?_
    show Go p e below s _ _ _ (T43.setTop (mkF m 39 #[.val (.int kk), .val (.int vv), .val (.int (13 : Int32)), .val (.ref a_API_VERSIONS), .val (.int (vv.toInt16.toInt32)), .unset] []))
    refine Go.st (fun _ k' => XS.iloadN X43.here hx rfl (hb hby at_39) rfl k') ?_
    show Go p e below s _ _ _ (T43.setTop (mkF m 40 #[.val (.int kk), .val (.int vv), .val (.int (13 : Int32)), .val (.ref a_API_VERSIONS), .val (.int (vv.toInt16.toInt32)), .unset] [(.int (13 : Int32))]))
    refine Go.st (fun _ k' => XS.bipush X43.here hx rfl (hb hby at_40) k') ?_
    show Go p e below s _ _ _ (T43.setTop (mkF m 42 #[.val (.int kk), .val (.int vv), .val (.int (13 : Int32)), .val (.ref a_API_VERSIONS), .val (.int (vv.toInt16.toInt32)), .unset] [(.int (13 : Int32)), (.int (13 : Int32))]))
    refine Go.st (fun _ k' => XS.icmpNo X43.here hx rfl (hb hby at_42) rfl (XT.ii_ne_f (by decide)) k') ?_
    show Go p e below s _ _ _ (T43.setTop (mkF m 45 #[.val (.int kk), .val (.int vv), .val (.int (13 : Int32)), .val (.ref a_API_VERSIONS), .val (.int (vv.toInt16.toInt32)), .unset] []))
    refine Go.st (fun _ k' => XS.iload X43.here hx rfl (hb hby at_45) rfl k') ?_
    show Go p e below s _ _ _ (T43.setTop (mkF m 47 #[.val (.int kk), .val (.int vv), .val (.int (13 : Int32)), .val (.ref a_API_VERSIONS), .val (.int (vv.toInt16.toInt32)), .unset] [(.int (vv.toInt16.toInt32))]))
    refine Go.st (fun _ k' => XS.iconst X43.here hx rfl (hb hby at_47) k') ?_
    show Go p e below s _ _ _ (T43.setTop (mkF m 48 #[.val (.int kk), .val (.int vv), .val (.int (13 : Int32)), .val (.ref a_API_VERSIONS), .val (.int (vv.toInt16.toInt32)), .unset] [(.int (3 : Int32)), (.int (vv.toInt16.toInt32))]))
    by_cases hc44 : (vv.toInt16.toInt32) < (3 : Int32)
    · refine Go.st (fun _ k' => XS.icmpYes X43.here hx rfl (pc0 := 48) (pc' := 55) rfl (hb hby at_48) rfl (XT.ii_lt_t hc44) (by decide) (by decide) k') ?_
      show Go p e below s _ _ _ (T43.setTop (mkF m 55 #[.val (.int kk), .val (.int vv), .val (.int (13 : Int32)), .val (.ref a_API_VERSIONS), .val (.int (vv.toInt16.toInt32)), .unset] []))
      refine Go.st (fun _ k' => XS.iconst X43.here hx rfl (hb hby at_55) k') ?_
      show Go p e below s _ _ _ (T43.setTop (mkF m 56 #[.val (.int kk), .val (.int vv), .val (.int (13 : Int32)), .val (.ref a_API_VERSIONS), .val (.int (vv.toInt16.toInt32)), .unset] [(.int (0 : Int32))]))
      refine Go.st (fun _ k' => XS.istore X43.here hx rfl (hb hby at_56) rfl (l' := #[.val (.int kk), .val (.int vv), .val (.int (13 : Int32)), .val (.ref a_API_VERSIONS), .val (.int (vv.toInt16.toInt32)), .val (.int (0 : Int32))]) rfl k') ?_
      show Go p e below s _ _ _ (T43.setTop (mkF m 58 #[.val (.int kk), .val (.int vv), .val (.int (13 : Int32)), .val (.ref a_API_VERSIONS), .val (.int (vv.toInt16.toInt32)), .val (.int (0 : Int32))] []))
      refine Go.st (fun _ k' => XS.goto X43.here hx rfl (pc0 := 58) (pc' := 64) rfl (hb hby at_58) (by decide) (by decide) k') ?_
      show Go p e below s _ _ _ (T43.setTop (mkF m 64 #[.val (.int kk), .val (.int vv), .val (.int (13 : Int32)), .val (.ref a_API_VERSIONS), .val (.int (vv.toInt16.toInt32)), .val (.int (0 : Int32))] []))
      refine Go.st (fun _ k' => XS.aloadN X43.here hx rfl (hb hby at_64) rfl rfl k') ?_
      show Go p e below s _ _ _ (T43.setTop (mkF m 65 #[.val (.int kk), .val (.int vv), .val (.int (13 : Int32)), .val (.ref a_API_VERSIONS), .val (.int (vv.toInt16.toInt32)), .val (.int (0 : Int32))] [(.ref a_API_VERSIONS)]))
      refine Go.st (fun _ k' => XS.iload X43.here hx rfl (hb hby at_65) rfl k') ?_
      show Go p e below s _ _ _ (T43.setTop (mkF m 67 #[.val (.int kk), .val (.int vv), .val (.int (13 : Int32)), .val (.ref a_API_VERSIONS), .val (.int (vv.toInt16.toInt32)), .val (.int (0 : Int32))] [(.int (vv.toInt16.toInt32)), (.ref a_API_VERSIONS)]))
      obtain ⟨cq45, kq45, q45a, q45b, q45c⟩ := isOf hZ eq43 E_API_VERSIONS
      obtain ⟨_, _, ⟨T45, L45, k45, n45⟩, -, X45, ⟨Lc45, hQ45, l45, y45, z45⟩, st45⟩ := X43.virtualBack hx (y := (⟨"com/example/tenure_of_partitions/tenureofpartitions/ApiKey", "isFlexible", "(S)Z"⟩ : MethodName)) (z := (⟨"com/example/tenure_of_partitions/tenureofpartitions/ApiKey", "isFlexible", "(S)Z"⟩ : MethodName)) hown (mvT hZ (wdx hw 8 rfl)) (mvT hZ (wdx hw 9 rfl)) (notFace_of_selects (args := #[]) (mvT hZ (wdx hw 11 rfl))) (mvT hZ (wdx hw 11 rfl)) (mvT hZ (wdx hw 10 rfl)) (by decide) (backOf (W := 0) (rm2 l Z a0 hw [] a_API_VERSIONS (vv.toInt16.toInt32) (3 : Int32) h0 n0 O0 F_API_VERSIONS_firstFlexibleVersion) hZ (wdx hw 12 rfl) (wdx hw 6 rfl) (by decide) (by decide)) q45a q45c (g := (mkF m 67 #[.val (.int kk), .val (.int vv), .val (.int (13 : Int32)), .val (.ref a_API_VERSIONS), .val (.int (vv.toInt16.toInt32)), .val (.int (0 : Int32))] [(.int (vv.toInt16.toInt32)), (.ref a_API_VERSIONS)])) rfl (by rw [hml]; rfl) (Steps.refl _) (argsL := [(.int (vv.toInt16.toInt32))]) (rest := []) (lenOf pd__S_Z rfl) rfl (by show 2 * 0 + _ ≤ _; exact Nat.le_of_eq rfl) (hb hby at_67) (fun _ _ => ⟨rfl, eq43, (by exact Nat.le_of_ble_eq_true rfl), (by exact Nat.le_of_ble_eq_true rfl)⟩)
      dsimp only [Pt.U, Pt.locs, Pt.cells, Pt.slots] at X45 l45 y45 z45 st45 hQ45
      subst l45 y45 z45
      obtain ⟨rfl, Nq45, eq45⟩ := hQ45
      have N45 := Fr.app N43 Nq45
      refine Go.tr st45 ?_
      show Go p e below s _ _ _ (T45.setTop (mkF m 70 #[.val (.int kk), .val (.int vv), .val (.int (13 : Int32)), .val (.ref a_API_VERSIONS), .val (.int (vv.toInt16.toInt32)), .val (.int (0 : Int32))] [(.int (if (3 : Int32) < 0 then (0 : Int32) else if (vv.toInt16.toInt32) < (3 : Int32) then 0 else 1))]))
      refine Go.st (fun _ k' => XS.iload X45.here hx rfl (hb hby at_70) rfl k') ?_
      show Go p e below s _ _ _ (T45.setTop (mkF m 72 #[.val (.int kk), .val (.int vv), .val (.int (13 : Int32)), .val (.ref a_API_VERSIONS), .val (.int (vv.toInt16.toInt32)), .val (.int (0 : Int32))] [(.int (0 : Int32)), (.int (if (3 : Int32) < 0 then (0 : Int32) else if (vv.toInt16.toInt32) < (3 : Int32) then 0 else 1))]))
      by_cases hc46 : (if (3 : Int32) < 0 then (0 : Int32) else if (vv.toInt16.toInt32) < (3 : Int32) then 0 else 1) = (0 : Int32)
      · refine Go.st (fun _ k' => XS.icmpNo X45.here hx rfl (hb hby at_72) rfl (XT.ii_ne_f hc46) k') ?_
        show Go p e below s _ _ _ (T45.setTop (mkF m 75 #[.val (.int kk), .val (.int vv), .val (.int (13 : Int32)), .val (.ref a_API_VERSIONS), .val (.int (vv.toInt16.toInt32)), .val (.int (0 : Int32))] []))
        refine Go.st (fun _ k' => XS.iconst X45.here hx rfl (hb hby at_75) k') ?_
        show Go p e below s _ _ _ (T45.setTop (mkF m 76 #[.val (.int kk), .val (.int vv), .val (.int (13 : Int32)), .val (.ref a_API_VERSIONS), .val (.int (vv.toInt16.toInt32)), .val (.int (0 : Int32))] [(.int (1 : Int32))]))
        refine Go.st (fun _ k' => XS.goto X45.here hx rfl (pc0 := 76) (pc' := 80) rfl (hb hby at_76) (by decide) (by decide) k') ?_
        show Go p e below s _ _ _ (T45.setTop (mkF m 80 #[.val (.int kk), .val (.int vv), .val (.int (13 : Int32)), .val (.ref a_API_VERSIONS), .val (.int (vv.toInt16.toInt32)), .val (.int (0 : Int32))] [(.int (1 : Int32))]))
        refine Go.retB X45 hx hlk (t := .boolean) Bd.returns (by simp) (hb hby at_80) (by decide) (by decide) eq45 ?_
        exact ⟨rfl, N45, trivial⟩
      · refine Go.st (fun _ k' => XS.icmpYes X45.here hx rfl (pc0 := 72) (pc' := 79) rfl (hb hby at_72) rfl (XT.ii_ne_t hc46) (by decide) (by decide) k') ?_
        show Go p e below s _ _ _ (T45.setTop (mkF m 79 #[.val (.int kk), .val (.int vv), .val (.int (13 : Int32)), .val (.ref a_API_VERSIONS), .val (.int (vv.toInt16.toInt32)), .val (.int (0 : Int32))] []))
        refine Go.st (fun _ k' => XS.iconst X45.here hx rfl (hb hby at_79) k') ?_
        show Go p e below s _ _ _ (T45.setTop (mkF m 80 #[.val (.int kk), .val (.int vv), .val (.int (13 : Int32)), .val (.ref a_API_VERSIONS), .val (.int (vv.toInt16.toInt32)), .val (.int (0 : Int32))] [(.int (0 : Int32))]))
        refine Go.retB X45 hx hlk (t := .boolean) Bd.returns (by simp) (hb hby at_80) (by decide) (by decide) eq45 ?_
        exact absurd (by simp [hc44]) hc46
    · refine Go.st (fun _ k' => XS.icmpNo X43.here hx rfl (hb hby at_48) rfl (XT.ii_lt_f hc44) k') ?_
      show Go p e below s _ _ _ (T43.setTop (mkF m 51 #[.val (.int kk), .val (.int vv), .val (.int (13 : Int32)), .val (.ref a_API_VERSIONS), .val (.int (vv.toInt16.toInt32)), .unset] []))
      refine Go.st (fun _ k' => XS.iconst X43.here hx rfl (hb hby at_51) k') ?_
      show Go p e below s _ _ _ (T43.setTop (mkF m 52 #[.val (.int kk), .val (.int vv), .val (.int (13 : Int32)), .val (.ref a_API_VERSIONS), .val (.int (vv.toInt16.toInt32)), .unset] [(.int (1 : Int32))]))
      refine Go.st (fun _ k' => XS.goto X43.here hx rfl (pc0 := 52) (pc' := 56) rfl (hb hby at_52) (by decide) (by decide) k') ?_
      show Go p e below s _ _ _ (T43.setTop (mkF m 56 #[.val (.int kk), .val (.int vv), .val (.int (13 : Int32)), .val (.ref a_API_VERSIONS), .val (.int (vv.toInt16.toInt32)), .unset] [(.int (1 : Int32))]))
      refine Go.st (fun _ k' => XS.istore X43.here hx rfl (hb hby at_56) rfl (l' := #[.val (.int kk), .val (.int vv), .val (.int (13 : Int32)), .val (.ref a_API_VERSIONS), .val (.int (vv.toInt16.toInt32)), .val (.int (1 : Int32))]) rfl k') ?_
      show Go p e below s _ _ _ (T43.setTop (mkF m 58 #[.val (.int kk), .val (.int vv), .val (.int (13 : Int32)), .val (.ref a_API_VERSIONS), .val (.int (vv.toInt16.toInt32)), .val (.int (1 : Int32))] []))
      refine Go.st (fun _ k' => XS.goto X43.here hx rfl (pc0 := 58) (pc' := 64) rfl (hb hby at_58) (by decide) (by decide) k') ?_
      show Go p e below s _ _ _ (T43.setTop (mkF m 64 #[.val (.int kk), .val (.int vv), .val (.int (13 : Int32)), .val (.ref a_API_VERSIONS), .val (.int (vv.toInt16.toInt32)), .val (.int (1 : Int32))] []))
      refine Go.st (fun _ k' => XS.aloadN X43.here hx rfl (hb hby at_64) rfl rfl k') ?_
      show Go p e below s _ _ _ (T43.setTop (mkF m 65 #[.val (.int kk), .val (.int vv), .val (.int (13 : Int32)), .val (.ref a_API_VERSIONS), .val (.int (vv.toInt16.toInt32)), .val (.int (1 : Int32))] [(.ref a_API_VERSIONS)]))
      refine Go.st (fun _ k' => XS.iload X43.here hx rfl (hb hby at_65) rfl k') ?_
      show Go p e below s _ _ _ (T43.setTop (mkF m 67 #[.val (.int kk), .val (.int vv), .val (.int (13 : Int32)), .val (.ref a_API_VERSIONS), .val (.int (vv.toInt16.toInt32)), .val (.int (1 : Int32))] [(.int (vv.toInt16.toInt32)), (.ref a_API_VERSIONS)]))
      obtain ⟨cq47, kq47, q47a, q47b, q47c⟩ := isOf hZ eq43 E_API_VERSIONS
      obtain ⟨_, _, ⟨T47, L47, k47, n47⟩, -, X47, ⟨Lc47, hQ47, l47, y47, z47⟩, st47⟩ := X43.virtualBack hx (y := (⟨"com/example/tenure_of_partitions/tenureofpartitions/ApiKey", "isFlexible", "(S)Z"⟩ : MethodName)) (z := (⟨"com/example/tenure_of_partitions/tenureofpartitions/ApiKey", "isFlexible", "(S)Z"⟩ : MethodName)) hown (mvT hZ (wdx hw 8 rfl)) (mvT hZ (wdx hw 9 rfl)) (notFace_of_selects (args := #[]) (mvT hZ (wdx hw 11 rfl))) (mvT hZ (wdx hw 11 rfl)) (mvT hZ (wdx hw 10 rfl)) (by decide) (backOf (W := 0) (rm2 l Z a0 hw [] a_API_VERSIONS (vv.toInt16.toInt32) (3 : Int32) h0 n0 O0 F_API_VERSIONS_firstFlexibleVersion) hZ (wdx hw 12 rfl) (wdx hw 6 rfl) (by decide) (by decide)) q47a q47c (g := (mkF m 67 #[.val (.int kk), .val (.int vv), .val (.int (13 : Int32)), .val (.ref a_API_VERSIONS), .val (.int (vv.toInt16.toInt32)), .val (.int (1 : Int32))] [(.int (vv.toInt16.toInt32)), (.ref a_API_VERSIONS)])) rfl (by rw [hml]; rfl) (Steps.refl _) (argsL := [(.int (vv.toInt16.toInt32))]) (rest := []) (lenOf pd__S_Z rfl) rfl (by show 2 * 0 + _ ≤ _; exact Nat.le_of_eq rfl) (hb hby at_67) (fun _ _ => ⟨rfl, eq43, (by exact Nat.le_of_ble_eq_true rfl), (by exact Nat.le_of_ble_eq_true rfl)⟩)
      dsimp only [Pt.U, Pt.locs, Pt.cells, Pt.slots] at X47 l47 y47 z47 st47 hQ47
      subst l47 y47 z47
      obtain ⟨rfl, Nq47, eq47⟩ := hQ47
      have N47 := Fr.app N43 Nq47
      refine Go.tr st47 ?_
      show Go p e below s _ _ _ (T47.setTop (mkF m 70 #[.val (.int kk), .val (.int vv), .val (.int (13 : Int32)), .val (.ref a_API_VERSIONS), .val (.int (vv.toInt16.toInt32)), .val (.int (1 : Int32))] [(.int (if (3 : Int32) < 0 then (0 : Int32) else if (vv.toInt16.toInt32) < (3 : Int32) then 0 else 1))]))
      refine Go.st (fun _ k' => XS.iload X47.here hx rfl (hb hby at_70) rfl k') ?_
      show Go p e below s _ _ _ (T47.setTop (mkF m 72 #[.val (.int kk), .val (.int vv), .val (.int (13 : Int32)), .val (.ref a_API_VERSIONS), .val (.int (vv.toInt16.toInt32)), .val (.int (1 : Int32))] [(.int (1 : Int32)), (.int (if (3 : Int32) < 0 then (0 : Int32) else if (vv.toInt16.toInt32) < (3 : Int32) then 0 else 1))]))
      by_cases hc48 : (if (3 : Int32) < 0 then (0 : Int32) else if (vv.toInt16.toInt32) < (3 : Int32) then 0 else 1) = (1 : Int32)
      · refine Go.st (fun _ k' => XS.icmpNo X47.here hx rfl (hb hby at_72) rfl (XT.ii_ne_f hc48) k') ?_
        show Go p e below s _ _ _ (T47.setTop (mkF m 75 #[.val (.int kk), .val (.int vv), .val (.int (13 : Int32)), .val (.ref a_API_VERSIONS), .val (.int (vv.toInt16.toInt32)), .val (.int (1 : Int32))] []))
        refine Go.st (fun _ k' => XS.iconst X47.here hx rfl (hb hby at_75) k') ?_
        show Go p e below s _ _ _ (T47.setTop (mkF m 76 #[.val (.int kk), .val (.int vv), .val (.int (13 : Int32)), .val (.ref a_API_VERSIONS), .val (.int (vv.toInt16.toInt32)), .val (.int (1 : Int32))] [(.int (1 : Int32))]))
        refine Go.st (fun _ k' => XS.goto X47.here hx rfl (pc0 := 76) (pc' := 80) rfl (hb hby at_76) (by decide) (by decide) k') ?_
        show Go p e below s _ _ _ (T47.setTop (mkF m 80 #[.val (.int kk), .val (.int vv), .val (.int (13 : Int32)), .val (.ref a_API_VERSIONS), .val (.int (vv.toInt16.toInt32)), .val (.int (1 : Int32))] [(.int (1 : Int32))]))
        refine Go.retB X47 hx hlk (t := .boolean) Bd.returns (by simp) (hb hby at_80) (by decide) (by decide) eq47 ?_
        exact ⟨rfl, N47, trivial⟩
      · refine Go.st (fun _ k' => XS.icmpYes X47.here hx rfl (pc0 := 72) (pc' := 79) rfl (hb hby at_72) rfl (XT.ii_ne_t hc48) (by decide) (by decide) k') ?_
        show Go p e below s _ _ _ (T47.setTop (mkF m 79 #[.val (.int kk), .val (.int vv), .val (.int (13 : Int32)), .val (.ref a_API_VERSIONS), .val (.int (vv.toInt16.toInt32)), .val (.int (1 : Int32))] []))
        refine Go.st (fun _ k' => XS.iconst X47.here hx rfl (hb hby at_79) k') ?_
        show Go p e below s _ _ _ (T47.setTop (mkF m 80 #[.val (.int kk), .val (.int vv), .val (.int (13 : Int32)), .val (.ref a_API_VERSIONS), .val (.int (vv.toInt16.toInt32)), .val (.int (1 : Int32))] [(.int (0 : Int32))]))
        refine Go.retB X47 hx hlk (t := .boolean) Bd.returns (by simp) (hb hby at_80) (by decide) (by decide) eq47 ?_
        exact absurd (by simp [hc44]) hc48
set_option maxRecDepth 65536 in
set_option maxHeartbeats 40000000 in
theorem comes_1 {Post : Tables → Env → Array Value → State → Outcome → State → Prop} (hpost : ∀ tb e args s v u, (limb_1_1.after args s (.returned v) u = true ∧ limb_1_2.after args s (.returned v) u = true ∧ True) → FrameEnd s (.returned v) u (Jvm.fieldLocs frame_1_writes args s ++ Jvm.arrayLocs frame_1_arrays args s ++ Jvm.staticLocs frame_1_statics s) 0 0 → Post tb e args s (.returned v) u) :
    ArmFor flags0 classFile x code maxLocals ret World_1 tables_1 room_1 Calls_1 rest_1 Pre_1 Post := by
  intro l hfl _ _ p e ha hc hk s m args below hf hA hF happ hP
  obtain ⟨hcalls, hrest, hpre⟩ := hP
  obtain ⟨-, -, -, hnamed, -, -, -, hat⟩ := (Spec.applies_iff hf).mp happ
  obtain ⟨hg, hn⟩ := and_e (Cond.before_iff.mp (show (Jvm.Cond.and given_1 narrow_1).before args s = true from hpre))
  obtain ⟨hcnt, hg0⟩ := and_e hg
  obtain ⟨ha0, hg1⟩ := and_e hg0
  have ha1 := hg1
  obtain ⟨w0, w1, rfl⟩ : ∃ w0 w1 : Value, args = #[w0, w1] := by
    have hs : args.size = 2 := by simpa [Cond.value, given_1] using hcnt
    obtain ⟨L⟩ := args
    match L, hs with
    | [w0, w1], _ => exact ⟨w0, w1, rfl⟩
  have hw := fun d (hd : d ∈ tables_1) => atoms_spec (ws := Jvm.Cond.code x code maxLocals ret :: tables_1) hat d (List.mem_cons_of_mem _ hd)
  have hfit : Fit s := fun {y c} hc i hi => by
    obtain ⟨ha, rfl⟩ := Array.getElem?_eq_some_iff.mp hc
    have q := List.all_eq_true.mp ((Array.all_eq_true_iff_forall_mem.mp hF) _ (Array.getElem_mem ha)) i (List.mem_range.mpr hi)
    simpa [Array.getElem?_eq_getElem hi] using q
  obtain ⟨i0, ei0⟩ := is_v ha0
  obtain rfl : w0 = (.int i0) := Option.some.inj ei0
  obtain ⟨i1, ei1⟩ := is_v ha1
  obtain rfl : w1 = (.int i1) := Option.some.inj ei1
  obtain ⟨hn0, hm0⟩ := and_e hn
  obtain ⟨hn1, hm1⟩ := and_e hm0
  obtain ⟨hn2, hm2⟩ := and_e hm1
  obtain ⟨hn3, hm3⟩ := and_e hm2
  obtain ⟨hn4, hm4⟩ := and_e hm3
  obtain ⟨hn5, hm5⟩ := and_e hm4
  obtain ⟨hn6, hm6⟩ := and_e hm5
  obtain ⟨hn7, hm7⟩ := and_e hm6
  obtain ⟨hn8, hm8⟩ := and_e hm7
  obtain ⟨hn9, hm9⟩ := and_e hm8
  obtain ⟨hn10, hm10⟩ := and_e hm9
  obtain ⟨hn11, hm11⟩ := and_e hm10
  obtain ⟨hn12, hm12⟩ := and_e hm11
  obtain ⟨hn13, hm13⟩ := and_e hm12
  obtain ⟨hn14, hm14⟩ := and_e hm13
  obtain ⟨hn15, hm15⟩ := and_e hm14
  obtain ⟨hn16, hm16⟩ := and_e hm15
  obtain ⟨hn17, hm17⟩ := and_e hm16
  obtain ⟨hn18, hm18⟩ := and_e hm17
  obtain ⟨hn19, hm19⟩ := and_e hm18
  obtain ⟨hn20, hm20⟩ := and_e hm19
  obtain ⟨hn21, hm21⟩ := and_e hm20
  obtain ⟨hn22, hm22⟩ := and_e hm21
  obtain ⟨hn23, hm23⟩ := and_e hm22
  obtain ⟨hn24, hm24⟩ := and_e hm23
  obtain ⟨hn25, hm25⟩ := and_e hm24
  obtain ⟨hn26, hm26⟩ := and_e hm25
  have hn27 := hm26
  obtain ⟨a_PRODUCE, ev_PRODUCE, S_PRODUCE, E_PRODUCE⟩ := own_en hn0 (wdx hw 6 rfl) (wdx hw 7 rfl)
  obtain ⟨a_SYNC_GROUP, ev_SYNC_GROUP, S_SYNC_GROUP, E_SYNC_GROUP⟩ := own_en hn2 (wdx hw 6 rfl) (wdx hw 16 rfl)
  obtain ⟨a_HEARTBEAT, ev_HEARTBEAT, S_HEARTBEAT, E_HEARTBEAT⟩ := own_en hn4 (wdx hw 6 rfl) (wdx hw 18 rfl)
  obtain ⟨a_OFFSET_COMMIT, ev_OFFSET_COMMIT, S_OFFSET_COMMIT, E_OFFSET_COMMIT⟩ := own_en hn6 (wdx hw 6 rfl) (wdx hw 20 rfl)
  obtain ⟨a_DESCRIBE_GROUPS, ev_DESCRIBE_GROUPS, S_DESCRIBE_GROUPS, E_DESCRIBE_GROUPS⟩ := own_en hn8 (wdx hw 6 rfl) (wdx hw 22 rfl)
  obtain ⟨a_FIND_COORDINATOR, ev_FIND_COORDINATOR, S_FIND_COORDINATOR, E_FIND_COORDINATOR⟩ := own_en hn10 (wdx hw 6 rfl) (wdx hw 24 rfl)
  obtain ⟨a_LIST_GROUPS, ev_LIST_GROUPS, S_LIST_GROUPS, E_LIST_GROUPS⟩ := own_en hn12 (wdx hw 6 rfl) (wdx hw 26 rfl)
  obtain ⟨a_JOIN_GROUP, ev_JOIN_GROUP, S_JOIN_GROUP, E_JOIN_GROUP⟩ := own_en hn14 (wdx hw 6 rfl) (wdx hw 28 rfl)
  obtain ⟨a_METADATA, ev_METADATA, S_METADATA, E_METADATA⟩ := own_en hn16 (wdx hw 6 rfl) (wdx hw 30 rfl)
  obtain ⟨a_OFFSET_FETCH, ev_OFFSET_FETCH, S_OFFSET_FETCH, E_OFFSET_FETCH⟩ := own_en hn18 (wdx hw 6 rfl) (wdx hw 32 rfl)
  obtain ⟨a_FETCH, ev_FETCH, S_FETCH, E_FETCH⟩ := own_en hn20 (wdx hw 6 rfl) (wdx hw 34 rfl)
  obtain ⟨a_LIST_OFFSETS, ev_LIST_OFFSETS, S_LIST_OFFSETS, E_LIST_OFFSETS⟩ := own_en hn22 (wdx hw 6 rfl) (wdx hw 36 rfl)
  obtain ⟨a_API_VERSIONS, ev_API_VERSIONS, S_API_VERSIONS, E_API_VERSIONS⟩ := own_en hn24 (wdx hw 6 rfl) (wdx hw 38 rfl)
  obtain ⟨a_LEAVE_GROUP, ev_LEAVE_GROUP, S_LEAVE_GROUP, E_LEAVE_GROUP⟩ := own_en hn26 (wdx hw 6 rfl) (wdx hw 40 rfl)
  have F_PRODUCE_firstFlexibleVersion := own_ef ev_PRODUCE hn1
  have F_SYNC_GROUP_firstFlexibleVersion := own_ef ev_SYNC_GROUP hn3
  have F_HEARTBEAT_firstFlexibleVersion := own_ef ev_HEARTBEAT hn5
  have F_OFFSET_COMMIT_firstFlexibleVersion := own_ef ev_OFFSET_COMMIT hn7
  have F_DESCRIBE_GROUPS_firstFlexibleVersion := own_ef ev_DESCRIBE_GROUPS hn9
  have F_FIND_COORDINATOR_firstFlexibleVersion := own_ef ev_FIND_COORDINATOR hn11
  have F_LIST_GROUPS_firstFlexibleVersion := own_ef ev_LIST_GROUPS hn13
  have F_JOIN_GROUP_firstFlexibleVersion := own_ef ev_JOIN_GROUP hn15
  have F_METADATA_firstFlexibleVersion := own_ef ev_METADATA hn17
  have F_OFFSET_FETCH_firstFlexibleVersion := own_ef ev_OFFSET_FETCH hn19
  have F_FETCH_firstFlexibleVersion := own_ef ev_FETCH hn21
  have F_LIST_OFFSETS_firstFlexibleVersion := own_ef ev_LIST_OFFSETS hn23
  have F_API_VERSIONS_firstFlexibleVersion := own_ef ev_API_VERSIONS hn25
  have F_LEAVE_GROUP_firstFlexibleVersion := own_ef ev_LEAVE_GROUP hn27
  obtain ⟨n, o, h1, h2, h3, _, L, rfl, ⟨rfl, N, -⟩, hq⟩ := rm0 l s _ hw tables_1 i0 i1 a_PRODUCE a_FETCH a_LIST_OFFSETS a_METADATA a_OFFSET_COMMIT a_OFFSET_FETCH a_FIND_COORDINATOR a_JOIN_GROUP a_HEARTBEAT a_LEAVE_GROUP a_SYNC_GROUP a_DESCRIBE_GROUPS a_LIST_GROUPS a_API_VERSIONS s.heap s.heap.size (Old.start s) E_PRODUCE E_FETCH E_LIST_OFFSETS E_METADATA E_OFFSET_COMMIT E_OFFSET_FETCH E_FIND_COORDINATOR E_JOIN_GROUP E_HEARTBEAT E_LEAVE_GROUP E_SYNC_GROUP E_DESCRIBE_GROUPS E_LIST_GROUPS E_API_VERSIONS F_PRODUCE_firstFlexibleVersion F_FETCH_firstFlexibleVersion F_LIST_OFFSETS_firstFlexibleVersion F_METADATA_firstFlexibleVersion F_OFFSET_COMMIT_firstFlexibleVersion F_OFFSET_FETCH_firstFlexibleVersion F_FIND_COORDINATOR_firstFlexibleVersion F_JOIN_GROUP_firstFlexibleVersion F_HEARTBEAT_firstFlexibleVersion F_LEAVE_GROUP_firstFlexibleVersion F_SYNC_GROUP_firstFlexibleVersion F_DESCRIBE_GROUPS_firstFlexibleVersion F_LIST_GROUPS_firstFlexibleVersion F_API_VERSIONS_firstFlexibleVersion S_PRODUCE S_FETCH S_LIST_OFFSETS S_METADATA S_OFFSET_COMMIT S_OFFSET_FETCH S_FIND_COORDINATOR S_JOIN_GROUP S_HEARTBEAT S_LEAVE_GROUP S_SYNC_GROUP S_DESCRIBE_GROUPS S_LIST_GROUPS S_API_VERSIONS  p e ha hc hk s m _ below hf ((Spec.applies_iff_loose hf).mp happ).1 ⟨rfl, State.Warmed39.refl s, rfl⟩ trivial
  refine ⟨n, _, h1, h2, h3, hpost _ _ _ _ _ _ ⟨Cond.after_iff.mpr rfl, Cond.after_iff.mpr (eq_i res_at (Term.int_eval (1)) rfl), trivial⟩ ⟨hq.1, hq.2.1, (hq.2.2.sift fun y hy => Or.inr (N y hy)).mono (by decide) (by decide)⟩⟩
theorem main_1_1 : Claimed_1_1 := comes_1 fun _ _ _ _ _ _ h hF => ⟨h.1, hF⟩
theorem main_1_2 : Claimed_1_2 := comes_1 fun _ _ _ _ _ _ h hF => ⟨h.2.1, hF⟩
end Jvm.Pilot.@@N@@
namespace Jvm.Pilot.@@N@@
open Jvm Jvm.ClassFile Sem Op Lib Jvm.Free Jvm.Stand Jvm.Pilot.@@N@@.Jvm.D
/-! MADE BY PROGRAM (witnessworld.py) out of the Statement's table words and the real class files: 12 classes; the members and pool entries that the words name. The judged class is class 1, her method 1. -/
namespace start1
open Jvm.ClassFile
def u (s : String) : CpInfo := .utf8 (stringToUtf16 s)
/-- a pool by its gaps: so many unusable entries, then the entry; so many at the end -/
def gap : Nat → List CpInfo → List CpInfo
  | 0, r => r
  | n + 1, r => .unusable :: gap n r
def poolList (es : List (Nat × CpInfo)) (last : Nat) : List CpInfo := es.foldr (fun e r => gap e.1 (e.2 :: r)) (gap last [])
def pool (es : List (Nat × CpInfo)) (last : Nat) : Array CpInfo := ⟨poolList es last⟩
def fileOf (pool : Array CpInfo) (this : Nat) (attrs : Array Attribute := #[]) (ms : Array MethodInfo := #[]) (fl : Nat := 33) (sup : Nat := 0) (ifs : Array Nat := #[]) (fds : Array FieldInfo := #[]) : ClassFile where
  minorVersion := 0
  majorVersion := 65
  constantPool := pool
  accessFlags := fl
  thisClass := this
  superClass := sup
  interfaces := ifs
  fields := fds
  methods := ms
  attributes := attrs
def plain (name : String) (sup : Option ClassId) : Class where
  name := name
  kind := .ordinary
  loader := none
  accessFlags := 33
  super := sup
  interfaces := #[]
  cf := none
  fields := #[]
  methods := #[]
  instanceTypes := #[]
  staticTypes := #[]
  resolved := #[]
  callSites := []
  init := .initialized
  statics := none
  mirror := none

def pool0 : Array CpInfo := pool [(5, u "<init>"), (0, u "()V"), (1, .class_ 10), (1, u "java/lang/Object")] 113

def k0m0 : Method := { name := "<init>", desc := "()V", sig := { parameters := [], returnType := none }, accessFlags := 1, code := none }
/-- java/lang/Object -/
def k0 : Class := { plain "java/lang/Object" none with
  accessFlags := 33
  interfaces := #[]
  cf := some (fileOf pool0 8 #[] #[{ accessFlags := 1, nameIndex := 5, descriptorIndex := 6, attributes := #[] }] 33 0 #[] #[])
  fields := #[]
  methods := #[k0m0]
  instanceTypes := #[]
  staticTypes := #[]
  resolved := Array.replicate 124 none
  statics := none }

def pool1 : Array CpInfo := pool [(2, .class_ 4), (1, u "java/lang/Object"), (0, u "<init>"), (0, u "()V"), (0, .integer 2147483647), (0, .methodref 9 10), (0, .class_ 11), (0, .nameAndType 12 13), (0, u "com/example/tenure_of_partitions/tenureofpartitions/ApiKeyIsFlexiblePinLaw"), (0, u "pick"), (0, u "(I)Lcom/example/tenure_of_partitions/tenureofpartitions/ApiKey;"), (0, .methodref 15 16), (0, .class_ 17), (0, .nameAndType 18 19), (0, u "com/example/tenure_of_partitions/tenureofpartitions/ApiKey"), (0, u "isFlexible"), (0, u "(S)Z"), (0, .fieldref 15 21), (0, .nameAndType 22 23), (0, u "PRODUCE"), (0, u "Lcom/example/tenure_of_partitions/tenureofpartitions/ApiKey;"), (0, .fieldref 15 25), (0, .nameAndType 26 23), (0, u "FETCH"), (0, .fieldref 15 28), (0, .nameAndType 29 23), (0, u "LIST_OFFSETS"), (0, .fieldref 15 31), (0, .nameAndType 32 23), (0, u "METADATA"), (0, .fieldref 15 34), (0, .nameAndType 35 23), (0, u "OFFSET_COMMIT"), (0, .fieldref 15 37), (0, .nameAndType 38 23), (0, u "OFFSET_FETCH"), (0, .fieldref 15 40), (0, .nameAndType 41 23), (0, u "FIND_COORDINATOR"), (0, .fieldref 15 43), (0, .nameAndType 44 23), (0, u "JOIN_GROUP"), (0, .fieldref 15 46), (0, .nameAndType 47 23), (0, u "HEARTBEAT"), (0, .fieldref 15 49), (0, .nameAndType 50 23), (0, u "LEAVE_GROUP"), (0, .fieldref 15 52), (0, .nameAndType 53 23), (0, u "SYNC_GROUP"), (0, .fieldref 15 55), (0, .nameAndType 56 23), (0, u "DESCRIBE_GROUPS"), (0, .fieldref 15 58), (0, .nameAndType 59 23), (0, u "LIST_GROUPS"), (0, .fieldref 15 61), (0, .nameAndType 62 23), (0, u "API_VERSIONS"), (2, u "law"), (0, u "(II)Z")] 3

def k1m0 : Method := { name := "<init>", desc := "()V", sig := { parameters := [], returnType := none }, accessFlags := 1, code := none }
def k1c1 : Code := { maxStack := 2, maxLocals := 6, code := code, exceptionTable := #[], attributes := #[] }
def k1m1 : Method := { name := "law", desc := "(II)Z", sig := { parameters := [.int, .int], returnType := some .boolean }, accessFlags := 9, code := some k1c1 }
def k1c2 : Code := { maxStack := 2, maxLocals := 1, code := method_3_code, exceptionTable := #[], attributes := #[] }
def k1m2 : Method := { name := "pick", desc := "(I)Lcom/example/tenure_of_partitions/tenureofpartitions/ApiKey;", sig := { parameters := [.int], returnType := some (.object "com/example/tenure_of_partitions/tenureofpartitions/ApiKey") }, accessFlags := 10, code := some k1c2 }
/-- com/example/tenure_of_partitions/tenureofpartitions/ApiKeyIsFlexiblePinLaw -/
def k1 : Class := { plain "com/example/tenure_of_partitions/tenureofpartitions/ApiKeyIsFlexiblePinLaw" (some 0) with
  accessFlags := 49
  interfaces := #[]
  cf := some (fileOf pool1 9 #[] #[{ accessFlags := 1, nameIndex := 5, descriptorIndex := 6, attributes := #[] }, { accessFlags := 9, nameIndex := 65, descriptorIndex := 66, attributes := #[] }, { accessFlags := 10, nameIndex := 12, descriptorIndex := 13, attributes := #[] }] 49 2 #[] #[])
  fields := #[]
  methods := #[k1m0, k1m1, k1m2]
  instanceTypes := #[]
  staticTypes := #[]
  resolved := Array.replicate 70 none
  statics := none }

def pool2 : Array CpInfo := pool [(1, .class_ 2), (0, u "java/lang/constant/Constable"), (0, .class_ 4), (0, u "java/lang/Object")] 6

/-- java/lang/constant/Constable -/
def k2 : Class := { plain "java/lang/constant/Constable" (some 0) with
  accessFlags := 1537
  interfaces := #[]
  cf := some (fileOf pool2 1 #[] #[] 1537 3 #[] #[])
  fields := #[]
  methods := #[]
  instanceTypes := #[]
  staticTypes := #[]
  resolved := Array.replicate 11 none
  statics := none }

def pool3 : Array CpInfo := pool [(1, .class_ 2), (0, u "java/lang/Comparable"), (0, .class_ 4), (0, u "java/lang/Object")] 7

/-- java/lang/Comparable -/
def k3 : Class := { plain "java/lang/Comparable" (some 0) with
  accessFlags := 1537
  interfaces := #[]
  cf := some (fileOf pool3 1 #[] #[] 1537 3 #[] #[])
  fields := #[]
  methods := #[]
  instanceTypes := #[]
  staticTypes := #[]
  resolved := Array.replicate 12 none
  statics := none }

def pool4 : Array CpInfo := pool [(1, .class_ 2), (0, u "java/io/Serializable"), (0, .class_ 4), (0, u "java/lang/Object")] 2

/-- java/io/Serializable -/
def k4 : Class := { plain "java/io/Serializable" (some 0) with
  accessFlags := 1537
  interfaces := #[]
  cf := some (fileOf pool4 1 #[] #[] 1537 3 #[] #[])
  fields := #[]
  methods := #[]
  instanceTypes := #[]
  staticTypes := #[]
  resolved := Array.replicate 7 none
  statics := none }

def pool5 : Array CpInfo := pool [(2, .class_ 4), (1, u "java/lang/Enum"), (0, u "name"), (0, u "Ljava/lang/String;"), (2, u "ordinal"), (0, u "I"), (1, .class_ 14), (1, u "java/lang/Object"), (4, u "hash"), (86, .class_ 108), (1, u "java/lang/Enum$EnumDesc"), (2, .class_ 112), (0, u "java/lang/constant/Constable"), (0, .class_ 114), (0, u "java/lang/Comparable"), (0, .class_ 116), (0, u "java/io/Serializable")] 87

/-- java/lang/Enum -/
def k5 : Class := { plain "java/lang/Enum" (some 0) with
  accessFlags := 1057
  interfaces := #[2, 3, 4]
  cf := some (fileOf pool5 2 #[.nestMembers #[106]] #[] 1057 12 #[111, 113, 115] #[{ accessFlags := 18, nameIndex := 5, descriptorIndex := 6, attributes := #[] }, { accessFlags := 18, nameIndex := 9, descriptorIndex := 10, attributes := #[] }, { accessFlags := 2, nameIndex := 19, descriptorIndex := 10, attributes := #[] }])
  fields := #[{ name := "name", type := (.object "java/lang/String"), accessFlags := 18, slot := 0, constantValue := 0 }, { name := "ordinal", type := .int, accessFlags := 18, slot := 1, constantValue := 0 }, { name := "hash", type := .int, accessFlags := 2, slot := 2, constantValue := 0 }]
  methods := #[]
  instanceTypes := #[(.object "java/lang/String"), .int, .int]
  staticTypes := #[]
  resolved := Array.replicate 204 none
  statics := none }

def pool6 : Array CpInfo := pool [(1, .class_ 2), (0, u "com/example/tenure_of_partitions/tenureofpartitions/ApiKey"), (2, u "PRODUCE"), (0, u "Lcom/example/tenure_of_partitions/tenureofpartitions/ApiKey;"), (2, u "FETCH"), (2, u "LIST_OFFSETS"), (2, u "METADATA"), (2, u "OFFSET_COMMIT"), (2, u "OFFSET_FETCH"), (2, u "FIND_COORDINATOR"), (2, u "JOIN_GROUP"), (2, u "HEARTBEAT"), (2, u "LEAVE_GROUP"), (2, u "SYNC_GROUP"), (2, u "DESCRIBE_GROUPS"), (2, u "LIST_GROUPS"), (2, u "API_VERSIONS"), (2, u "$VALUES"), (0, u "[Lcom/example/tenure_of_partitions/tenureofpartitions/ApiKey;"), (6, .class_ 58), (1, u "java/lang/Enum"), (8, u "key"), (0, u "S"), (2, u "minVersion"), (2, u "maxVersion"), (0, .fieldref 1 76), (0, .nameAndType 77 78), (0, u "firstFlexibleVersion"), (0, u "I"), (7, u "(S)Z"), (2, u "isFlexible")] 41

def k6c0 : Code := { maxStack := 2, maxLocals := 2, code := prog_1_method_10_code, exceptionTable := #[], attributes := #[] }
def k6m0 : Method := { name := "isFlexible", desc := "(S)Z", sig := { parameters := [.short], returnType := some .boolean }, accessFlags := 0, code := some k6c0 }
/-- com/example/tenure_of_partitions/tenureofpartitions/ApiKey -/
def k6 : Class := { plain "com/example/tenure_of_partitions/tenureofpartitions/ApiKey" (some 5) with
  accessFlags := 16432
  interfaces := #[]
  cf := some (fileOf pool6 1 #[] #[{ accessFlags := 0, nameIndex := 89, descriptorIndex := 86, attributes := #[] }] 16432 56 #[] #[{ accessFlags := 16409, nameIndex := 5, descriptorIndex := 6, attributes := #[] }, { accessFlags := 16409, nameIndex := 9, descriptorIndex := 6, attributes := #[] }, { accessFlags := 16409, nameIndex := 12, descriptorIndex := 6, attributes := #[] }, { accessFlags := 16409, nameIndex := 15, descriptorIndex := 6, attributes := #[] }, { accessFlags := 16409, nameIndex := 18, descriptorIndex := 6, attributes := #[] }, { accessFlags := 16409, nameIndex := 21, descriptorIndex := 6, attributes := #[] }, { accessFlags := 16409, nameIndex := 24, descriptorIndex := 6, attributes := #[] }, { accessFlags := 16409, nameIndex := 27, descriptorIndex := 6, attributes := #[] }, { accessFlags := 16409, nameIndex := 30, descriptorIndex := 6, attributes := #[] }, { accessFlags := 16409, nameIndex := 33, descriptorIndex := 6, attributes := #[] }, { accessFlags := 16409, nameIndex := 36, descriptorIndex := 6, attributes := #[] }, { accessFlags := 16409, nameIndex := 39, descriptorIndex := 6, attributes := #[] }, { accessFlags := 16409, nameIndex := 42, descriptorIndex := 6, attributes := #[] }, { accessFlags := 16409, nameIndex := 45, descriptorIndex := 6, attributes := #[] }, { accessFlags := 18, nameIndex := 67, descriptorIndex := 68, attributes := #[] }, { accessFlags := 18, nameIndex := 71, descriptorIndex := 68, attributes := #[] }, { accessFlags := 18, nameIndex := 74, descriptorIndex := 68, attributes := #[] }, { accessFlags := 18, nameIndex := 77, descriptorIndex := 78, attributes := #[] }, { accessFlags := 4122, nameIndex := 48, descriptorIndex := 49, attributes := #[] }])
  fields := #[{ name := "PRODUCE", type := (.object "com/example/tenure_of_partitions/tenureofpartitions/ApiKey"), accessFlags := 16409, slot := 0, constantValue := 0 }, { name := "FETCH", type := (.object "com/example/tenure_of_partitions/tenureofpartitions/ApiKey"), accessFlags := 16409, slot := 1, constantValue := 0 }, { name := "LIST_OFFSETS", type := (.object "com/example/tenure_of_partitions/tenureofpartitions/ApiKey"), accessFlags := 16409, slot := 2, constantValue := 0 }, { name := "METADATA", type := (.object "com/example/tenure_of_partitions/tenureofpartitions/ApiKey"), accessFlags := 16409, slot := 3, constantValue := 0 }, { name := "OFFSET_COMMIT", type := (.object "com/example/tenure_of_partitions/tenureofpartitions/ApiKey"), accessFlags := 16409, slot := 4, constantValue := 0 }, { name := "OFFSET_FETCH", type := (.object "com/example/tenure_of_partitions/tenureofpartitions/ApiKey"), accessFlags := 16409, slot := 5, constantValue := 0 }, { name := "FIND_COORDINATOR", type := (.object "com/example/tenure_of_partitions/tenureofpartitions/ApiKey"), accessFlags := 16409, slot := 6, constantValue := 0 }, { name := "JOIN_GROUP", type := (.object "com/example/tenure_of_partitions/tenureofpartitions/ApiKey"), accessFlags := 16409, slot := 7, constantValue := 0 }, { name := "HEARTBEAT", type := (.object "com/example/tenure_of_partitions/tenureofpartitions/ApiKey"), accessFlags := 16409, slot := 8, constantValue := 0 }, { name := "LEAVE_GROUP", type := (.object "com/example/tenure_of_partitions/tenureofpartitions/ApiKey"), accessFlags := 16409, slot := 9, constantValue := 0 }, { name := "SYNC_GROUP", type := (.object "com/example/tenure_of_partitions/tenureofpartitions/ApiKey"), accessFlags := 16409, slot := 10, constantValue := 0 }, { name := "DESCRIBE_GROUPS", type := (.object "com/example/tenure_of_partitions/tenureofpartitions/ApiKey"), accessFlags := 16409, slot := 11, constantValue := 0 }, { name := "LIST_GROUPS", type := (.object "com/example/tenure_of_partitions/tenureofpartitions/ApiKey"), accessFlags := 16409, slot := 12, constantValue := 0 }, { name := "API_VERSIONS", type := (.object "com/example/tenure_of_partitions/tenureofpartitions/ApiKey"), accessFlags := 16409, slot := 13, constantValue := 0 }, { name := "key", type := .short, accessFlags := 18, slot := 3, constantValue := 0 }, { name := "minVersion", type := .short, accessFlags := 18, slot := 4, constantValue := 0 }, { name := "maxVersion", type := .short, accessFlags := 18, slot := 5, constantValue := 0 }, { name := "firstFlexibleVersion", type := .int, accessFlags := 18, slot := 6, constantValue := 0 }, { name := "$VALUES", type := (.array (.object "com/example/tenure_of_partitions/tenureofpartitions/ApiKey")), accessFlags := 4122, slot := 14, constantValue := 0 }]
  methods := #[k6m0]
  instanceTypes := #[(.object "java/lang/String"), .int, .int, .short, .short, .short, .int]
  staticTypes := #[(.object "com/example/tenure_of_partitions/tenureofpartitions/ApiKey"), (.object "com/example/tenure_of_partitions/tenureofpartitions/ApiKey"), (.object "com/example/tenure_of_partitions/tenureofpartitions/ApiKey"), (.object "com/example/tenure_of_partitions/tenureofpartitions/ApiKey"), (.object "com/example/tenure_of_partitions/tenureofpartitions/ApiKey"), (.object "com/example/tenure_of_partitions/tenureofpartitions/ApiKey"), (.object "com/example/tenure_of_partitions/tenureofpartitions/ApiKey"), (.object "com/example/tenure_of_partitions/tenureofpartitions/ApiKey"), (.object "com/example/tenure_of_partitions/tenureofpartitions/ApiKey"), (.object "com/example/tenure_of_partitions/tenureofpartitions/ApiKey"), (.object "com/example/tenure_of_partitions/tenureofpartitions/ApiKey"), (.object "com/example/tenure_of_partitions/tenureofpartitions/ApiKey"), (.object "com/example/tenure_of_partitions/tenureofpartitions/ApiKey"), (.object "com/example/tenure_of_partitions/tenureofpartitions/ApiKey"), (.array (.object "com/example/tenure_of_partitions/tenureofpartitions/ApiKey"))]
  resolved := Array.replicate 131 none
  statics := some 0 }

def pool7 : Array CpInfo := pool [(1, u "java/lang/Cloneable"), (0, .class_ 1), (0, u "java/lang/Object"), (0, .class_ 3)] 3

/-- java/lang/Cloneable -/
def k7 : Class := { plain "java/lang/Cloneable" (some 0) with
  accessFlags := 1537
  interfaces := #[]
  cf := some (fileOf pool7 2 #[] #[] 1537 4 #[] #[])
  fields := #[]
  methods := #[]
  instanceTypes := #[]
  staticTypes := #[]
  resolved := Array.replicate 8 none
  statics := none }

/-- the primitive byte -/
def k8 : Class := { plain "byte" none with kind := .primitive 'B', accessFlags := 0x411 }
/-- [B -/
def k9 : Class := { plain "[B" (some 0) with kind := .array 8 .byte, interfaces := #[7, 4], accessFlags := 1041 }

/-- the primitive int -/
def k10 : Class := { plain "int" none with kind := .primitive 'I', accessFlags := 0x411 }
/-- [I -/
def k11 : Class := { plain "[I" (some 0) with kind := .array 10 .int, interfaces := #[7, 4], accessFlags := 1041 }

def heap : Heap := #[{ cls := 6, slots := #[.ref 1, .ref 11, .ref 12, .ref 9, .ref 4, .ref 10, .ref 6, .ref 8, .ref 3, .ref 14, .ref 2, .ref 5, .ref 7, .ref 13, .null], vm := .statics 6 },
  { cls := 6, slots := #[.null, .int 0, .int 0, .int 0, .int 0, .int 0, .int (-1)], vm := .none },
  { cls := 6, slots := #[.null, .int 0, .int 0, .int 0, .int 0, .int 0, .int (-1)], vm := .none },
  { cls := 6, slots := #[.null, .int 0, .int 0, .int 0, .int 0, .int 0, .int (-1)], vm := .none },
  { cls := 6, slots := #[.null, .int 0, .int 0, .int 0, .int 0, .int 0, .int (-1)], vm := .none },
  { cls := 6, slots := #[.null, .int 0, .int 0, .int 0, .int 0, .int 0, .int (-1)], vm := .none },
  { cls := 6, slots := #[.null, .int 0, .int 0, .int 0, .int 0, .int 0, .int (-1)], vm := .none },
  { cls := 6, slots := #[.null, .int 0, .int 0, .int 0, .int 0, .int 0, .int (-1)], vm := .none },
  { cls := 6, slots := #[.null, .int 0, .int 0, .int 0, .int 0, .int 0, .int (-1)], vm := .none },
  { cls := 6, slots := #[.null, .int 0, .int 0, .int 0, .int 0, .int 0, .int (-1)], vm := .none },
  { cls := 6, slots := #[.null, .int 0, .int 0, .int 0, .int 0, .int 0, .int 6], vm := .none },
  { cls := 6, slots := #[.null, .int 0, .int 0, .int 0, .int 0, .int 0, .int (-1)], vm := .none },
  { cls := 6, slots := #[.null, .int 0, .int 0, .int 0, .int 0, .int 0, .int (-1)], vm := .none },
  { cls := 6, slots := #[.null, .int 0, .int 0, .int 0, .int 0, .int 0, .int 3], vm := .none },
  { cls := 6, slots := #[.null, .int 0, .int 0, .int 0, .int 0, .int 0, .int (-1)], vm := .none }]
def classes : Array Class := #[k0, k1, k2, k3, k4, k5, k6, k7, k8, k9, k10, k11]
def interned : List (Array UInt16 × Addr) := []
def slotsUsed : Nat := 113
def theMethod : MethodId := ⟨1, 1⟩
def args0 : Array Value := #[.int 5, .int 5]
def aboutOver (below : List Frame) : State where
  vm := { classes := classes, interned := interned.toArray }
  heap := heap
  slotsUsed := slotsUsed
  threads := #[{ frames := .invoking theMethod args0 :: below }]
def below0 : List Frame := [.native { method := ⟨0, 0⟩, args := #[] }]
def about1 : State := aboutOver below0
def p0 : Program := .bare "" "" ""
def e0 : Env := launch0.env 0 0 0
theorem w_frames : about1.frames = Frame.invoking theMethod args0 :: below0 := rfl
set_option maxRecDepth 65536 in
theorem w_args : argsFit about1.vm theMethod args0 = true := by decide +kernel
set_option maxRecDepth 65536 in
theorem w_heap : heapFits about1 = true := by decide +kernel
set_option maxRecDepth 65536 in
theorem w_runnable : about1.curStatus? = some .runnable := by decide +kernel
set_option maxRecDepth 65536 in
theorem w_alone : about1.alone = true := by decide +kernel
set_option maxRecDepth 65536 in
theorem w_named : about1.methodNamed? x = some theMethod := by decide +kernel
set_option maxRecDepth 65536 in
theorem w_hears : about1.hears theMethod below0 = true := by decide +kernel
set_option maxRecDepth 65536 in
theorem w_ripe : about1.ripe theMethod args0 below0 = true := by decide +kernel
theorem w_running : about1.status = .running := rfl
set_option maxRecDepth 65536 in
theorem w_room : about1.hasRoom e0.platform room_1 = true :=
  launch0.hasRoom_least _ room_1 (by decide +kernel) (by decide +kernel) (by decide +kernel) (by decide +kernel) (by decide +kernel) (by decide +kernel)
theorem allAtoms_all (ts : List Jvm.Cond) (a : Array Jvm.Value) (st : Jvm.State) : (allAtoms ts).before a st = ts.all (fun c => c.before a st) := by
  induction ts with
  | nil => rfl
  | cons c t ih =>
    show (Jvm.Cond.and c (allAtoms t)).before a st = _
    rw [Jvm.Cond.before_and, ih, List.all_cons]
def words1 : List Jvm.Cond := Jvm.Cond.code x code maxLocals ret :: tables_1
/-- a 'code' word, met by the world's own term for the bytes: nothing is compared byte by byte -/
theorem code_word {y : MethodName} {bytes : ByteArray} {mx : Nat} {rt : Option FieldType} {a : Array Value} {s : State} {m : MethodId} {meth : Method} {c : Code} (h1 : s.methodNamed? y = some m) (h2 : s.vm.method? m = some meth) (h3 : meth.code = some c) (h4 : c.code = bytes)
    (h5 : (c.maxLocals == mx && c.exceptionTable.isEmpty && decide (c.maxStack ≤ mostOperands) && decide (meth.sig.returnType = rt) && !meth.locks && decide (parseMethodDescriptor y.desc = some meth.sig)) = true) : (Jvm.Cond.code y bytes mx rt).before a s = true := by
  simp only [Bool.and_eq_true, beq_iff_eq, Bool.not_eq_true', decide_eq_true_eq] at h5
  obtain ⟨⟨⟨⟨⟨g1, g2⟩, g3⟩, g4⟩, g5⟩, g6⟩ := h5
  simp [Cond.before, Cond.holds, Cond.value, h1, h2, h3, h4, g1, g2, g3, g4, g5, g6]
def isCode : Jvm.Cond → Bool
  | .code _ _ _ _ => true
  | _ => false
theorem all_split {L : List Jvm.Cond} {P : Jvm.Cond → Bool} (h1 : L.all (fun c => isCode c || P c) = true) (h2 : ∀ c ∈ L.filter isCode, P c = true) : L.all P = true := by
  refine List.all_eq_true.mpr fun c hc => ?_
  have h := List.all_eq_true.mp h1 c hc
  rcases Bool.eq_false_or_eq_true (isCode c) with hi | hi
  · exact h2 c (List.mem_filter.mpr ⟨hc, hi⟩)
  · simpa [hi] using h
set_option maxRecDepth 65536 in
theorem w_c0 : (Jvm.Cond.code x code maxLocals ret).before args0 about1 = true := code_word (m := ⟨1, 1⟩) (meth := k1m1) (c := k1c1) (by decide +kernel) rfl rfl rfl (by decide +kernel)
set_option maxRecDepth 65536 in
theorem w_c1 : (Jvm.Cond.code ({ cls := "com/example/tenure_of_partitions/tenureofpartitions/ApiKeyIsFlexiblePinLaw", name := "pick", desc := "(I)Lcom/example/tenure_of_partitions/tenureofpartitions/ApiKey;" } : Jvm.MethodName) method_3_code (1 : Nat) (Option.some (Jvm.ClassFile.FieldType.object "com/example/tenure_of_partitions/tenureofpartitions/ApiKey"))).before args0 about1 = true := code_word (m := ⟨1, 2⟩) (meth := k1m2) (c := k1c2) (by decide +kernel) rfl rfl rfl (by decide +kernel)
set_option maxRecDepth 65536 in
theorem w_c2 : (Jvm.Cond.code ({ cls := "com/example/tenure_of_partitions/tenureofpartitions/ApiKey", name := "isFlexible", desc := "(S)Z" } : Jvm.MethodName) prog_1_method_10_code (2 : Nat) (Option.some Jvm.ClassFile.FieldType.boolean)).before args0 about1 = true := code_word (m := ⟨6, 0⟩) (meth := k6m0) (c := k6c0) (by decide +kernel) rfl rfl rfl (by decide +kernel)
def codes1 : List Jvm.Cond := [Jvm.Cond.code x code maxLocals ret, Jvm.Cond.code ({ cls := "com/example/tenure_of_partitions/tenureofpartitions/ApiKeyIsFlexiblePinLaw", name := "pick", desc := "(I)Lcom/example/tenure_of_partitions/tenureofpartitions/ApiKey;" } : Jvm.MethodName) method_3_code (1 : Nat) (Option.some (Jvm.ClassFile.FieldType.object "com/example/tenure_of_partitions/tenureofpartitions/ApiKey")), Jvm.Cond.code ({ cls := "com/example/tenure_of_partitions/tenureofpartitions/ApiKey", name := "isFlexible", desc := "(S)Z" } : Jvm.MethodName) prog_1_method_10_code (2 : Nat) (Option.some Jvm.ClassFile.FieldType.boolean)]
set_option maxRecDepth 65536 in
theorem codes_eq : words1.filter isCode = codes1 := rfl
theorem w_codes : ∀ c ∈ words1.filter isCode, c.before args0 about1 = true := by
  rw [codes_eq]
  intro c hc
  simp only [codes1, List.mem_cons, List.not_mem_nil, or_false] at hc
  rcases hc with rfl | rfl | rfl
  · exact w_c0
  · exact w_c1
  · exact w_c2
set_option maxRecDepth 65536 in
theorem w_t1 : (words1.take 24).all (fun c => isCode c || c.before args0 about1) = true := by decide +kernel
set_option maxRecDepth 65536 in
theorem w_t2 : (words1.drop 24).all (fun c => isCode c || c.before args0 about1) = true := by decide +kernel
theorem w_tables : (allAtoms (Jvm.Cond.code x code maxLocals ret :: tables_1)).before args0 about1 = true := by
  rw [allAtoms_all]
  show words1.all (fun c => c.before args0 about1) = true
  refine all_split ?_ w_codes
  rw [← List.take_append_drop 24 words1, List.all_append, w_t1, w_t2]
  rfl
set_option maxRecDepth 65536 in
theorem w_case : (Jvm.Cond.and given_1 narrow_1).before args0 about1 = true := by decide +kernel
theorem w_applies : (headSpec (Jvm.Cond.code x code maxLocals ret :: tables_1) room_1).applies x e0.platform about1 = true :=
  (Spec.applies_iff w_frames).mpr ⟨w_running, w_runnable, w_alone, w_named, w_hears, w_ripe, w_room, w_tables⟩
theorem atStart : AtStart classFile x code maxLocals ret World_1 tables_1 room_1 Calls_1 rest_1 Pre_1 launch0 p0 e0 about1 theMethod args0 below0 :=
  ⟨lists_1, trivial, launch0.admits_env _ _ _, launch0.least_env, fairChoices_fair.cas, fairChoices_fair.clock, w_frames, w_args, w_heap, w_applies, trivial, trivial, w_case⟩
end start1
theorem witness_1 : WitnessClaimed_1 := ⟨start1.p0, start1.e0, start1.about1, start1.theMethod, start1.args0, start1.below0, start1.atStart⟩
end Jvm.Pilot.@@N@@
