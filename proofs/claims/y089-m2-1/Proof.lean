import JvmDerived
import JvmDerived.Pilot.@@N@@Statement
import JvmDerived.Pilot.@@N@@Code
set_option linter.unusedVariables false
set_option linter.unusedSimpArgs false
namespace Jvm.Pilot.@@N@@
open Jvm Jvm.ClassFile Sem Op Lib Jvm.Free Jvm.Stand Jvm.LawKit Jvm.RoadKit Bundle Jvm.Pilot.@@N@@.Jvm.D
theorem wdx {a0 : Array Value} {Z : State} (hw : ∀ d ∈ tables_1, d.before a0 Z = true) (i : Nat) {d : Jvm.Cond} (h : tables_1[i]? = some d) : d.before a0 Z = true := hw d (List.mem_of_getElem? h)
/-! the walk in one predicate: from S the run comes to an end at which Q holds -/
def Go (p : Program) (e : Env) (below : List Frame) (s : State) (rc rs : Nat) (Q : Option Value → Heap → List Loc → Prop) (S : State) : Prop :=
  ∃ t o, Steps p.tables e below S t ∧ t.status = .running ∧ Ended t below o ∧ ∃ v L, o = .returned v ∧ Q v t.heap L ∧ FrameEnd s o t L rc rs
section Pre
variable {p : Program} {l : Launch} {e : Env} {R : Room} {s : State} {m : MethodId} {args : Array Value} {below : List Frame} {meth : Method} {c : Code} {T : State} {locs : List Loc} {cells slots rc rs : Nat} {Q : Option Value → Heap → List Loc → Prop} {S S' : State} {h : Heap} {Z : State} {n0 : Nat}
theorem Go.st (k : ∀ t, Steps p.tables e below S' t → Steps p.tables e below S t) (g : Go p e below s rc rs Q S') : Go p e below s rc rs Q S := by
  obtain ⟨t, o, h, r⟩ := g; exact ⟨t, o, k t h, r⟩
theorem Go.tr (k : Steps p.tables e below S S') (g : Go p e below s rc rs Q S') : Go p e below s rc rs Q S := by
  obtain ⟨t, o, h, r⟩ := g; exact ⟨t, o, k.trans h, r⟩
theorem Go.ret (X : Stand p l e R s m args below meth c T locs cells slots) (hx : p.tables.exec = Jvm.exec) (hlk : meth.locks = false) {pc : Nat} {Ls : Array Slot} {w : Value} {t : FieldType} {i : Instr} {rest : List Value} (hret : meth.sig.returnType = some t) (hn : narrow t w = w)
    (hi : (i = .ireturn ∧ (t = .int ∨ t = .boolean ∨ t = .byte ∨ t = .char ∨ t = .short) ∧ ∃ z, w = .int z) ∨ (i = .lreturn ∧ t = .long ∧ ∃ z, w = .long z) ∨ (i = .dreturn ∧ t = .double ∧ ∃ z, w = .double z) ∨ (i = .freturn ∧ t = .float ∧ ∃ z, w = .float z) ∨ (i = .areturn ∧ t.isReference = true ∧ w.isRef = true))
    (hd : decode c.code pc = .ok (i, 1)) (hc : cells ≤ rc) (hs : slots ≤ rs) (hh : T.heap = h) (hq : Q (some w) h locs) : Go p e below s rc rs Q (T.setTop (mkF m pc Ls (w :: rest))) := by
  obtain ⟨fs, hr, hrun, hended, hW, hsame⟩ := X.leave (v := some w) (fun h => by rw [hret] at h; cases h) hlk
  subst hh
  exact ⟨_, _, retOut X hx hret hn hi hd hr, hrun, hended, _, _, rfl, hq, ⟨_, rfl⟩, hW, hsame.mono hc hs⟩
theorem Go.retB (X : Stand p l e R s m args below meth c T locs cells slots) (hx : p.tables.exec = Jvm.exec) (hlk : meth.locks = false) {pc : Nat} {Ls : Array Slot} {z : Int32} {t : FieldType} {rest : List Value} (hret : meth.sig.returnType = some t) (ht : t = .boolean ∨ t = .byte ∨ t = .char ∨ t = .short)
    (hd : decode c.code pc = .ok (.ireturn, 1)) (hc : cells ≤ rc) (hs : slots ≤ rs) (hh : T.heap = h) (hq : Q (some (.int (nar t z))) h locs) : Go p e below s rc rs Q (T.setTop (mkF m pc Ls (.int z :: rest))) := by
  obtain ⟨fs, hr, hrun, hended, hW, hsame⟩ := X.leave (v := some (.int (nar t z))) (fun h => by rw [hret] at h; cases h) hlk
  subst hh
  exact ⟨_, _, retN X hx hret ht hd hr, hrun, hended, _, _, rfl, hq, ⟨_, rfl⟩, hW, hsame.mono hc hs⟩
theorem Go.retV (X : Stand p l e R s m args below meth c T locs cells slots) (hx : p.tables.exec = Jvm.exec) (hlk : meth.locks = false) {pc : Nat} {Ls : Array Slot} (hret : meth.sig.returnType = none)
    (hd : decode c.code pc = .ok (.return_, 1)) (hc : cells ≤ rc) (hs : slots ≤ rs) (hh : T.heap = h) (hq : Q none h locs) : Go p e below s rc rs Q (T.setTop (mkF m pc Ls [])) := by
  obtain ⟨fs, hr, hrun, hended, hW, hsame⟩ := X.leave (v := none) (fun _ => rfl) hlk
  subst hh
  exact ⟨_, _, X.returnOut hx hret hd hr, hrun, hended, _, _, rfl, hq, ⟨_, rfl⟩, hW, hsame.mono hc hs⟩
theorem own_le (O : Old Z n0 h) : n0 ≤ h.size := O.1 ▸ O.2.1
theorem own_nb (b : Bool) : nar .boolean (if b then 1 else 0) = if b then 1 else 0 := by cases b <;> rfl
end Pre
def fbt (a : Int32) (y : Int64) (b : Int32) (w : Int64) : Int32 := if w < y then 1 else if y = w then (if b < a then 1 else 0) else 0
def fexp (a : Int32) (y : Int64) (b : Int32) (w : Int64) : Int32 := if y = w then (if b < a then 1 else 0) else if w < y then 1 else 0
def fsm (a : Int32) (y : Int64) (b : Int32) (w : Int64) : Int32 := if a = b then (if y = w then 1 else 0) else 0
theorem own_be (a : Int32) (y : Int64) (b : Int32) (w : Int64) : fbt a y b w = fexp a y b w := by
  unfold fbt fexp
  simp only [Int64.lt_iff_toInt_lt, ← Int64.toInt_inj]
  split <;> split <;> (try rfl) <;> (exfalso; omega)
theorem own_tri (a : Int32) (y : Int64) (b : Int32) (w : Int64) : (fbt a y b w = 1 ∧ fbt b w a y = 0 ∧ fsm a y b w = 0) ∨ (fbt a y b w = 0 ∧ fbt b w a y = 1 ∧ fsm a y b w = 0) ∨ (fbt a y b w = 0 ∧ fbt b w a y = 0 ∧ fsm a y b w = 1) := by
  unfold fbt fsm
  simp only [Int64.lt_iff_toInt_lt, ← Int64.toInt_inj, Int32.lt_iff_toInt_lt, ← Int32.toInt_inj]
  by_cases h1 : w.toInt < y.toInt
  · have h2 : ¬ y.toInt < w.toInt := by omega
    have h3 : ¬ y.toInt = w.toInt := by omega
    have h4 : ¬ w.toInt = y.toInt := by omega
    simp [h1, h2, h3, h4]
  · by_cases h2 : y.toInt < w.toInt
    · have h3 : ¬ y.toInt = w.toInt := by omega
      have h4 : ¬ w.toInt = y.toInt := by omega
      simp [h1, h2, h3, h4]
    · have h3 : y.toInt = w.toInt := by omega
      simp only [h3, Int.lt_irrefl, if_false, if_true]
      by_cases h5 : b.toInt < a.toInt
      · have h6 : ¬ a.toInt < b.toInt := by omega
        have h7 : ¬ a.toInt = b.toInt := by omega
        simp [h5, h6, h7]
      · by_cases h6 : a.toInt < b.toInt
        · have h7 : ¬ a.toInt = b.toInt := by omega
          simp [h5, h6, h7]
        · have h7 : a.toInt = b.toInt := by omega
          simp [h7]
theorem d1_0 : decode prog_77_method_1_code 0 = .ok (.aload_n 0, 1) := by decide +kernel
theorem d1_1 : decode prog_77_method_1_code 1 = .ok (.invokespecial 1, 3) := by decide +kernel
theorem d1_4 : decode prog_77_method_1_code 4 = .ok (.aload_n 0, 1) := by decide +kernel
theorem d1_5 : decode prog_77_method_1_code 5 = .ok (.iload_n 1, 1) := by decide +kernel
theorem d1_6 : decode prog_77_method_1_code 6 = .ok (.putfield 7, 3) := by decide +kernel
theorem d1_9 : decode prog_77_method_1_code 9 = .ok (.aload_n 0, 1) := by decide +kernel
theorem d1_10 : decode prog_77_method_1_code 10 = .ok (.lload_n 2, 1) := by decide +kernel
theorem d1_11 : decode prog_77_method_1_code 11 = .ok (.putfield 13, 3) := by decide +kernel
theorem d1_14 : decode prog_77_method_1_code 14 = .ok (.return_, 1) := by decide +kernel
theorem pn_com_example_exact_quorum_exactquorum_server_Election_Vote : plainName "com/example/exact_quorum/exactquorum/server/Election$Vote" = true := by first | (simp [plainName, overriddenIn]; done) | decide +kernel
theorem ef_rm1 (m : MethodId) (ob : Addr) (ul : Int32) (uz : Int64) : entryFrame m #[(.ref ob), (.int ul), (.long uz)] 4 = mkF m 0 #[.val (.ref ob), .val (.int ul), .val (.long uz), .second] [] := by first | (simp [entryFrame, mkF, argsToLocals, Value.category]; done) | rfl
def Q1 (Z : State) (ob : Addr) (ul : Int32) (uz : Int64) (h0 : Heap) (n0 : Nat) (v : Option Value) (h : Heap) (L : List Loc) : Prop := v = none ∧ Fr n0 L ∧ Keep h0 h [ob] ∧ Fld Z h ob "com/example/exact_quorum/exactquorum/server/Election$Vote" "leader" "I" (.int ul) ∧ Fld Z h ob "com/example/exact_quorum/exactquorum/server/Election$Vote" "zxid" "J" (.long uz)
set_option maxRecDepth 65536 in
set_option maxHeartbeats 40000000 in
theorem rm1 (l : Launch) (Z : State) (a0 : Array Value) (hw : ∀ d ∈ tables_1, d.before a0 Z = true) (ws : List Jvm.Cond) (ob : Addr) (ul : Int32) (uz : Int64) (h0 : Heap) (n0 : Nat) (O0 : Old Z n0 h0) (E_o : Exa Z h0 ob "com/example/exact_quorum/exactquorum/server/Election$Vote") (F0 : Fld Z h0 ob "com/example/exact_quorum/exactquorum/server/Election$Vote" "leader" "I" (.int (0 : Int32))) (F1 : Fld Z h0 ob "com/example/exact_quorum/exactquorum/server/Election$Vote" "zxid" "J" (.long (0 : Int64))) (g_o : n0 ≤ ob) :
    MetFree l (⟨"com/example/exact_quorum/exactquorum/server/Election$Vote", "<init>", "(IJ)V"⟩ : MethodName) (head1 (Jvm.Cond.code (⟨"com/example/exact_quorum/exactquorum/server/Election$Vote", "<init>", "(IJ)V"⟩ : MethodName) prog_77_method_1_code 4 none :: ws) ({ frames := 1, cells := 0, slots := 0, locals := 12 } : Room)) (fun ay U => ay = #[(.ref ob), (.int ul), (.long uz)] ∧ Z.Warmed39 U.vm ∧ U.heap = h0) (fun _ _ _ _ _ => True) (fun _ U o U' => ∃ v L, o = .returned v ∧ Q1 Z ob ul uz h0 n0 v U'.heap L ∧ FrameEnd U o U' L ({ frames := 1, cells := 0, slots := 0, locals := 12 } : Room).cells ({ frames := 1, cells := 0, slots := 0, locals := 12 } : Room).slots) := by
  refine MetFree.of_bodySF (plainFor_of_name pn_com_example_exact_quorum_exactquorum_server_Election_Vote) hisR ?_
  intro p e s m args below meth c s₁ Bd hml0 hP hK
  obtain ⟨rfl, hZ, hh⟩ := hP
  have hx := Bd.exec
  have hby := Bd.bytes
  have hlk : meth.locks = false := BodyLoose.notSynchronized Bd
  have hml : c.maxLocals = 4 := hml0
  have hown : s.vm.findClass "com/example/exact_quorum/exactquorum/server/Election$Vote" = some m.cls := findClass_of_methodNamed Bd.named
  have hnm := (name_of_methodNamed Bd.named Bd.method).1
  have X0 : Stand p l e ({ frames := 1, cells := 0, slots := 0, locals := 12 } : Room) s m #[(.ref ob), (.int ul), (.long uz)] below meth c s₁ [] 0 0 := Stand.of_body Bd
  have e0 : s₁.heap = h0 := by rw [← hh, Bd.state]; rfl
  have N0 := Fr.nil n0
  suffices hgo : Go p e below s 0 0 (Q1 Z ob ul uz h0 n0) (s₁.setTop (mkF m 0 #[.val (.ref ob), .val (.int ul), .val (.long uz), .second] [])) by
    obtain ⟨t, o, h1, h2⟩ := hgo; exact ⟨t, o, castTop (ef_rm1 m ob ul uz) h1, h2⟩
  show Go p e below s _ _ _ (s₁.setTop (mkF m 0 #[.val (.ref ob), .val (.int ul), .val (.long uz), .second] []))
  refine Go.st (fun _ k' => XS.aloadN X0.here hx rfl (hb hby d1_0) rfl rfl k') ?_
  show Go p e below s _ _ _ (s₁.setTop (mkF m 1 #[.val (.ref ob), .val (.int ul), .val (.long uz), .second] [(.ref ob)]))
  obtain ⟨T1, X1, e1, st1⟩ := initO X0 hx hZ hown (wdx hw 6 rfl) (wdx hw 7 rfl) (wdx hw 8 rfl) e0 (g := (mkF m 1 #[.val (.ref ob), .val (.int ul), .val (.long uz), .second] [(.ref ob)])) rfl (by rw [hml]; rfl) rfl (hb hby d1_1) (by decide) (W := 0) (by show 2 * 0 + _ ≤ _; exact Nat.le_of_eq rfl) (by decide)
  refine Go.st st1 ?_
  show Go p e below s _ _ _ (T1.setTop (mkF m 4 #[.val (.ref ob), .val (.int ul), .val (.long uz), .second] []))
  refine Go.st (fun _ k' => XS.aloadN X1.here hx rfl (hb hby d1_4) rfl rfl k') ?_
  show Go p e below s _ _ _ (T1.setTop (mkF m 5 #[.val (.ref ob), .val (.int ul), .val (.long uz), .second] [(.ref ob)]))
  refine Go.st (fun _ k' => XS.iloadN X1.here hx rfl (hb hby d1_5) rfl k') ?_
  show Go p e below s _ _ _ (T1.setTop (mkF m 6 #[.val (.ref ob), .val (.int ul), .val (.long uz), .second] [(.int ul), (.ref ob)]))
  obtain ⟨T2, h2, X2, e2, W2, st2⟩ := putF X1 hx hZ hown (host := "") (Or.inl (wdx hw 9 rfl)) Via.refl e1 F0 E_o (Or.inr ⟨(wdx hw 10 rfl), rfl, hnm⟩) (wdx hw 1 rfl) (ty := .int) (by decide) rfl rfl (g := (mkF m 6 #[.val (.ref ob), .val (.int ul), .val (.long uz), .second] [(.int ul), (.ref ob)])) rfl rfl (hb hby d1_6)
  refine Go.st st2 ?_
  have f3 : Exa Z h2 ob "com/example/exact_quorum/exactquorum/server/Election$Vote" := E_o.wr W2
  have f4 : Fld Z h2 ob "com/example/exact_quorum/exactquorum/server/Election$Vote" "leader" "I" (.int ul) := F0.same W2
  have f5 : Fld Z h2 ob "com/example/exact_quorum/exactquorum/server/Election$Vote" "zxid" "J" (.long (0 : Int64)) := F1.other W2 (Or.inr (slot_ne (Or.inr (wdx hw 12 rfl)) (Or.inr (wdx hw 10 rfl)) (by decide) (t := .long) (t' := .int) (by decide) (by decide)))
  have O2 : Old Z n0 h2 := O0.wr W2 g_o
  have N2 := Fr.snoc X2 N0 g_o
  have K2 : Keep h0 h2 [ob] := (Keep.refl h0 [ob]).wr W2 (Or.inl (by simp))
  show Go p e below s _ _ _ (T2.setTop (mkF m 9 #[.val (.ref ob), .val (.int ul), .val (.long uz), .second] []))
  refine Go.st (fun _ k' => XS.aloadN X2.here hx rfl (hb hby d1_9) rfl rfl k') ?_
  show Go p e below s _ _ _ (T2.setTop (mkF m 10 #[.val (.ref ob), .val (.int ul), .val (.long uz), .second] [(.ref ob)]))
  refine Go.st (fun _ k' => XS.lloadN X2.here hx rfl (hb hby d1_10) rfl k') ?_
  show Go p e below s _ _ _ (T2.setTop (mkF m 11 #[.val (.ref ob), .val (.int ul), .val (.long uz), .second] [(.long uz), (.ref ob)]))
  obtain ⟨T6, h6, X6, e6, W6, st6⟩ := putF X2 hx hZ hown (host := "") (Or.inl (wdx hw 11 rfl)) Via.refl e2 f5 f3 (Or.inr ⟨(wdx hw 12 rfl), rfl, hnm⟩) (wdx hw 1 rfl) (ty := .long) (by decide) rfl rfl (g := (mkF m 11 #[.val (.ref ob), .val (.int ul), .val (.long uz), .second] [(.long uz), (.ref ob)])) rfl rfl (hb hby d1_11)
  refine Go.st st6 ?_
  have f7 : Exa Z h6 ob "com/example/exact_quorum/exactquorum/server/Election$Vote" := f3.wr W6
  have f8 : Fld Z h6 ob "com/example/exact_quorum/exactquorum/server/Election$Vote" "leader" "I" (.int ul) := f4.other W6 (Or.inr (slot_ne (Or.inr (wdx hw 10 rfl)) (Or.inr (wdx hw 12 rfl)) (by decide) (t := .int) (t' := .long) (by decide) (by decide)))
  have f9 : Fld Z h6 ob "com/example/exact_quorum/exactquorum/server/Election$Vote" "zxid" "J" (.long uz) := f5.same W6
  have O6 : Old Z n0 h6 := O2.wr W6 g_o
  have N6 := Fr.snoc X6 N2 g_o
  have K6 : Keep h0 h6 [ob] := K2.wr W6 (Or.inl (by simp))
  show Go p e below s _ _ _ (T6.setTop (mkF m 14 #[.val (.ref ob), .val (.int ul), .val (.long uz), .second] []))
  refine Go.retV X6 hx hlk Bd.returns (hb hby d1_14) (by decide) (by decide) e6 ?_
  exact ⟨rfl, N6, K6, f8, f9⟩
theorem d3_0 : decode prog_77_method_4_code 0 = .ok (.aload_n 0, 1) := by decide +kernel
theorem d3_1 : decode prog_77_method_4_code 1 = .ok (.getfield 13, 3) := by decide +kernel
theorem d3_4 : decode prog_77_method_4_code 4 = .ok (.aload_n 1, 1) := by decide +kernel
theorem d3_5 : decode prog_77_method_4_code 5 = .ok (.getfield 13, 3) := by decide +kernel
theorem d3_8 : decode prog_77_method_4_code 8 = .ok (.lcmp, 1) := by decide +kernel
theorem d3_9 : decode prog_77_method_4_code 9 = .ok (.ifCond .gt 26, 3) := by decide +kernel
theorem d3_35 : decode prog_77_method_4_code 35 = .ok (.iconst 1, 1) := by decide +kernel
theorem d3_36 : decode prog_77_method_4_code 36 = .ok (.goto 4, 3) := by decide +kernel
theorem d3_40 : decode prog_77_method_4_code 40 = .ok (.ireturn, 1) := by decide +kernel
theorem d3_12 : decode prog_77_method_4_code 12 = .ok (.aload_n 0, 1) := by decide +kernel
theorem d3_13 : decode prog_77_method_4_code 13 = .ok (.getfield 13, 3) := by decide +kernel
theorem d3_16 : decode prog_77_method_4_code 16 = .ok (.aload_n 1, 1) := by decide +kernel
theorem d3_17 : decode prog_77_method_4_code 17 = .ok (.getfield 13, 3) := by decide +kernel
theorem d3_20 : decode prog_77_method_4_code 20 = .ok (.lcmp, 1) := by decide +kernel
theorem d3_21 : decode prog_77_method_4_code 21 = .ok (.ifCond .ne 18, 3) := by decide +kernel
theorem d3_24 : decode prog_77_method_4_code 24 = .ok (.aload_n 0, 1) := by decide +kernel
theorem d3_25 : decode prog_77_method_4_code 25 = .ok (.getfield 7, 3) := by decide +kernel
theorem d3_28 : decode prog_77_method_4_code 28 = .ok (.aload_n 1, 1) := by decide +kernel
theorem d3_29 : decode prog_77_method_4_code 29 = .ok (.getfield 7, 3) := by decide +kernel
theorem d3_32 : decode prog_77_method_4_code 32 = .ok (.if_icmp .le 7, 3) := by decide +kernel
theorem d3_39 : decode prog_77_method_4_code 39 = .ok (.iconst 0, 1) := by decide +kernel
theorem ef_rm3 (m : MethodId) (ob : Addr) (oc : Addr) : entryFrame m #[(.ref ob), (.ref oc)] 2 = mkF m 0 #[.val (.ref ob), .val (.ref oc)] [] := by first | (simp [entryFrame, mkF, argsToLocals, Value.category]; done) | rfl
def Q3 (Z : State) (ob : Addr) (oc : Addr) (ul : Int32) (uz : Int64) (wl : Int32) (wz : Int64) (h0 : Heap) (n0 : Nat) (v : Option Value) (h : Heap) (L : List Loc) : Prop := v = some (.int (fbt ul uz wl wz)) ∧ Fr n0 L ∧ h = h0
set_option maxRecDepth 65536 in
set_option maxHeartbeats 40000000 in
theorem rm3 (l : Launch) (Z : State) (a0 : Array Value) (hw : ∀ d ∈ tables_1, d.before a0 Z = true) (ws : List Jvm.Cond) (ob : Addr) (oc : Addr) (ul : Int32) (uz : Int64) (wl : Int32) (wz : Int64) (h0 : Heap) (n0 : Nat) (O0 : Old Z n0 h0) (F0 : Fld Z h0 ob "com/example/exact_quorum/exactquorum/server/Election$Vote" "leader" "I" (.int ul)) (F1 : Fld Z h0 ob "com/example/exact_quorum/exactquorum/server/Election$Vote" "zxid" "J" (.long uz)) (F2 : Fld Z h0 oc "com/example/exact_quorum/exactquorum/server/Election$Vote" "leader" "I" (.int wl)) (F3 : Fld Z h0 oc "com/example/exact_quorum/exactquorum/server/Election$Vote" "zxid" "J" (.long wz)) :
    MetFree l (⟨"com/example/exact_quorum/exactquorum/server/Election$Vote", "betterThan", "(Lcom/example/exact_quorum/exactquorum/server/Election$Vote;)Z"⟩ : MethodName) (head1 (Jvm.Cond.code (⟨"com/example/exact_quorum/exactquorum/server/Election$Vote", "betterThan", "(Lcom/example/exact_quorum/exactquorum/server/Election$Vote;)Z"⟩ : MethodName) prog_77_method_4_code 2 (some .boolean) :: ws) ({ frames := 0, cells := 0, slots := 0, locals := 0 } : Room)) (fun ay U => ay = #[(.ref ob), (.ref oc)] ∧ Z.Warmed39 U.vm ∧ U.heap = h0) (fun _ _ _ _ _ => True) (fun _ U o U' => ∃ v L, o = .returned v ∧ Q3 Z ob oc ul uz wl wz h0 n0 v U'.heap L ∧ FrameEnd U o U' L ({ frames := 0, cells := 0, slots := 0, locals := 0 } : Room).cells ({ frames := 0, cells := 0, slots := 0, locals := 0 } : Room).slots) := by
  refine MetFree.of_bodySF (plainFor_of_name pn_com_example_exact_quorum_exactquorum_server_Election_Vote) hisR ?_
  intro p e s m args below meth c s₁ Bd hml0 hP hK
  obtain ⟨rfl, hZ, hh⟩ := hP
  have hx := Bd.exec
  have hby := Bd.bytes
  have hlk : meth.locks = false := BodyLoose.notSynchronized Bd
  have hml : c.maxLocals = 2 := hml0
  have hown : s.vm.findClass "com/example/exact_quorum/exactquorum/server/Election$Vote" = some m.cls := findClass_of_methodNamed Bd.named
  have hnm := (name_of_methodNamed Bd.named Bd.method).1
  have X0 : Stand p l e ({ frames := 0, cells := 0, slots := 0, locals := 0 } : Room) s m #[(.ref ob), (.ref oc)] below meth c s₁ [] 0 0 := Stand.of_body Bd
  have e0 : s₁.heap = h0 := by rw [← hh, Bd.state]; rfl
  have N0 := Fr.nil n0
  suffices hgo : Go p e below s 0 0 (Q3 Z ob oc ul uz wl wz h0 n0) (s₁.setTop (mkF m 0 #[.val (.ref ob), .val (.ref oc)] [])) by
    obtain ⟨t, o, h1, h2⟩ := hgo; exact ⟨t, o, castTop (ef_rm3 m ob oc) h1, h2⟩
  show Go p e below s _ _ _ (s₁.setTop (mkF m 0 #[.val (.ref ob), .val (.ref oc)] []))
  refine Go.st (fun _ k' => XS.aloadN X0.here hx rfl (hb hby d3_0) rfl rfl k') ?_
  show Go p e below s _ _ _ (s₁.setTop (mkF m 1 #[.val (.ref ob), .val (.ref oc)] [(.ref ob)]))
  obtain ⟨T1, X1, e1, st1⟩ := getF X0 hx hZ hown (host := "") (Or.inl (wdx hw 11 rfl)) Via.refl e0 F1 (g := (mkF m 1 #[.val (.ref ob), .val (.ref oc)] [(.ref ob)])) rfl rfl (hb hby d3_1)
  refine Go.st st1 ?_
  show Go p e below s _ _ _ (T1.setTop (mkF m 4 #[.val (.ref ob), .val (.ref oc)] [(.long uz)]))
  refine Go.st (fun _ k' => XS.aloadN X1.here hx rfl (hb hby d3_4) rfl rfl k') ?_
  show Go p e below s _ _ _ (T1.setTop (mkF m 5 #[.val (.ref ob), .val (.ref oc)] [(.ref oc), (.long uz)]))
  obtain ⟨T2, X2, e2, st2⟩ := getF X1 hx hZ hown (host := "") (Or.inl (wdx hw 11 rfl)) Via.refl e1 F3 (g := (mkF m 5 #[.val (.ref ob), .val (.ref oc)] [(.ref oc), (.long uz)])) rfl rfl (hb hby d3_5)
  refine Go.st st2 ?_
  show Go p e below s _ _ _ (T2.setTop (mkF m 8 #[.val (.ref ob), .val (.ref oc)] [(.long wz), (.long uz)]))
  refine Go.st (fun _ k' => XT.lcmp X2.here hx rfl (hb hby d3_8) rfl k') ?_
  show Go p e below s _ _ _ (T2.setTop (mkF m 9 #[.val (.ref ob), .val (.ref oc)] [(.int (XT.cmpL uz wz))]))
  by_cases hc3 : wz < uz
  · refine Go.st (fun _ k' => XS.ifYes X2.here hx rfl (pc0 := 9) (pc' := 35) rfl (hb hby d3_9) rfl (XT.ll_gt_t hc3) (by decide) (by decide) k') ?_
    show Go p e below s _ _ _ (T2.setTop (mkF m 35 #[.val (.ref ob), .val (.ref oc)] []))
    refine Go.st (fun _ k' => XS.iconst X2.here hx rfl (hb hby d3_35) k') ?_
    show Go p e below s _ _ _ (T2.setTop (mkF m 36 #[.val (.ref ob), .val (.ref oc)] [(.int (1 : Int32))]))
    refine Go.st (fun _ k' => XS.goto X2.here hx rfl (pc0 := 36) (pc' := 40) rfl (hb hby d3_36) (by decide) (by decide) k') ?_
    show Go p e below s _ _ _ (T2.setTop (mkF m 40 #[.val (.ref ob), .val (.ref oc)] [(.int (1 : Int32))]))
    refine Go.retB X2 hx hlk (t := .boolean) Bd.returns (by simp) (hb hby d3_40) (by decide) (by decide) e2 ?_
    exact ⟨(by simp [fbt, nar, hc3]), N0, rfl⟩
  · refine Go.st (fun _ k' => XS.ifNo X2.here hx rfl (hb hby d3_9) rfl (XT.ll_gt_f hc3) k') ?_
    show Go p e below s _ _ _ (T2.setTop (mkF m 12 #[.val (.ref ob), .val (.ref oc)] []))
    refine Go.st (fun _ k' => XS.aloadN X2.here hx rfl (hb hby d3_12) rfl rfl k') ?_
    show Go p e below s _ _ _ (T2.setTop (mkF m 13 #[.val (.ref ob), .val (.ref oc)] [(.ref ob)]))
    obtain ⟨T4, X4, e4, st4⟩ := getF X2 hx hZ hown (host := "") (Or.inl (wdx hw 11 rfl)) Via.refl e2 F1 (g := (mkF m 13 #[.val (.ref ob), .val (.ref oc)] [(.ref ob)])) rfl rfl (hb hby d3_13)
    refine Go.st st4 ?_
    show Go p e below s _ _ _ (T4.setTop (mkF m 16 #[.val (.ref ob), .val (.ref oc)] [(.long uz)]))
    refine Go.st (fun _ k' => XS.aloadN X4.here hx rfl (hb hby d3_16) rfl rfl k') ?_
    show Go p e below s _ _ _ (T4.setTop (mkF m 17 #[.val (.ref ob), .val (.ref oc)] [(.ref oc), (.long uz)]))
    obtain ⟨T5, X5, e5, st5⟩ := getF X4 hx hZ hown (host := "") (Or.inl (wdx hw 11 rfl)) Via.refl e4 F3 (g := (mkF m 17 #[.val (.ref ob), .val (.ref oc)] [(.ref oc), (.long uz)])) rfl rfl (hb hby d3_17)
    refine Go.st st5 ?_
    show Go p e below s _ _ _ (T5.setTop (mkF m 20 #[.val (.ref ob), .val (.ref oc)] [(.long wz), (.long uz)]))
    refine Go.st (fun _ k' => XT.lcmp X5.here hx rfl (hb hby d3_20) rfl k') ?_
    show Go p e below s _ _ _ (T5.setTop (mkF m 21 #[.val (.ref ob), .val (.ref oc)] [(.int (XT.cmpL uz wz))]))
    by_cases hc6 : uz = wz
    · refine Go.st (fun _ k' => XS.ifNo X5.here hx rfl (hb hby d3_21) rfl (XT.ll_ne_f hc6) k') ?_
      show Go p e below s _ _ _ (T5.setTop (mkF m 24 #[.val (.ref ob), .val (.ref oc)] []))
      refine Go.st (fun _ k' => XS.aloadN X5.here hx rfl (hb hby d3_24) rfl rfl k') ?_
      show Go p e below s _ _ _ (T5.setTop (mkF m 25 #[.val (.ref ob), .val (.ref oc)] [(.ref ob)]))
      obtain ⟨T7, X7, e7, st7⟩ := getF X5 hx hZ hown (host := "") (Or.inl (wdx hw 9 rfl)) Via.refl e5 F0 (g := (mkF m 25 #[.val (.ref ob), .val (.ref oc)] [(.ref ob)])) rfl rfl (hb hby d3_25)
      refine Go.st st7 ?_
      show Go p e below s _ _ _ (T7.setTop (mkF m 28 #[.val (.ref ob), .val (.ref oc)] [(.int ul)]))
      refine Go.st (fun _ k' => XS.aloadN X7.here hx rfl (hb hby d3_28) rfl rfl k') ?_
      show Go p e below s _ _ _ (T7.setTop (mkF m 29 #[.val (.ref ob), .val (.ref oc)] [(.ref oc), (.int ul)]))
      obtain ⟨T8, X8, e8, st8⟩ := getF X7 hx hZ hown (host := "") (Or.inl (wdx hw 9 rfl)) Via.refl e7 F2 (g := (mkF m 29 #[.val (.ref ob), .val (.ref oc)] [(.ref oc), (.int ul)])) rfl rfl (hb hby d3_29)
      refine Go.st st8 ?_
      show Go p e below s _ _ _ (T8.setTop (mkF m 32 #[.val (.ref ob), .val (.ref oc)] [(.int wl), (.int ul)]))
      by_cases hc9 : wl < ul
      · refine Go.st (fun _ k' => XS.icmpNo X8.here hx rfl (hb hby d3_32) rfl (XT.ii_le_f hc9) k') ?_
        show Go p e below s _ _ _ (T8.setTop (mkF m 35 #[.val (.ref ob), .val (.ref oc)] []))
        refine Go.st (fun _ k' => XS.iconst X8.here hx rfl (hb hby d3_35) k') ?_
        show Go p e below s _ _ _ (T8.setTop (mkF m 36 #[.val (.ref ob), .val (.ref oc)] [(.int (1 : Int32))]))
        refine Go.st (fun _ k' => XS.goto X8.here hx rfl (pc0 := 36) (pc' := 40) rfl (hb hby d3_36) (by decide) (by decide) k') ?_
        show Go p e below s _ _ _ (T8.setTop (mkF m 40 #[.val (.ref ob), .val (.ref oc)] [(.int (1 : Int32))]))
        refine Go.retB X8 hx hlk (t := .boolean) Bd.returns (by simp) (hb hby d3_40) (by decide) (by decide) e8 ?_
        exact ⟨(by simp [fbt, nar, hc3, hc6, hc9]), N0, rfl⟩
      · refine Go.st (fun _ k' => XS.icmpYes X8.here hx rfl (pc0 := 32) (pc' := 39) rfl (hb hby d3_32) rfl (XT.ii_le_t hc9) (by decide) (by decide) k') ?_
        show Go p e below s _ _ _ (T8.setTop (mkF m 39 #[.val (.ref ob), .val (.ref oc)] []))
        refine Go.st (fun _ k' => XS.iconst X8.here hx rfl (hb hby d3_39) k') ?_
        show Go p e below s _ _ _ (T8.setTop (mkF m 40 #[.val (.ref ob), .val (.ref oc)] [(.int (0 : Int32))]))
        refine Go.retB X8 hx hlk (t := .boolean) Bd.returns (by simp) (hb hby d3_40) (by decide) (by decide) e8 ?_
        exact ⟨(by simp [fbt, nar, hc3, hc6, hc9]), N0, rfl⟩
    · refine Go.st (fun _ k' => XS.ifYes X5.here hx rfl (pc0 := 21) (pc' := 39) rfl (hb hby d3_21) rfl (XT.ll_ne_t hc6) (by decide) (by decide) k') ?_
      show Go p e below s _ _ _ (T5.setTop (mkF m 39 #[.val (.ref ob), .val (.ref oc)] []))
      refine Go.st (fun _ k' => XS.iconst X5.here hx rfl (hb hby d3_39) k') ?_
      show Go p e below s _ _ _ (T5.setTop (mkF m 40 #[.val (.ref ob), .val (.ref oc)] [(.int (0 : Int32))]))
      refine Go.retB X5 hx hlk (t := .boolean) Bd.returns (by simp) (hb hby d3_40) (by decide) (by decide) e5 ?_
      exact ⟨(by simp [fbt, nar, hc3, hc6]), N0, rfl⟩
theorem d4_0 : decode method_3_code 0 = .ok (.lload_n 1, 1) := by decide +kernel
theorem d4_1 : decode method_3_code 1 = .ok (.lload 4, 2) := by decide +kernel
theorem d4_3 : decode method_3_code 3 = .ok (.lcmp, 1) := by decide +kernel
theorem d4_4 : decode method_3_code 4 = .ok (.ifCond .eq 16, 3) := by decide +kernel
theorem d4_20 : decode method_3_code 20 = .ok (.iload_n 0, 1) := by decide +kernel
theorem d4_21 : decode method_3_code 21 = .ok (.iload_n 3, 1) := by decide +kernel
theorem d4_22 : decode method_3_code 22 = .ok (.if_icmp .le 7, 3) := by decide +kernel
theorem d4_25 : decode method_3_code 25 = .ok (.iconst 1, 1) := by decide +kernel
theorem d4_26 : decode method_3_code 26 = .ok (.goto 4, 3) := by decide +kernel
theorem d4_30 : decode method_3_code 30 = .ok (.ireturn, 1) := by decide +kernel
theorem d4_29 : decode method_3_code 29 = .ok (.iconst 0, 1) := by decide +kernel
theorem d4_7 : decode method_3_code 7 = .ok (.lload_n 1, 1) := by decide +kernel
theorem d4_8 : decode method_3_code 8 = .ok (.lload 4, 2) := by decide +kernel
theorem d4_10 : decode method_3_code 10 = .ok (.lcmp, 1) := by decide +kernel
theorem d4_11 : decode method_3_code 11 = .ok (.ifCond .le 7, 3) := by decide +kernel
theorem d4_14 : decode method_3_code 14 = .ok (.iconst 1, 1) := by decide +kernel
theorem d4_15 : decode method_3_code 15 = .ok (.goto 4, 3) := by decide +kernel
theorem d4_19 : decode method_3_code 19 = .ok (.ireturn, 1) := by decide +kernel
theorem d4_18 : decode method_3_code 18 = .ok (.iconst 0, 1) := by decide +kernel
theorem pn_com_example_exact_quorum_exactquorum_server_VoteBetterThanPinLaw : plainName "com/example/exact_quorum/exactquorum/server/VoteBetterThanPinLaw" = true := by first | (simp [plainName, overriddenIn]; done) | decide +kernel
theorem ef_rm4 (m : MethodId) (ul : Int32) (uz : Int64) (wl : Int32) (wz : Int64) : entryFrame m #[(.int ul), (.long uz), (.int wl), (.long wz)] 6 = mkF m 0 #[.val (.int ul), .val (.long uz), .second, .val (.int wl), .val (.long wz), .second] [] := by first | (simp [entryFrame, mkF, argsToLocals, Value.category]; done) | rfl
def Q4 (Z : State) (ul : Int32) (uz : Int64) (wl : Int32) (wz : Int64) (h0 : Heap) (n0 : Nat) (v : Option Value) (h : Heap) (L : List Loc) : Prop := v = some (.int (fexp ul uz wl wz)) ∧ Fr n0 L ∧ h = h0
set_option maxRecDepth 65536 in
set_option maxHeartbeats 40000000 in
theorem rm4 (l : Launch) (Z : State) (a0 : Array Value) (hw : ∀ d ∈ tables_1, d.before a0 Z = true) (ws : List Jvm.Cond) (ul : Int32) (uz : Int64) (wl : Int32) (wz : Int64) (h0 : Heap) (n0 : Nat) (O0 : Old Z n0 h0) :
    MetFree l (⟨"com/example/exact_quorum/exactquorum/server/VoteBetterThanPinLaw", "expected", "(IJIJ)Z"⟩ : MethodName) (head1 (Jvm.Cond.code (⟨"com/example/exact_quorum/exactquorum/server/VoteBetterThanPinLaw", "expected", "(IJIJ)Z"⟩ : MethodName) method_3_code 6 (some .boolean) :: ws) ({ frames := 0, cells := 0, slots := 0, locals := 0 } : Room)) (fun ay U => ay = #[(.int ul), (.long uz), (.int wl), (.long wz)] ∧ Z.Warmed39 U.vm ∧ U.heap = h0) (fun _ _ _ _ _ => True) (fun _ U o U' => ∃ v L, o = .returned v ∧ Q4 Z ul uz wl wz h0 n0 v U'.heap L ∧ FrameEnd U o U' L ({ frames := 0, cells := 0, slots := 0, locals := 0 } : Room).cells ({ frames := 0, cells := 0, slots := 0, locals := 0 } : Room).slots) := by
  refine MetFree.of_bodySF (plainFor_of_name pn_com_example_exact_quorum_exactquorum_server_VoteBetterThanPinLaw) hisR ?_
  intro p e s m args below meth c s₁ Bd hml0 hP hK
  obtain ⟨rfl, hZ, hh⟩ := hP
  have hx := Bd.exec
  have hby := Bd.bytes
  have hlk : meth.locks = false := BodyLoose.notSynchronized Bd
  have hml : c.maxLocals = 6 := hml0
  have hown : s.vm.findClass "com/example/exact_quorum/exactquorum/server/VoteBetterThanPinLaw" = some m.cls := findClass_of_methodNamed Bd.named
  have hnm := (name_of_methodNamed Bd.named Bd.method).1
  have X0 : Stand p l e ({ frames := 0, cells := 0, slots := 0, locals := 0 } : Room) s m #[(.int ul), (.long uz), (.int wl), (.long wz)] below meth c s₁ [] 0 0 := Stand.of_body Bd
  have e0 : s₁.heap = h0 := by rw [← hh, Bd.state]; rfl
  have N0 := Fr.nil n0
  suffices hgo : Go p e below s 0 0 (Q4 Z ul uz wl wz h0 n0) (s₁.setTop (mkF m 0 #[.val (.int ul), .val (.long uz), .second, .val (.int wl), .val (.long wz), .second] [])) by
    obtain ⟨t, o, h1, h2⟩ := hgo; exact ⟨t, o, castTop (ef_rm4 m ul uz wl wz) h1, h2⟩
  show Go p e below s _ _ _ (s₁.setTop (mkF m 0 #[.val (.int ul), .val (.long uz), .second, .val (.int wl), .val (.long wz), .second] []))
  refine Go.st (fun _ k' => XS.lloadN X0.here hx rfl (hb hby d4_0) rfl k') ?_
  show Go p e below s _ _ _ (s₁.setTop (mkF m 1 #[.val (.int ul), .val (.long uz), .second, .val (.int wl), .val (.long wz), .second] [(.long uz)]))
  refine Go.st (fun _ k' => XS.lload X0.here hx rfl (hb hby d4_1) rfl k') ?_
  show Go p e below s _ _ _ (s₁.setTop (mkF m 3 #[.val (.int ul), .val (.long uz), .second, .val (.int wl), .val (.long wz), .second] [(.long wz), (.long uz)]))
  refine Go.st (fun _ k' => XT.lcmp X0.here hx rfl (hb hby d4_3) rfl k') ?_
  show Go p e below s _ _ _ (s₁.setTop (mkF m 4 #[.val (.int ul), .val (.long uz), .second, .val (.int wl), .val (.long wz), .second] [(.int (XT.cmpL uz wz))]))
  by_cases hc1 : uz = wz
  · refine Go.st (fun _ k' => XS.ifYes X0.here hx rfl (pc0 := 4) (pc' := 20) rfl (hb hby d4_4) rfl (XT.ll_eq_t hc1) (by decide) (by decide) k') ?_
    show Go p e below s _ _ _ (s₁.setTop (mkF m 20 #[.val (.int ul), .val (.long uz), .second, .val (.int wl), .val (.long wz), .second] []))
    refine Go.st (fun _ k' => XS.iloadN X0.here hx rfl (hb hby d4_20) rfl k') ?_
    show Go p e below s _ _ _ (s₁.setTop (mkF m 21 #[.val (.int ul), .val (.long uz), .second, .val (.int wl), .val (.long wz), .second] [(.int ul)]))
    refine Go.st (fun _ k' => XS.iloadN X0.here hx rfl (hb hby d4_21) rfl k') ?_
    show Go p e below s _ _ _ (s₁.setTop (mkF m 22 #[.val (.int ul), .val (.long uz), .second, .val (.int wl), .val (.long wz), .second] [(.int wl), (.int ul)]))
    by_cases hc2 : wl < ul
    · refine Go.st (fun _ k' => XS.icmpNo X0.here hx rfl (hb hby d4_22) rfl (XT.ii_le_f hc2) k') ?_
      show Go p e below s _ _ _ (s₁.setTop (mkF m 25 #[.val (.int ul), .val (.long uz), .second, .val (.int wl), .val (.long wz), .second] []))
      refine Go.st (fun _ k' => XS.iconst X0.here hx rfl (hb hby d4_25) k') ?_
      show Go p e below s _ _ _ (s₁.setTop (mkF m 26 #[.val (.int ul), .val (.long uz), .second, .val (.int wl), .val (.long wz), .second] [(.int (1 : Int32))]))
      refine Go.st (fun _ k' => XS.goto X0.here hx rfl (pc0 := 26) (pc' := 30) rfl (hb hby d4_26) (by decide) (by decide) k') ?_
      show Go p e below s _ _ _ (s₁.setTop (mkF m 30 #[.val (.int ul), .val (.long uz), .second, .val (.int wl), .val (.long wz), .second] [(.int (1 : Int32))]))
      refine Go.retB X0 hx hlk (t := .boolean) Bd.returns (by simp) (hb hby d4_30) (by decide) (by decide) e0 ?_
      exact ⟨(by simp [fexp, nar, hc1, hc2]), N0, rfl⟩
    · refine Go.st (fun _ k' => XS.icmpYes X0.here hx rfl (pc0 := 22) (pc' := 29) rfl (hb hby d4_22) rfl (XT.ii_le_t hc2) (by decide) (by decide) k') ?_
      show Go p e below s _ _ _ (s₁.setTop (mkF m 29 #[.val (.int ul), .val (.long uz), .second, .val (.int wl), .val (.long wz), .second] []))
      refine Go.st (fun _ k' => XS.iconst X0.here hx rfl (hb hby d4_29) k') ?_
      show Go p e below s _ _ _ (s₁.setTop (mkF m 30 #[.val (.int ul), .val (.long uz), .second, .val (.int wl), .val (.long wz), .second] [(.int (0 : Int32))]))
      refine Go.retB X0 hx hlk (t := .boolean) Bd.returns (by simp) (hb hby d4_30) (by decide) (by decide) e0 ?_
      exact ⟨(by simp [fexp, nar, hc1, hc2]), N0, rfl⟩
  · refine Go.st (fun _ k' => XS.ifNo X0.here hx rfl (hb hby d4_4) rfl (XT.ll_eq_f hc1) k') ?_
    show Go p e below s _ _ _ (s₁.setTop (mkF m 7 #[.val (.int ul), .val (.long uz), .second, .val (.int wl), .val (.long wz), .second] []))
    refine Go.st (fun _ k' => XS.lloadN X0.here hx rfl (hb hby d4_7) rfl k') ?_
    show Go p e below s _ _ _ (s₁.setTop (mkF m 8 #[.val (.int ul), .val (.long uz), .second, .val (.int wl), .val (.long wz), .second] [(.long uz)]))
    refine Go.st (fun _ k' => XS.lload X0.here hx rfl (hb hby d4_8) rfl k') ?_
    show Go p e below s _ _ _ (s₁.setTop (mkF m 10 #[.val (.int ul), .val (.long uz), .second, .val (.int wl), .val (.long wz), .second] [(.long wz), (.long uz)]))
    refine Go.st (fun _ k' => XT.lcmp X0.here hx rfl (hb hby d4_10) rfl k') ?_
    show Go p e below s _ _ _ (s₁.setTop (mkF m 11 #[.val (.int ul), .val (.long uz), .second, .val (.int wl), .val (.long wz), .second] [(.int (XT.cmpL uz wz))]))
    by_cases hc3 : wz < uz
    · refine Go.st (fun _ k' => XS.ifNo X0.here hx rfl (hb hby d4_11) rfl (XT.ll_le_f hc3) k') ?_
      show Go p e below s _ _ _ (s₁.setTop (mkF m 14 #[.val (.int ul), .val (.long uz), .second, .val (.int wl), .val (.long wz), .second] []))
      refine Go.st (fun _ k' => XS.iconst X0.here hx rfl (hb hby d4_14) k') ?_
      show Go p e below s _ _ _ (s₁.setTop (mkF m 15 #[.val (.int ul), .val (.long uz), .second, .val (.int wl), .val (.long wz), .second] [(.int (1 : Int32))]))
      refine Go.st (fun _ k' => XS.goto X0.here hx rfl (pc0 := 15) (pc' := 19) rfl (hb hby d4_15) (by decide) (by decide) k') ?_
      show Go p e below s _ _ _ (s₁.setTop (mkF m 19 #[.val (.int ul), .val (.long uz), .second, .val (.int wl), .val (.long wz), .second] [(.int (1 : Int32))]))
      refine Go.retB X0 hx hlk (t := .boolean) Bd.returns (by simp) (hb hby d4_19) (by decide) (by decide) e0 ?_
      exact ⟨(by simp [fexp, nar, hc1, hc3]), N0, rfl⟩
    · refine Go.st (fun _ k' => XS.ifYes X0.here hx rfl (pc0 := 11) (pc' := 18) rfl (hb hby d4_11) rfl (XT.ll_le_t hc3) (by decide) (by decide) k') ?_
      show Go p e below s _ _ _ (s₁.setTop (mkF m 18 #[.val (.int ul), .val (.long uz), .second, .val (.int wl), .val (.long wz), .second] []))
      refine Go.st (fun _ k' => XS.iconst X0.here hx rfl (hb hby d4_18) k') ?_
      show Go p e below s _ _ _ (s₁.setTop (mkF m 19 #[.val (.int ul), .val (.long uz), .second, .val (.int wl), .val (.long wz), .second] [(.int (0 : Int32))]))
      refine Go.retB X0 hx hlk (t := .boolean) Bd.returns (by simp) (hb hby d4_19) (by decide) (by decide) e0 ?_
      exact ⟨(by simp [fexp, nar, hc1, hc3]), N0, rfl⟩
theorem pd__IJ_V : parseMethodDescriptor "(IJ)V" = some ⟨[.int, .long], none⟩ := by decide +kernel
theorem pd__Lcom_example_exact_quorum_exactquorum_server_Election_Vote__Z : parseMethodDescriptor "(Lcom/example/exact_quorum/exactquorum/server/Election$Vote;)Z" = some ⟨[(.object "com/example/exact_quorum/exactquorum/server/Election$Vote")], some .boolean⟩ := by decide +kernel
theorem pd__IJIJ_Z : parseMethodDescriptor "(IJIJ)Z" = some ⟨[.int, .long, .int, .long], some .boolean⟩ := by decide +kernel
theorem ef_rm0 (m : MethodId) (la : Int32) (za : Int64) (lb : Int32) (zb : Int64) (sel : Int32) : entryFrame m #[(.int la), (.long za), (.int lb), (.long zb), (.int sel)] maxLocals = mkF m 0 #[.val (.int la), .val (.long za), .second, .val (.int lb), .val (.long zb), .second, .val (.int sel), .unset, .unset, .unset, .unset, .unset, .unset, .unset, .unset] [] := by first | (simp [entryFrame, mkF, argsToLocals, Value.category, maxLocals]; done) | rfl
def Q0 (Z : State) (la : Int32) (za : Int64) (lb : Int32) (zb : Int64) (sel : Int32) (h0 : Heap) (n0 : Nat) (v : Option Value) (h : Heap) (L : List Loc) : Prop := v = some (.int (1 : Int32)) ∧ Fr n0 L ∧ True
set_option maxRecDepth 65536 in
set_option maxHeartbeats 40000000 in
theorem rm0 (l : Launch) (Z : State) (a0 : Array Value) (hw : ∀ d ∈ tables_1, d.before a0 Z = true) (ws : List Jvm.Cond) (la : Int32) (za : Int64) (lb : Int32) (zb : Int64) (sel : Int32) (h0 : Heap) (n0 : Nat) (O0 : Old Z n0 h0) :
    MetFree l x (head1 (Jvm.Cond.code x code maxLocals ret :: ws) room_1) (fun ay U => ay = #[(.int la), (.long za), (.int lb), (.long zb), (.int sel)] ∧ Z.Warmed39 U.vm ∧ U.heap = h0) (fun _ _ _ _ _ => True) (fun _ U o U' => ∃ v L, o = .returned v ∧ Q0 Z la za lb zb sel h0 n0 v U'.heap L ∧ FrameEnd U o U' L room_1.cells room_1.slots) := by
  refine MetFree.of_bodySF (plainFor_of_name pn_com_example_exact_quorum_exactquorum_server_VoteBetterThanPinLaw) hisR ?_
  intro p e s m args below meth c s₁ Bd hml0 hP hK
  obtain ⟨rfl, hZ, hh⟩ := hP
  have hx := Bd.exec
  have hby := Bd.bytes
  have hlk : meth.locks = false := BodyLoose.notSynchronized Bd
  have hml : c.maxLocals = 15 := hml0
  have hown : s.vm.findClass "com/example/exact_quorum/exactquorum/server/VoteBetterThanPinLaw" = some m.cls := findClass_of_methodNamed Bd.named
  have hnm := (name_of_methodNamed Bd.named Bd.method).1
  have X0 : Stand p l e room_1 s m #[(.int la), (.long za), (.int lb), (.long zb), (.int sel)] below meth c s₁ [] 0 0 := Stand.of_body Bd
  have e0 : s₁.heap = h0 := by rw [← hh, Bd.state]; rfl
  have N0 := Fr.nil n0
  suffices hgo : Go p e below s 16 128 (Q0 Z la za lb zb sel h0 n0) (s₁.setTop (mkF m 0 #[.val (.int la), .val (.long za), .second, .val (.int lb), .val (.long zb), .second, .val (.int sel), .unset, .unset, .unset, .unset, .unset, .unset, .unset, .unset] [])) by
    obtain ⟨t, o, h1, h2⟩ := hgo; exact ⟨t, o, castTop (ef_rm0 m la za lb zb sel) h1, h2⟩
  show Go p e below s _ _ _ (s₁.setTop (mkF m 0 #[.val (.int la), .val (.long za), .second, .val (.int lb), .val (.long zb), .second, .val (.int sel), .unset, .unset, .unset, .unset, .unset, .unset, .unset, .unset] []))
  have J1 : ∀ (mm : Int32), Go p e below s 16 128 (Q0 Z la za lb zb sel h0 n0) (s₁.setTop (mkF m 12 #[.val (.int la), .val (.long za), .second, .val (.int lb), .val (.long zb), .second, .val (.int sel), .unset, .unset, .unset, .unset, .unset, .unset, .unset, .unset] [(.int mm)])) := by
    intro mm
    show Go p e below s _ _ _ (s₁.setTop (mkF m 12 #[.val (.int la), .val (.long za), .second, .val (.int lb), .val (.long zb), .second, .val (.int sel), .unset, .unset, .unset, .unset, .unset, .unset, .unset, .unset] [(.int mm)]))
    refine Go.st (fun _ k' => XS.istore X0.here hx rfl (hb hby at_12) rfl (l' := #[.val (.int la), .val (.long za), .second, .val (.int lb), .val (.long zb), .second, .val (.int sel), .val (.int mm), .unset, .unset, .unset, .unset, .unset, .unset, .unset]) rfl k') ?_
    show Go p e below s _ _ _ (s₁.setTop (mkF m 14 #[.val (.int la), .val (.long za), .second, .val (.int lb), .val (.long zb), .second, .val (.int sel), .val (.int mm), .unset, .unset, .unset, .unset, .unset, .unset, .unset] []))
    have J2 : ∀ (yy : Int64), Go p e below s 16 128 (Q0 Z la za lb zb sel h0 n0) (s₁.setTop (mkF m 27 #[.val (.int la), .val (.long za), .second, .val (.int lb), .val (.long zb), .second, .val (.int sel), .val (.int mm), .unset, .unset, .unset, .unset, .unset, .unset, .unset] [(.long yy)])) := by
      intro yy
      show Go p e below s _ _ _ (s₁.setTop (mkF m 27 #[.val (.int la), .val (.long za), .second, .val (.int lb), .val (.long zb), .second, .val (.int sel), .val (.int mm), .unset, .unset, .unset, .unset, .unset, .unset, .unset] [(.long yy)]))
      refine Go.st (fun _ k' => XS.lstore X0.here hx rfl (hb hby at_27) rfl (l' := #[.val (.int la), .val (.long za), .second, .val (.int lb), .val (.long zb), .second, .val (.int sel), .val (.int mm), .val (.long yy), .second, .unset, .unset, .unset, .unset, .unset]) rfl k') ?_
      show Go p e below s _ _ _ (s₁.setTop (mkF m 29 #[.val (.int la), .val (.long za), .second, .val (.int lb), .val (.long zb), .second, .val (.int sel), .val (.int mm), .val (.long yy), .second, .unset, .unset, .unset, .unset, .unset] []))
      obtain ⟨T3, h3, X3, e3, E3, A3, D3, -, st3⟩ := newO X0 hx hZ hown (wdx hw 0 rfl) (wdx hw 1 rfl) (wdx hw 2 rfl) e0 (g := (mkF m 29 #[.val (.int la), .val (.long za), .second, .val (.int lb), .val (.long zb), .second, .val (.int sel), .val (.int mm), .val (.long yy), .second, .unset, .unset, .unset, .unset, .unset] [])) rfl (hb hby at_29) (by decide) (by decide)
      obtain ⟨b3, g3⟩ : ∃ z, z = h0.size := ⟨_, rfl⟩
      rw [← g3] at A3 D3 st3
      refine Go.st st3 ?_
      have g_b3 : n0 ≤ b3 := Nat.le_trans (own_le O0) (Nat.le_of_eq g3.symm)
      have O3 : Old Z n0 h3 := O0.ext E3
      have f4 : Fld Z h3 b3 "com/example/exact_quorum/exactquorum/server/Election$Vote" "leader" "I" (.int (0 : Int32)) := D3 (Or.inr (wdx hw 10 rfl)) (ty := .int) (by decide)
      have f5 : Fld Z h3 b3 "com/example/exact_quorum/exactquorum/server/Election$Vote" "zxid" "J" (.long (0 : Int64)) := D3 (Or.inr (wdx hw 12 rfl)) (ty := .long) (by decide)
      show Go p e below s _ _ _ (T3.setTop (mkF m 32 #[.val (.int la), .val (.long za), .second, .val (.int lb), .val (.long zb), .second, .val (.int sel), .val (.int mm), .val (.long yy), .second, .unset, .unset, .unset, .unset, .unset] [(.ref b3)]))
      refine Go.st (fun _ k' => XS.dup X3.here hx rfl (hb hby at_32) rfl rfl k') ?_
      show Go p e below s _ _ _ (T3.setTop (mkF m 33 #[.val (.int la), .val (.long za), .second, .val (.int lb), .val (.long zb), .second, .val (.int sel), .val (.int mm), .val (.long yy), .second, .unset, .unset, .unset, .unset, .unset] [(.ref b3), (.ref b3)]))
      refine Go.st (fun _ k' => XS.iloadN X3.here hx rfl (hb hby at_33) rfl k') ?_
      show Go p e below s _ _ _ (T3.setTop (mkF m 34 #[.val (.int la), .val (.long za), .second, .val (.int lb), .val (.long zb), .second, .val (.int sel), .val (.int mm), .val (.long yy), .second, .unset, .unset, .unset, .unset, .unset] [(.int la), (.ref b3), (.ref b3)]))
      refine Go.st (fun _ k' => XS.lloadN X3.here hx rfl (hb hby at_34) rfl k') ?_
      show Go p e below s _ _ _ (T3.setTop (mkF m 35 #[.val (.int la), .val (.long za), .second, .val (.int lb), .val (.long zb), .second, .val (.int sel), .val (.int mm), .val (.long yy), .second, .unset, .unset, .unset, .unset, .unset] [(.long za), (.int la), (.ref b3), (.ref b3)]))
      obtain ⟨_, _, ⟨T6, L6, k6, n6⟩, -, X6, ⟨Lc6, hQ6, l6, y6, z6⟩, st6⟩ := X3.specialBack hx (y := (⟨"com/example/exact_quorum/exactquorum/server/Election$Vote", "<init>", "(IJ)V"⟩ : MethodName)) rfl hown (mvT hZ (wdx hw 3 rfl)) (mvT hZ (wdx hw 4 rfl)) (mvT hZ (wdx hw 5 rfl)) (by decide) (backOf (W := 1) (rm1 l Z a0 hw [] b3 la za h3 n0 O3 A3 f4 f5 g_b3) hZ (wdx hw 5 rfl) (wdx hw 2 rfl) (by decide) (by decide)) (g := (mkF m 35 #[.val (.int la), .val (.long za), .second, .val (.int lb), .val (.long zb), .second, .val (.int sel), .val (.int mm), .val (.long yy), .second, .unset, .unset, .unset, .unset, .unset] [(.long za), (.int la), (.ref b3), (.ref b3)])) rfl (by rw [hml]; rfl) (Steps.refl _) (a := b3) (argsL := [(.int la), (.long za)]) (rest := [(.ref b3)]) (lenOf pd__IJ_V rfl) rfl (by show 2 * 0 + _ ≤ _; exact Nat.le_of_eq rfl) (hb hby at_35) (fun _ _ => ⟨rfl, e3, (by exact Nat.le_of_ble_eq_true rfl), (by exact Nat.le_of_ble_eq_true rfl)⟩)
      dsimp only [Pt.U, Pt.locs, Pt.cells, Pt.slots] at X6 l6 y6 z6 st6 hQ6
      subst l6 y6 z6
      obtain ⟨rfl, Nq6, Kq6, f7, f8⟩ := hQ6
      have N6 := Fr.app N0 Nq6
      refine Go.tr st6 ?_
      have f9 : Exa Z T6.heap b3 "com/example/exact_quorum/exactquorum/server/Election$Vote" := A3.keep Kq6
      have O6 : Old Z n0 T6.heap := O3.keep Kq6 (allS g_b3 all0)
      show Go p e below s _ _ _ (T6.setTop (mkF m 38 #[.val (.int la), .val (.long za), .second, .val (.int lb), .val (.long zb), .second, .val (.int sel), .val (.int mm), .val (.long yy), .second, .unset, .unset, .unset, .unset, .unset] [(.ref b3)]))
      refine Go.st (fun _ k' => XS.astore X6.here hx rfl (hb hby at_38) rfl rfl (l' := #[.val (.int la), .val (.long za), .second, .val (.int lb), .val (.long zb), .second, .val (.int sel), .val (.int mm), .val (.long yy), .second, .val (.ref b3), .unset, .unset, .unset, .unset]) rfl k') ?_
      show Go p e below s _ _ _ (T6.setTop (mkF m 40 #[.val (.int la), .val (.long za), .second, .val (.int lb), .val (.long zb), .second, .val (.int sel), .val (.int mm), .val (.long yy), .second, .val (.ref b3), .unset, .unset, .unset, .unset] []))
      obtain ⟨T10, h10, X10, e10, E10, A10, D10, -, st10⟩ := newO X6 hx hZ hown (wdx hw 0 rfl) (wdx hw 1 rfl) (wdx hw 2 rfl) rfl (g := (mkF m 40 #[.val (.int la), .val (.long za), .second, .val (.int lb), .val (.long zb), .second, .val (.int sel), .val (.int mm), .val (.long yy), .second, .val (.ref b3), .unset, .unset, .unset, .unset] [])) rfl (hb hby at_40) (by decide) (by decide)
      obtain ⟨b10, g10⟩ : ∃ z, z = T6.heap.size := ⟨_, rfl⟩
      rw [← g10] at A10 D10 st10
      refine Go.st st10 ?_
      have g_b10 : n0 ≤ b10 := Nat.le_trans (own_le O6) (Nat.le_of_eq g10.symm)
      have ne11 : b3 ≠ b10 := Nat.ne_of_lt (Nat.lt_of_lt_of_le f9.lt (Nat.le_of_eq g10.symm))
      have f12 : Exa Z h10 b3 "com/example/exact_quorum/exactquorum/server/Election$Vote" := f9.ext E10
      have f13 : Fld Z h10 b3 "com/example/exact_quorum/exactquorum/server/Election$Vote" "leader" "I" (.int la) := f7.ext E10
      have f14 : Fld Z h10 b3 "com/example/exact_quorum/exactquorum/server/Election$Vote" "zxid" "J" (.long za) := f8.ext E10
      have O10 : Old Z n0 h10 := O6.ext E10
      have f15 : Fld Z h10 b10 "com/example/exact_quorum/exactquorum/server/Election$Vote" "leader" "I" (.int (0 : Int32)) := D10 (Or.inr (wdx hw 10 rfl)) (ty := .int) (by decide)
      have f16 : Fld Z h10 b10 "com/example/exact_quorum/exactquorum/server/Election$Vote" "zxid" "J" (.long (0 : Int64)) := D10 (Or.inr (wdx hw 12 rfl)) (ty := .long) (by decide)
      show Go p e below s _ _ _ (T10.setTop (mkF m 43 #[.val (.int la), .val (.long za), .second, .val (.int lb), .val (.long zb), .second, .val (.int sel), .val (.int mm), .val (.long yy), .second, .val (.ref b3), .unset, .unset, .unset, .unset] [(.ref b10)]))
      refine Go.st (fun _ k' => XS.dup X10.here hx rfl (hb hby at_43) rfl rfl k') ?_
      show Go p e below s _ _ _ (T10.setTop (mkF m 44 #[.val (.int la), .val (.long za), .second, .val (.int lb), .val (.long zb), .second, .val (.int sel), .val (.int mm), .val (.long yy), .second, .val (.ref b3), .unset, .unset, .unset, .unset] [(.ref b10), (.ref b10)]))
      refine Go.st (fun _ k' => XS.iload X10.here hx rfl (hb hby at_44) rfl k') ?_
      show Go p e below s _ _ _ (T10.setTop (mkF m 46 #[.val (.int la), .val (.long za), .second, .val (.int lb), .val (.long zb), .second, .val (.int sel), .val (.int mm), .val (.long yy), .second, .val (.ref b3), .unset, .unset, .unset, .unset] [(.int mm), (.ref b10), (.ref b10)]))
      refine Go.st (fun _ k' => XS.lload X10.here hx rfl (hb hby at_46) rfl k') ?_
      show Go p e below s _ _ _ (T10.setTop (mkF m 48 #[.val (.int la), .val (.long za), .second, .val (.int lb), .val (.long zb), .second, .val (.int sel), .val (.int mm), .val (.long yy), .second, .val (.ref b3), .unset, .unset, .unset, .unset] [(.long yy), (.int mm), (.ref b10), (.ref b10)]))
      obtain ⟨_, _, ⟨T17, L17, k17, n17⟩, -, X17, ⟨Lc17, hQ17, l17, y17, z17⟩, st17⟩ := X10.specialBack hx (y := (⟨"com/example/exact_quorum/exactquorum/server/Election$Vote", "<init>", "(IJ)V"⟩ : MethodName)) rfl hown (mvT hZ (wdx hw 3 rfl)) (mvT hZ (wdx hw 4 rfl)) (mvT hZ (wdx hw 5 rfl)) (by decide) (backOf (W := 1) (rm1 l Z a0 hw [] b10 mm yy h10 n0 O10 A10 f15 f16 g_b10) hZ (wdx hw 5 rfl) (wdx hw 2 rfl) (by decide) (by decide)) (g := (mkF m 48 #[.val (.int la), .val (.long za), .second, .val (.int lb), .val (.long zb), .second, .val (.int sel), .val (.int mm), .val (.long yy), .second, .val (.ref b3), .unset, .unset, .unset, .unset] [(.long yy), (.int mm), (.ref b10), (.ref b10)])) rfl (by rw [hml]; rfl) (Steps.refl _) (a := b10) (argsL := [(.int mm), (.long yy)]) (rest := [(.ref b10)]) (lenOf pd__IJ_V rfl) rfl (by show 2 * 0 + _ ≤ _; exact Nat.le_of_eq rfl) (hb hby at_48) (fun _ _ => ⟨rfl, e10, (by exact Nat.le_of_ble_eq_true rfl), (by exact Nat.le_of_ble_eq_true rfl)⟩)
      dsimp only [Pt.U, Pt.locs, Pt.cells, Pt.slots] at X17 l17 y17 z17 st17 hQ17
      subst l17 y17 z17
      obtain ⟨rfl, Nq17, Kq17, f18, f19⟩ := hQ17
      have N17 := Fr.app N6 Nq17
      refine Go.tr st17 ?_
      have f20 : Exa Z T17.heap b3 "com/example/exact_quorum/exactquorum/server/Election$Vote" := f12.keep Kq17
      have f21 : Fld Z T17.heap b3 "com/example/exact_quorum/exactquorum/server/Election$Vote" "leader" "I" (.int la) := f13.keep Kq17 (ninS ne11 nin0)
      have f22 : Fld Z T17.heap b3 "com/example/exact_quorum/exactquorum/server/Election$Vote" "zxid" "J" (.long za) := f14.keep Kq17 (ninS ne11 nin0)
      have f23 : Exa Z T17.heap b10 "com/example/exact_quorum/exactquorum/server/Election$Vote" := A10.keep Kq17
      have O17 : Old Z n0 T17.heap := O10.keep Kq17 (allS g_b10 all0)
      show Go p e below s _ _ _ (T17.setTop (mkF m 51 #[.val (.int la), .val (.long za), .second, .val (.int lb), .val (.long zb), .second, .val (.int sel), .val (.int mm), .val (.long yy), .second, .val (.ref b3), .unset, .unset, .unset, .unset] [(.ref b10)]))
      refine Go.st (fun _ k' => XS.astore X17.here hx rfl (hb hby at_51) rfl rfl (l' := #[.val (.int la), .val (.long za), .second, .val (.int lb), .val (.long zb), .second, .val (.int sel), .val (.int mm), .val (.long yy), .second, .val (.ref b3), .val (.ref b10), .unset, .unset, .unset]) rfl k') ?_
      show Go p e below s _ _ _ (T17.setTop (mkF m 53 #[.val (.int la), .val (.long za), .second, .val (.int lb), .val (.long zb), .second, .val (.int sel), .val (.int mm), .val (.long yy), .second, .val (.ref b3), .val (.ref b10), .unset, .unset, .unset] []))
      refine Go.st (fun _ k' => XS.aload X17.here hx rfl (hb hby at_53) rfl rfl k') ?_
      show Go p e below s _ _ _ (T17.setTop (mkF m 55 #[.val (.int la), .val (.long za), .second, .val (.int lb), .val (.long zb), .second, .val (.int sel), .val (.int mm), .val (.long yy), .second, .val (.ref b3), .val (.ref b10), .unset, .unset, .unset] [(.ref b3)]))
      refine Go.st (fun _ k' => XS.aload X17.here hx rfl (hb hby at_55) rfl rfl k') ?_
      show Go p e below s _ _ _ (T17.setTop (mkF m 57 #[.val (.int la), .val (.long za), .second, .val (.int lb), .val (.long zb), .second, .val (.int sel), .val (.int mm), .val (.long yy), .second, .val (.ref b3), .val (.ref b10), .unset, .unset, .unset] [(.ref b10), (.ref b3)]))
      obtain ⟨cq24, kq24, q24a, q24b, q24c⟩ := isOf hZ rfl f20
      obtain ⟨_, _, ⟨T24, L24, k24, n24⟩, -, X24, ⟨Lc24, hQ24, l24, y24, z24⟩, st24⟩ := X17.virtualBack hx (y := (⟨"com/example/exact_quorum/exactquorum/server/Election$Vote", "betterThan", "(Lcom/example/exact_quorum/exactquorum/server/Election$Vote;)Z"⟩ : MethodName)) (z := (⟨"com/example/exact_quorum/exactquorum/server/Election$Vote", "betterThan", "(Lcom/example/exact_quorum/exactquorum/server/Election$Vote;)Z"⟩ : MethodName)) hown (mvT hZ (wdx hw 13 rfl)) (mvT hZ (wdx hw 14 rfl)) (notFace_of_selects (args := #[]) (mvT hZ (wdx hw 16 rfl))) (mvT hZ (wdx hw 16 rfl)) (mvT hZ (wdx hw 15 rfl)) (by decide) (backOf (W := 0) (rm3 l Z a0 hw [] b3 b10 la za mm yy T17.heap n0 O17 f21 f22 f18 f19) hZ (wdx hw 17 rfl) (wdx hw 2 rfl) (by decide) (by decide)) q24a q24c (g := (mkF m 57 #[.val (.int la), .val (.long za), .second, .val (.int lb), .val (.long zb), .second, .val (.int sel), .val (.int mm), .val (.long yy), .second, .val (.ref b3), .val (.ref b10), .unset, .unset, .unset] [(.ref b10), (.ref b3)])) rfl (by rw [hml]; rfl) (Steps.refl _) (argsL := [(.ref b10)]) (rest := []) (lenOf pd__Lcom_example_exact_quorum_exactquorum_server_Election_Vote__Z rfl) rfl (by show 2 * 0 + _ ≤ _; exact Nat.le_of_eq rfl) (hb hby at_57) (fun _ _ => ⟨rfl, rfl, (by exact Nat.le_of_ble_eq_true rfl), (by exact Nat.le_of_ble_eq_true rfl)⟩)
      dsimp only [Pt.U, Pt.locs, Pt.cells, Pt.slots] at X24 l24 y24 z24 st24 hQ24
      subst l24 y24 z24
      obtain ⟨rfl, Nq24, eq24⟩ := hQ24
      have N24 := Fr.app N17 Nq24
      refine Go.tr st24 ?_
      show Go p e below s _ _ _ (T24.setTop (mkF m 60 #[.val (.int la), .val (.long za), .second, .val (.int lb), .val (.long zb), .second, .val (.int sel), .val (.int mm), .val (.long yy), .second, .val (.ref b3), .val (.ref b10), .unset, .unset, .unset] [(.int (fbt la za mm yy))]))
      refine Go.st (fun _ k' => XS.istore X24.here hx rfl (hb hby at_60) rfl (l' := #[.val (.int la), .val (.long za), .second, .val (.int lb), .val (.long zb), .second, .val (.int sel), .val (.int mm), .val (.long yy), .second, .val (.ref b3), .val (.ref b10), .val (.int (fbt la za mm yy)), .unset, .unset]) rfl k') ?_
      show Go p e below s _ _ _ (T24.setTop (mkF m 62 #[.val (.int la), .val (.long za), .second, .val (.int lb), .val (.long zb), .second, .val (.int sel), .val (.int mm), .val (.long yy), .second, .val (.ref b3), .val (.ref b10), .val (.int (fbt la za mm yy)), .unset, .unset] []))
      refine Go.st (fun _ k' => XS.aload X24.here hx rfl (hb hby at_62) rfl rfl k') ?_
      show Go p e below s _ _ _ (T24.setTop (mkF m 64 #[.val (.int la), .val (.long za), .second, .val (.int lb), .val (.long zb), .second, .val (.int sel), .val (.int mm), .val (.long yy), .second, .val (.ref b3), .val (.ref b10), .val (.int (fbt la za mm yy)), .unset, .unset] [(.ref b10)]))
      refine Go.st (fun _ k' => XS.aload X24.here hx rfl (hb hby at_64) rfl rfl k') ?_
      show Go p e below s _ _ _ (T24.setTop (mkF m 66 #[.val (.int la), .val (.long za), .second, .val (.int lb), .val (.long zb), .second, .val (.int sel), .val (.int mm), .val (.long yy), .second, .val (.ref b3), .val (.ref b10), .val (.int (fbt la za mm yy)), .unset, .unset] [(.ref b3), (.ref b10)]))
      obtain ⟨cq25, kq25, q25a, q25b, q25c⟩ := isOf hZ eq24 f23
      obtain ⟨_, _, ⟨T25, L25, k25, n25⟩, -, X25, ⟨Lc25, hQ25, l25, y25, z25⟩, st25⟩ := X24.virtualBack hx (y := (⟨"com/example/exact_quorum/exactquorum/server/Election$Vote", "betterThan", "(Lcom/example/exact_quorum/exactquorum/server/Election$Vote;)Z"⟩ : MethodName)) (z := (⟨"com/example/exact_quorum/exactquorum/server/Election$Vote", "betterThan", "(Lcom/example/exact_quorum/exactquorum/server/Election$Vote;)Z"⟩ : MethodName)) hown (mvT hZ (wdx hw 13 rfl)) (mvT hZ (wdx hw 14 rfl)) (notFace_of_selects (args := #[]) (mvT hZ (wdx hw 16 rfl))) (mvT hZ (wdx hw 16 rfl)) (mvT hZ (wdx hw 15 rfl)) (by decide) (backOf (W := 0) (rm3 l Z a0 hw [] b10 b3 mm yy la za T17.heap n0 O17 f18 f19 f21 f22) hZ (wdx hw 17 rfl) (wdx hw 2 rfl) (by decide) (by decide)) q25a q25c (g := (mkF m 66 #[.val (.int la), .val (.long za), .second, .val (.int lb), .val (.long zb), .second, .val (.int sel), .val (.int mm), .val (.long yy), .second, .val (.ref b3), .val (.ref b10), .val (.int (fbt la za mm yy)), .unset, .unset] [(.ref b3), (.ref b10)])) rfl (by rw [hml]; rfl) (Steps.refl _) (argsL := [(.ref b3)]) (rest := []) (lenOf pd__Lcom_example_exact_quorum_exactquorum_server_Election_Vote__Z rfl) rfl (by show 2 * 0 + _ ≤ _; exact Nat.le_of_eq rfl) (hb hby at_66) (fun _ _ => ⟨rfl, eq24, (by exact Nat.le_of_ble_eq_true rfl), (by exact Nat.le_of_ble_eq_true rfl)⟩)
      dsimp only [Pt.U, Pt.locs, Pt.cells, Pt.slots] at X25 l25 y25 z25 st25 hQ25
      subst l25 y25 z25
      obtain ⟨rfl, Nq25, eq25⟩ := hQ25
      have N25 := Fr.app N24 Nq25
      refine Go.tr st25 ?_
      show Go p e below s _ _ _ (T25.setTop (mkF m 69 #[.val (.int la), .val (.long za), .second, .val (.int lb), .val (.long zb), .second, .val (.int sel), .val (.int mm), .val (.long yy), .second, .val (.ref b3), .val (.ref b10), .val (.int (fbt la za mm yy)), .unset, .unset] [(.int (fbt mm yy la za))]))
      refine Go.st (fun _ k' => XS.istore X25.here hx rfl (hb hby at_69) rfl (l' := #[.val (.int la), .val (.long za), .second, .val (.int lb), .val (.long zb), .second, .val (.int sel), .val (.int mm), .val (.long yy), .second, .val (.ref b3), .val (.ref b10), .val (.int (fbt la za mm yy)), .val (.int (fbt mm yy la za)), .unset]) rfl k') ?_
      show Go p e below s _ _ _ (T25.setTop (mkF m 71 #[.val (.int la), .val (.long za), .second, .val (.int lb), .val (.long zb), .second, .val (.int sel), .val (.int mm), .val (.long yy), .second, .val (.ref b3), .val (.ref b10), .val (.int (fbt la za mm yy)), .val (.int (fbt mm yy la za)), .unset] []))
      have J26 : ∀ (sm : Int32) (he_sm : sm = (fsm la za mm yy)), Go p e below s 16 128 (Q0 Z la za lb zb sel h0 n0) (T25.setTop (mkF m 89 #[.val (.int la), .val (.long za), .second, .val (.int lb), .val (.long zb), .second, .val (.int sel), .val (.int mm), .val (.long yy), .second, .val (.ref b3), .val (.ref b10), .val (.int (fbt la za mm yy)), .val (.int (fbt mm yy la za)), .unset] [(.int sm)])) := by
        intro sm he_sm
        subst he_sm
        show Go p e below s _ _ _ (T25.setTop (mkF m 89 #[.val (.int la), .val (.long za), .second, .val (.int lb), .val (.long zb), .second, .val (.int sel), .val (.int mm), .val (.long yy), .second, .val (.ref b3), .val (.ref b10), .val (.int (fbt la za mm yy)), .val (.int (fbt mm yy la za)), .unset] [(.int (fsm la za mm yy))]))
        refine Go.st (fun _ k' => XS.istore X25.here hx rfl (hb hby at_89) rfl (l' := #[.val (.int la), .val (.long za), .second, .val (.int lb), .val (.long zb), .second, .val (.int sel), .val (.int mm), .val (.long yy), .second, .val (.ref b3), .val (.ref b10), .val (.int (fbt la za mm yy)), .val (.int (fbt mm yy la za)), .val (.int (fsm la za mm yy))]) rfl k') ?_
        show Go p e below s _ _ _ (T25.setTop (mkF m 91 #[.val (.int la), .val (.long za), .second, .val (.int lb), .val (.long zb), .second, .val (.int sel), .val (.int mm), .val (.long yy), .second, .val (.ref b3), .val (.ref b10), .val (.int (fbt la za mm yy)), .val (.int (fbt mm yy la za)), .val (.int (fsm la za mm yy))] []))
        refine Go.st (fun _ k' => XS.iload X25.here hx rfl (hb hby at_91) rfl k') ?_
        show Go p e below s _ _ _ (T25.setTop (mkF m 93 #[.val (.int la), .val (.long za), .second, .val (.int lb), .val (.long zb), .second, .val (.int sel), .val (.int mm), .val (.long yy), .second, .val (.ref b3), .val (.ref b10), .val (.int (fbt la za mm yy)), .val (.int (fbt mm yy la za)), .val (.int (fsm la za mm yy))] [(.int (fbt la za mm yy))]))
        refine Go.st (fun _ k' => XS.iloadN X25.here hx rfl (hb hby at_93) rfl k') ?_
        show Go p e below s _ _ _ (T25.setTop (mkF m 94 #[.val (.int la), .val (.long za), .second, .val (.int lb), .val (.long zb), .second, .val (.int sel), .val (.int mm), .val (.long yy), .second, .val (.ref b3), .val (.ref b10), .val (.int (fbt la za mm yy)), .val (.int (fbt mm yy la za)), .val (.int (fsm la za mm yy))] [(.int la), (.int (fbt la za mm yy))]))
        refine Go.st (fun _ k' => XS.lloadN X25.here hx rfl (hb hby at_94) rfl k') ?_
        show Go p e below s _ _ _ (T25.setTop (mkF m 95 #[.val (.int la), .val (.long za), .second, .val (.int lb), .val (.long zb), .second, .val (.int sel), .val (.int mm), .val (.long yy), .second, .val (.ref b3), .val (.ref b10), .val (.int (fbt la za mm yy)), .val (.int (fbt mm yy la za)), .val (.int (fsm la za mm yy))] [(.long za), (.int la), (.int (fbt la za mm yy))]))
        refine Go.st (fun _ k' => XS.iload X25.here hx rfl (hb hby at_95) rfl k') ?_
        show Go p e below s _ _ _ (T25.setTop (mkF m 97 #[.val (.int la), .val (.long za), .second, .val (.int lb), .val (.long zb), .second, .val (.int sel), .val (.int mm), .val (.long yy), .second, .val (.ref b3), .val (.ref b10), .val (.int (fbt la za mm yy)), .val (.int (fbt mm yy la za)), .val (.int (fsm la za mm yy))] [(.int mm), (.long za), (.int la), (.int (fbt la za mm yy))]))
        refine Go.st (fun _ k' => XS.lload X25.here hx rfl (hb hby at_97) rfl k') ?_
        show Go p e below s _ _ _ (T25.setTop (mkF m 99 #[.val (.int la), .val (.long za), .second, .val (.int lb), .val (.long zb), .second, .val (.int sel), .val (.int mm), .val (.long yy), .second, .val (.ref b3), .val (.ref b10), .val (.int (fbt la za mm yy)), .val (.int (fbt mm yy la za)), .val (.int (fsm la za mm yy))] [(.long yy), (.int mm), (.long za), (.int la), (.int (fbt la za mm yy))]))
        obtain ⟨_, _, ⟨T27, L27, k27, n27⟩, -, X27, ⟨Lc27, hQ27, l27, y27, z27⟩, st27⟩ := Jvm.LawKit.callS X25 hx (y := (⟨"com/example/exact_quorum/exactquorum/server/VoteBetterThanPinLaw", "expected", "(IJIJ)Z"⟩ : MethodName)) hown (mvT hZ (wdx hw 18 rfl)) (mvT hZ (wdx hw 19 rfl)) (mvT hZ (wdx hw 20 rfl)) (mvT hZ (wdx hw 21 rfl)) (by decide) (backOf (W := 1) (rm4 l Z a0 hw [] la za mm yy T17.heap n0 O17 ) hZ (wdx hw 21 rfl) (wdx hw 20 rfl) (by decide) (by decide)) (g := (mkF m 99 #[.val (.int la), .val (.long za), .second, .val (.int lb), .val (.long zb), .second, .val (.int sel), .val (.int mm), .val (.long yy), .second, .val (.ref b3), .val (.ref b10), .val (.int (fbt la za mm yy)), .val (.int (fbt mm yy la za)), .val (.int (fsm la za mm yy))] [(.long yy), (.int mm), (.long za), (.int la), (.int (fbt la za mm yy))])) rfl (by rw [hml]; rfl) (argsL := [(.int la), (.long za), (.int mm), (.long yy)]) (rest := [(.int (fbt la za mm yy))]) (lenOf pd__IJIJ_Z rfl) rfl (by show 2 * 0 + _ ≤ _; exact Nat.le_of_eq rfl) (hb hby at_99) (fun _ _ => ⟨rfl, eq25, (by exact Nat.le_of_ble_eq_true rfl), (by exact Nat.le_of_ble_eq_true rfl)⟩)
        dsimp only [Pt.U, Pt.locs, Pt.cells, Pt.slots] at X27 l27 y27 z27 st27 hQ27
        subst l27 y27 z27
        obtain ⟨rfl, Nq27, eq27⟩ := hQ27
        have N27 := Fr.app N25 Nq27
        refine Go.st st27 ?_
        show Go p e below s _ _ _ (T27.setTop (mkF m 102 #[.val (.int la), .val (.long za), .second, .val (.int lb), .val (.long zb), .second, .val (.int sel), .val (.int mm), .val (.long yy), .second, .val (.ref b3), .val (.ref b10), .val (.int (fbt la za mm yy)), .val (.int (fbt mm yy la za)), .val (.int (fsm la za mm yy))] [(.int (fexp la za mm yy)), (.int (fbt la za mm yy))]))
        refine Go.st (fun _ k' => XS.icmpNo X27.here hx rfl (hb hby at_102) rfl (XT.ii_ne_f (own_be _ _ _ _)) k') ?_
        show Go p e below s _ _ _ (T27.setTop (mkF m 105 #[.val (.int la), .val (.long za), .second, .val (.int lb), .val (.long zb), .second, .val (.int sel), .val (.int mm), .val (.long yy), .second, .val (.ref b3), .val (.ref b10), .val (.int (fbt la za mm yy)), .val (.int (fbt mm yy la za)), .val (.int (fsm la za mm yy))] []))
        refine Go.st (fun _ k' => XS.iload X27.here hx rfl (hb hby at_105) rfl k') ?_
        show Go p e below s _ _ _ (T27.setTop (mkF m 107 #[.val (.int la), .val (.long za), .second, .val (.int lb), .val (.long zb), .second, .val (.int sel), .val (.int mm), .val (.long yy), .second, .val (.ref b3), .val (.ref b10), .val (.int (fbt la za mm yy)), .val (.int (fbt mm yy la za)), .val (.int (fsm la za mm yy))] [(.int (fbt mm yy la za))]))
        refine Go.st (fun _ k' => XS.iload X27.here hx rfl (hb hby at_107) rfl k') ?_
        show Go p e below s _ _ _ (T27.setTop (mkF m 109 #[.val (.int la), .val (.long za), .second, .val (.int lb), .val (.long zb), .second, .val (.int sel), .val (.int mm), .val (.long yy), .second, .val (.ref b3), .val (.ref b10), .val (.int (fbt la za mm yy)), .val (.int (fbt mm yy la za)), .val (.int (fsm la za mm yy))] [(.int mm), (.int (fbt mm yy la za))]))
        refine Go.st (fun _ k' => XS.lload X27.here hx rfl (hb hby at_109) rfl k') ?_
        show Go p e below s _ _ _ (T27.setTop (mkF m 111 #[.val (.int la), .val (.long za), .second, .val (.int lb), .val (.long zb), .second, .val (.int sel), .val (.int mm), .val (.long yy), .second, .val (.ref b3), .val (.ref b10), .val (.int (fbt la za mm yy)), .val (.int (fbt mm yy la za)), .val (.int (fsm la za mm yy))] [(.long yy), (.int mm), (.int (fbt mm yy la za))]))
        refine Go.st (fun _ k' => XS.iloadN X27.here hx rfl (hb hby at_111) rfl k') ?_
        show Go p e below s _ _ _ (T27.setTop (mkF m 112 #[.val (.int la), .val (.long za), .second, .val (.int lb), .val (.long zb), .second, .val (.int sel), .val (.int mm), .val (.long yy), .second, .val (.ref b3), .val (.ref b10), .val (.int (fbt la za mm yy)), .val (.int (fbt mm yy la za)), .val (.int (fsm la za mm yy))] [(.int la), (.long yy), (.int mm), (.int (fbt mm yy la za))]))
        refine Go.st (fun _ k' => XS.lloadN X27.here hx rfl (hb hby at_112) rfl k') ?_
        show Go p e below s _ _ _ (T27.setTop (mkF m 113 #[.val (.int la), .val (.long za), .second, .val (.int lb), .val (.long zb), .second, .val (.int sel), .val (.int mm), .val (.long yy), .second, .val (.ref b3), .val (.ref b10), .val (.int (fbt la za mm yy)), .val (.int (fbt mm yy la za)), .val (.int (fsm la za mm yy))] [(.long za), (.int la), (.long yy), (.int mm), (.int (fbt mm yy la za))]))
        obtain ⟨_, _, ⟨T28, L28, k28, n28⟩, -, X28, ⟨Lc28, hQ28, l28, y28, z28⟩, st28⟩ := Jvm.LawKit.callS X27 hx (y := (⟨"com/example/exact_quorum/exactquorum/server/VoteBetterThanPinLaw", "expected", "(IJIJ)Z"⟩ : MethodName)) hown (mvT hZ (wdx hw 18 rfl)) (mvT hZ (wdx hw 19 rfl)) (mvT hZ (wdx hw 20 rfl)) (mvT hZ (wdx hw 21 rfl)) (by decide) (backOf (W := 1) (rm4 l Z a0 hw [] mm yy la za T17.heap n0 O17 ) hZ (wdx hw 21 rfl) (wdx hw 20 rfl) (by decide) (by decide)) (g := (mkF m 113 #[.val (.int la), .val (.long za), .second, .val (.int lb), .val (.long zb), .second, .val (.int sel), .val (.int mm), .val (.long yy), .second, .val (.ref b3), .val (.ref b10), .val (.int (fbt la za mm yy)), .val (.int (fbt mm yy la za)), .val (.int (fsm la za mm yy))] [(.long za), (.int la), (.long yy), (.int mm), (.int (fbt mm yy la za))])) rfl (by rw [hml]; rfl) (argsL := [(.int mm), (.long yy), (.int la), (.long za)]) (rest := [(.int (fbt mm yy la za))]) (lenOf pd__IJIJ_Z rfl) rfl (by show 2 * 0 + _ ≤ _; exact Nat.le_of_eq rfl) (hb hby at_113) (fun _ _ => ⟨rfl, eq27, (by exact Nat.le_of_ble_eq_true rfl), (by exact Nat.le_of_ble_eq_true rfl)⟩)
        dsimp only [Pt.U, Pt.locs, Pt.cells, Pt.slots] at X28 l28 y28 z28 st28 hQ28
        subst l28 y28 z28
        obtain ⟨rfl, Nq28, eq28⟩ := hQ28
        have N28 := Fr.app N27 Nq28
        refine Go.st st28 ?_
        show Go p e below s _ _ _ (T28.setTop (mkF m 116 #[.val (.int la), .val (.long za), .second, .val (.int lb), .val (.long zb), .second, .val (.int sel), .val (.int mm), .val (.long yy), .second, .val (.ref b3), .val (.ref b10), .val (.int (fbt la za mm yy)), .val (.int (fbt mm yy la za)), .val (.int (fsm la za mm yy))] [(.int (fexp mm yy la za)), (.int (fbt mm yy la za))]))
        refine Go.st (fun _ k' => XS.icmpNo X28.here hx rfl (hb hby at_116) rfl (XT.ii_ne_f (own_be _ _ _ _)) k') ?_
        show Go p e below s _ _ _ (T28.setTop (mkF m 119 #[.val (.int la), .val (.long za), .second, .val (.int lb), .val (.long zb), .second, .val (.int sel), .val (.int mm), .val (.long yy), .second, .val (.ref b3), .val (.ref b10), .val (.int (fbt la za mm yy)), .val (.int (fbt mm yy la za)), .val (.int (fsm la za mm yy))] []))
        rcases own_tri la za mm yy with ⟨t1, t2, t3⟩ | ⟨t1, t2, t3⟩ | ⟨t1, t2, t3⟩
        · rw [t1, t2, t3]
          show Go p e below s _ _ _ (T28.setTop (mkF m 119 #[.val (.int la), .val (.long za), .second, .val (.int lb), .val (.long zb), .second, .val (.int sel), .val (.int mm), .val (.long yy), .second, .val (.ref b3), .val (.ref b10), .val (.int (1 : Int32)), .val (.int (0 : Int32)), .val (.int (0 : Int32))] []))
          refine Go.st (fun _ k' => XS.iload X28.here hx rfl (hb hby at_119) rfl k') ?_
          show Go p e below s _ _ _ (T28.setTop (mkF m 121 #[.val (.int la), .val (.long za), .second, .val (.int lb), .val (.long zb), .second, .val (.int sel), .val (.int mm), .val (.long yy), .second, .val (.ref b3), .val (.ref b10), .val (.int (1 : Int32)), .val (.int (0 : Int32)), .val (.int (0 : Int32))] [(.int (1 : Int32))]))
          refine Go.st (fun _ k' => XS.ifNo X28.here hx rfl (hb hby at_121) rfl (XT.i0_eq_f (by decide)) k') ?_
          show Go p e below s _ _ _ (T28.setTop (mkF m 124 #[.val (.int la), .val (.long za), .second, .val (.int lb), .val (.long zb), .second, .val (.int sel), .val (.int mm), .val (.long yy), .second, .val (.ref b3), .val (.ref b10), .val (.int (1 : Int32)), .val (.int (0 : Int32)), .val (.int (0 : Int32))] []))
          refine Go.st (fun _ k' => XS.iload X28.here hx rfl (hb hby at_124) rfl k') ?_
          show Go p e below s _ _ _ (T28.setTop (mkF m 126 #[.val (.int la), .val (.long za), .second, .val (.int lb), .val (.long zb), .second, .val (.int sel), .val (.int mm), .val (.long yy), .second, .val (.ref b3), .val (.ref b10), .val (.int (1 : Int32)), .val (.int (0 : Int32)), .val (.int (0 : Int32))] [(.int (0 : Int32))]))
          refine Go.st (fun _ k' => XS.ifNo X28.here hx rfl (hb hby at_126) rfl (XT.i0_ne_f (by decide)) k') ?_
          show Go p e below s _ _ _ (T28.setTop (mkF m 129 #[.val (.int la), .val (.long za), .second, .val (.int lb), .val (.long zb), .second, .val (.int sel), .val (.int mm), .val (.long yy), .second, .val (.ref b3), .val (.ref b10), .val (.int (1 : Int32)), .val (.int (0 : Int32)), .val (.int (0 : Int32))] []))
          refine Go.st (fun _ k' => XS.iload X28.here hx rfl (hb hby at_129) rfl k') ?_
          show Go p e below s _ _ _ (T28.setTop (mkF m 131 #[.val (.int la), .val (.long za), .second, .val (.int lb), .val (.long zb), .second, .val (.int sel), .val (.int mm), .val (.long yy), .second, .val (.ref b3), .val (.ref b10), .val (.int (1 : Int32)), .val (.int (0 : Int32)), .val (.int (0 : Int32))] [(.int (1 : Int32))]))
          refine Go.st (fun _ k' => XS.ifYes X28.here hx rfl (pc0 := 131) (pc' := 139) rfl (hb hby at_131) rfl (XT.i0_ne_t (by decide)) (by decide) (by decide) k') ?_
          show Go p e below s _ _ _ (T28.setTop (mkF m 139 #[.val (.int la), .val (.long za), .second, .val (.int lb), .val (.long zb), .second, .val (.int sel), .val (.int mm), .val (.long yy), .second, .val (.ref b3), .val (.ref b10), .val (.int (1 : Int32)), .val (.int (0 : Int32)), .val (.int (0 : Int32))] []))
          refine Go.st (fun _ k' => XS.iconst X28.here hx rfl (hb hby at_139) k') ?_
          show Go p e below s _ _ _ (T28.setTop (mkF m 140 #[.val (.int la), .val (.long za), .second, .val (.int lb), .val (.long zb), .second, .val (.int sel), .val (.int mm), .val (.long yy), .second, .val (.ref b3), .val (.ref b10), .val (.int (1 : Int32)), .val (.int (0 : Int32)), .val (.int (0 : Int32))] [(.int (1 : Int32))]))
          refine Go.st (fun _ k' => XS.goto X28.here hx rfl (pc0 := 140) (pc' := 144) rfl (hb hby at_140) (by decide) (by decide) k') ?_
          show Go p e below s _ _ _ (T28.setTop (mkF m 144 #[.val (.int la), .val (.long za), .second, .val (.int lb), .val (.long zb), .second, .val (.int sel), .val (.int mm), .val (.long yy), .second, .val (.ref b3), .val (.ref b10), .val (.int (1 : Int32)), .val (.int (0 : Int32)), .val (.int (0 : Int32))] [(.int (1 : Int32))]))
          refine Go.st (fun _ k' => XS.iload X28.here hx rfl (hb hby at_144) rfl k') ?_
          show Go p e below s _ _ _ (T28.setTop (mkF m 146 #[.val (.int la), .val (.long za), .second, .val (.int lb), .val (.long zb), .second, .val (.int sel), .val (.int mm), .val (.long yy), .second, .val (.ref b3), .val (.ref b10), .val (.int (1 : Int32)), .val (.int (0 : Int32)), .val (.int (0 : Int32))] [(.int (0 : Int32)), (.int (1 : Int32))]))
          refine Go.st (fun _ k' => XS.ifNo X28.here hx rfl (hb hby at_146) rfl (XT.i0_ne_f (by decide)) k') ?_
          show Go p e below s _ _ _ (T28.setTop (mkF m 149 #[.val (.int la), .val (.long za), .second, .val (.int lb), .val (.long zb), .second, .val (.int sel), .val (.int mm), .val (.long yy), .second, .val (.ref b3), .val (.ref b10), .val (.int (1 : Int32)), .val (.int (0 : Int32)), .val (.int (0 : Int32))] [(.int (1 : Int32))]))
          refine Go.st (fun _ k' => XS.iconst X28.here hx rfl (hb hby at_149) k') ?_
          show Go p e below s _ _ _ (T28.setTop (mkF m 150 #[.val (.int la), .val (.long za), .second, .val (.int lb), .val (.long zb), .second, .val (.int sel), .val (.int mm), .val (.long yy), .second, .val (.ref b3), .val (.ref b10), .val (.int (1 : Int32)), .val (.int (0 : Int32)), .val (.int (0 : Int32))] [(.int (1 : Int32)), (.int (1 : Int32))]))
          refine Go.st (fun _ k' => XS.goto X28.here hx rfl (pc0 := 150) (pc' := 154) rfl (hb hby at_150) (by decide) (by decide) k') ?_
          show Go p e below s _ _ _ (T28.setTop (mkF m 154 #[.val (.int la), .val (.long za), .second, .val (.int lb), .val (.long zb), .second, .val (.int sel), .val (.int mm), .val (.long yy), .second, .val (.ref b3), .val (.ref b10), .val (.int (1 : Int32)), .val (.int (0 : Int32)), .val (.int (0 : Int32))] [(.int (1 : Int32)), (.int (1 : Int32))]))
          refine Go.st (fun _ k' => XS.icmpNo X28.here hx rfl (hb hby at_154) rfl (XT.ii_ne_f (by decide)) k') ?_
          show Go p e below s _ _ _ (T28.setTop (mkF m 157 #[.val (.int la), .val (.long za), .second, .val (.int lb), .val (.long zb), .second, .val (.int sel), .val (.int mm), .val (.long yy), .second, .val (.ref b3), .val (.ref b10), .val (.int (1 : Int32)), .val (.int (0 : Int32)), .val (.int (0 : Int32))] []))
          refine Go.st (fun _ k' => XS.iconst X28.here hx rfl (hb hby at_157) k') ?_
          show Go p e below s _ _ _ (T28.setTop (mkF m 158 #[.val (.int la), .val (.long za), .second, .val (.int lb), .val (.long zb), .second, .val (.int sel), .val (.int mm), .val (.long yy), .second, .val (.ref b3), .val (.ref b10), .val (.int (1 : Int32)), .val (.int (0 : Int32)), .val (.int (0 : Int32))] [(.int (1 : Int32))]))
          refine Go.st (fun _ k' => XS.goto X28.here hx rfl (pc0 := 158) (pc' := 162) rfl (hb hby at_158) (by decide) (by decide) k') ?_
          show Go p e below s _ _ _ (T28.setTop (mkF m 162 #[.val (.int la), .val (.long za), .second, .val (.int lb), .val (.long zb), .second, .val (.int sel), .val (.int mm), .val (.long yy), .second, .val (.ref b3), .val (.ref b10), .val (.int (1 : Int32)), .val (.int (0 : Int32)), .val (.int (0 : Int32))] [(.int (1 : Int32))]))
          refine Go.retB X28 hx hlk (t := .boolean) Bd.returns (by simp) (hb hby at_162) (by decide) (by decide) eq28 ?_
          exact ⟨rfl, N28, trivial⟩
        · rw [t1, t2, t3]
          show Go p e below s _ _ _ (T28.setTop (mkF m 119 #[.val (.int la), .val (.long za), .second, .val (.int lb), .val (.long zb), .second, .val (.int sel), .val (.int mm), .val (.long yy), .second, .val (.ref b3), .val (.ref b10), .val (.int (0 : Int32)), .val (.int (1 : Int32)), .val (.int (0 : Int32))] []))
          refine Go.st (fun _ k' => XS.iload X28.here hx rfl (hb hby at_119) rfl k') ?_
          show Go p e below s _ _ _ (T28.setTop (mkF m 121 #[.val (.int la), .val (.long za), .second, .val (.int lb), .val (.long zb), .second, .val (.int sel), .val (.int mm), .val (.long yy), .second, .val (.ref b3), .val (.ref b10), .val (.int (0 : Int32)), .val (.int (1 : Int32)), .val (.int (0 : Int32))] [(.int (0 : Int32))]))
          refine Go.st (fun _ k' => XS.ifYes X28.here hx rfl (pc0 := 121) (pc' := 129) rfl (hb hby at_121) rfl (XT.i0_eq_t (by decide)) (by decide) (by decide) k') ?_
          show Go p e below s _ _ _ (T28.setTop (mkF m 129 #[.val (.int la), .val (.long za), .second, .val (.int lb), .val (.long zb), .second, .val (.int sel), .val (.int mm), .val (.long yy), .second, .val (.ref b3), .val (.ref b10), .val (.int (0 : Int32)), .val (.int (1 : Int32)), .val (.int (0 : Int32))] []))
          refine Go.st (fun _ k' => XS.iload X28.here hx rfl (hb hby at_129) rfl k') ?_
          show Go p e below s _ _ _ (T28.setTop (mkF m 131 #[.val (.int la), .val (.long za), .second, .val (.int lb), .val (.long zb), .second, .val (.int sel), .val (.int mm), .val (.long yy), .second, .val (.ref b3), .val (.ref b10), .val (.int (0 : Int32)), .val (.int (1 : Int32)), .val (.int (0 : Int32))] [(.int (0 : Int32))]))
          refine Go.st (fun _ k' => XS.ifNo X28.here hx rfl (hb hby at_131) rfl (XT.i0_ne_f (by decide)) k') ?_
          show Go p e below s _ _ _ (T28.setTop (mkF m 134 #[.val (.int la), .val (.long za), .second, .val (.int lb), .val (.long zb), .second, .val (.int sel), .val (.int mm), .val (.long yy), .second, .val (.ref b3), .val (.ref b10), .val (.int (0 : Int32)), .val (.int (1 : Int32)), .val (.int (0 : Int32))] []))
          refine Go.st (fun _ k' => XS.iload X28.here hx rfl (hb hby at_134) rfl k') ?_
          show Go p e below s _ _ _ (T28.setTop (mkF m 136 #[.val (.int la), .val (.long za), .second, .val (.int lb), .val (.long zb), .second, .val (.int sel), .val (.int mm), .val (.long yy), .second, .val (.ref b3), .val (.ref b10), .val (.int (0 : Int32)), .val (.int (1 : Int32)), .val (.int (0 : Int32))] [(.int (1 : Int32))]))
          refine Go.st (fun _ k' => XS.ifNo X28.here hx rfl (hb hby at_136) rfl (XT.i0_eq_f (by decide)) k') ?_
          show Go p e below s _ _ _ (T28.setTop (mkF m 139 #[.val (.int la), .val (.long za), .second, .val (.int lb), .val (.long zb), .second, .val (.int sel), .val (.int mm), .val (.long yy), .second, .val (.ref b3), .val (.ref b10), .val (.int (0 : Int32)), .val (.int (1 : Int32)), .val (.int (0 : Int32))] []))
          refine Go.st (fun _ k' => XS.iconst X28.here hx rfl (hb hby at_139) k') ?_
          show Go p e below s _ _ _ (T28.setTop (mkF m 140 #[.val (.int la), .val (.long za), .second, .val (.int lb), .val (.long zb), .second, .val (.int sel), .val (.int mm), .val (.long yy), .second, .val (.ref b3), .val (.ref b10), .val (.int (0 : Int32)), .val (.int (1 : Int32)), .val (.int (0 : Int32))] [(.int (1 : Int32))]))
          refine Go.st (fun _ k' => XS.goto X28.here hx rfl (pc0 := 140) (pc' := 144) rfl (hb hby at_140) (by decide) (by decide) k') ?_
          show Go p e below s _ _ _ (T28.setTop (mkF m 144 #[.val (.int la), .val (.long za), .second, .val (.int lb), .val (.long zb), .second, .val (.int sel), .val (.int mm), .val (.long yy), .second, .val (.ref b3), .val (.ref b10), .val (.int (0 : Int32)), .val (.int (1 : Int32)), .val (.int (0 : Int32))] [(.int (1 : Int32))]))
          refine Go.st (fun _ k' => XS.iload X28.here hx rfl (hb hby at_144) rfl k') ?_
          show Go p e below s _ _ _ (T28.setTop (mkF m 146 #[.val (.int la), .val (.long za), .second, .val (.int lb), .val (.long zb), .second, .val (.int sel), .val (.int mm), .val (.long yy), .second, .val (.ref b3), .val (.ref b10), .val (.int (0 : Int32)), .val (.int (1 : Int32)), .val (.int (0 : Int32))] [(.int (0 : Int32)), (.int (1 : Int32))]))
          refine Go.st (fun _ k' => XS.ifNo X28.here hx rfl (hb hby at_146) rfl (XT.i0_ne_f (by decide)) k') ?_
          show Go p e below s _ _ _ (T28.setTop (mkF m 149 #[.val (.int la), .val (.long za), .second, .val (.int lb), .val (.long zb), .second, .val (.int sel), .val (.int mm), .val (.long yy), .second, .val (.ref b3), .val (.ref b10), .val (.int (0 : Int32)), .val (.int (1 : Int32)), .val (.int (0 : Int32))] [(.int (1 : Int32))]))
          refine Go.st (fun _ k' => XS.iconst X28.here hx rfl (hb hby at_149) k') ?_
          show Go p e below s _ _ _ (T28.setTop (mkF m 150 #[.val (.int la), .val (.long za), .second, .val (.int lb), .val (.long zb), .second, .val (.int sel), .val (.int mm), .val (.long yy), .second, .val (.ref b3), .val (.ref b10), .val (.int (0 : Int32)), .val (.int (1 : Int32)), .val (.int (0 : Int32))] [(.int (1 : Int32)), (.int (1 : Int32))]))
          refine Go.st (fun _ k' => XS.goto X28.here hx rfl (pc0 := 150) (pc' := 154) rfl (hb hby at_150) (by decide) (by decide) k') ?_
          show Go p e below s _ _ _ (T28.setTop (mkF m 154 #[.val (.int la), .val (.long za), .second, .val (.int lb), .val (.long zb), .second, .val (.int sel), .val (.int mm), .val (.long yy), .second, .val (.ref b3), .val (.ref b10), .val (.int (0 : Int32)), .val (.int (1 : Int32)), .val (.int (0 : Int32))] [(.int (1 : Int32)), (.int (1 : Int32))]))
          refine Go.st (fun _ k' => XS.icmpNo X28.here hx rfl (hb hby at_154) rfl (XT.ii_ne_f (by decide)) k') ?_
          show Go p e below s _ _ _ (T28.setTop (mkF m 157 #[.val (.int la), .val (.long za), .second, .val (.int lb), .val (.long zb), .second, .val (.int sel), .val (.int mm), .val (.long yy), .second, .val (.ref b3), .val (.ref b10), .val (.int (0 : Int32)), .val (.int (1 : Int32)), .val (.int (0 : Int32))] []))
          refine Go.st (fun _ k' => XS.iconst X28.here hx rfl (hb hby at_157) k') ?_
          show Go p e below s _ _ _ (T28.setTop (mkF m 158 #[.val (.int la), .val (.long za), .second, .val (.int lb), .val (.long zb), .second, .val (.int sel), .val (.int mm), .val (.long yy), .second, .val (.ref b3), .val (.ref b10), .val (.int (0 : Int32)), .val (.int (1 : Int32)), .val (.int (0 : Int32))] [(.int (1 : Int32))]))
          refine Go.st (fun _ k' => XS.goto X28.here hx rfl (pc0 := 158) (pc' := 162) rfl (hb hby at_158) (by decide) (by decide) k') ?_
          show Go p e below s _ _ _ (T28.setTop (mkF m 162 #[.val (.int la), .val (.long za), .second, .val (.int lb), .val (.long zb), .second, .val (.int sel), .val (.int mm), .val (.long yy), .second, .val (.ref b3), .val (.ref b10), .val (.int (0 : Int32)), .val (.int (1 : Int32)), .val (.int (0 : Int32))] [(.int (1 : Int32))]))
          refine Go.retB X28 hx hlk (t := .boolean) Bd.returns (by simp) (hb hby at_162) (by decide) (by decide) eq28 ?_
          exact ⟨rfl, N28, trivial⟩
        · rw [t1, t2, t3]
          show Go p e below s _ _ _ (T28.setTop (mkF m 119 #[.val (.int la), .val (.long za), .second, .val (.int lb), .val (.long zb), .second, .val (.int sel), .val (.int mm), .val (.long yy), .second, .val (.ref b3), .val (.ref b10), .val (.int (0 : Int32)), .val (.int (0 : Int32)), .val (.int (1 : Int32))] []))
          refine Go.st (fun _ k' => XS.iload X28.here hx rfl (hb hby at_119) rfl k') ?_
          show Go p e below s _ _ _ (T28.setTop (mkF m 121 #[.val (.int la), .val (.long za), .second, .val (.int lb), .val (.long zb), .second, .val (.int sel), .val (.int mm), .val (.long yy), .second, .val (.ref b3), .val (.ref b10), .val (.int (0 : Int32)), .val (.int (0 : Int32)), .val (.int (1 : Int32))] [(.int (0 : Int32))]))
          refine Go.st (fun _ k' => XS.ifYes X28.here hx rfl (pc0 := 121) (pc' := 129) rfl (hb hby at_121) rfl (XT.i0_eq_t (by decide)) (by decide) (by decide) k') ?_
          show Go p e below s _ _ _ (T28.setTop (mkF m 129 #[.val (.int la), .val (.long za), .second, .val (.int lb), .val (.long zb), .second, .val (.int sel), .val (.int mm), .val (.long yy), .second, .val (.ref b3), .val (.ref b10), .val (.int (0 : Int32)), .val (.int (0 : Int32)), .val (.int (1 : Int32))] []))
          refine Go.st (fun _ k' => XS.iload X28.here hx rfl (hb hby at_129) rfl k') ?_
          show Go p e below s _ _ _ (T28.setTop (mkF m 131 #[.val (.int la), .val (.long za), .second, .val (.int lb), .val (.long zb), .second, .val (.int sel), .val (.int mm), .val (.long yy), .second, .val (.ref b3), .val (.ref b10), .val (.int (0 : Int32)), .val (.int (0 : Int32)), .val (.int (1 : Int32))] [(.int (0 : Int32))]))
          refine Go.st (fun _ k' => XS.ifNo X28.here hx rfl (hb hby at_131) rfl (XT.i0_ne_f (by decide)) k') ?_
          show Go p e below s _ _ _ (T28.setTop (mkF m 134 #[.val (.int la), .val (.long za), .second, .val (.int lb), .val (.long zb), .second, .val (.int sel), .val (.int mm), .val (.long yy), .second, .val (.ref b3), .val (.ref b10), .val (.int (0 : Int32)), .val (.int (0 : Int32)), .val (.int (1 : Int32))] []))
          refine Go.st (fun _ k' => XS.iload X28.here hx rfl (hb hby at_134) rfl k') ?_
          show Go p e below s _ _ _ (T28.setTop (mkF m 136 #[.val (.int la), .val (.long za), .second, .val (.int lb), .val (.long zb), .second, .val (.int sel), .val (.int mm), .val (.long yy), .second, .val (.ref b3), .val (.ref b10), .val (.int (0 : Int32)), .val (.int (0 : Int32)), .val (.int (1 : Int32))] [(.int (0 : Int32))]))
          refine Go.st (fun _ k' => XS.ifYes X28.here hx rfl (pc0 := 136) (pc' := 143) rfl (hb hby at_136) rfl (XT.i0_eq_t (by decide)) (by decide) (by decide) k') ?_
          show Go p e below s _ _ _ (T28.setTop (mkF m 143 #[.val (.int la), .val (.long za), .second, .val (.int lb), .val (.long zb), .second, .val (.int sel), .val (.int mm), .val (.long yy), .second, .val (.ref b3), .val (.ref b10), .val (.int (0 : Int32)), .val (.int (0 : Int32)), .val (.int (1 : Int32))] []))
          refine Go.st (fun _ k' => XS.iconst X28.here hx rfl (hb hby at_143) k') ?_
          show Go p e below s _ _ _ (T28.setTop (mkF m 144 #[.val (.int la), .val (.long za), .second, .val (.int lb), .val (.long zb), .second, .val (.int sel), .val (.int mm), .val (.long yy), .second, .val (.ref b3), .val (.ref b10), .val (.int (0 : Int32)), .val (.int (0 : Int32)), .val (.int (1 : Int32))] [(.int (0 : Int32))]))
          refine Go.st (fun _ k' => XS.iload X28.here hx rfl (hb hby at_144) rfl k') ?_
          show Go p e below s _ _ _ (T28.setTop (mkF m 146 #[.val (.int la), .val (.long za), .second, .val (.int lb), .val (.long zb), .second, .val (.int sel), .val (.int mm), .val (.long yy), .second, .val (.ref b3), .val (.ref b10), .val (.int (0 : Int32)), .val (.int (0 : Int32)), .val (.int (1 : Int32))] [(.int (1 : Int32)), (.int (0 : Int32))]))
          refine Go.st (fun _ k' => XS.ifYes X28.here hx rfl (pc0 := 146) (pc' := 153) rfl (hb hby at_146) rfl (XT.i0_ne_t (by decide)) (by decide) (by decide) k') ?_
          show Go p e below s _ _ _ (T28.setTop (mkF m 153 #[.val (.int la), .val (.long za), .second, .val (.int lb), .val (.long zb), .second, .val (.int sel), .val (.int mm), .val (.long yy), .second, .val (.ref b3), .val (.ref b10), .val (.int (0 : Int32)), .val (.int (0 : Int32)), .val (.int (1 : Int32))] [(.int (0 : Int32))]))
          refine Go.st (fun _ k' => XS.iconst X28.here hx rfl (hb hby at_153) k') ?_
          show Go p e below s _ _ _ (T28.setTop (mkF m 154 #[.val (.int la), .val (.long za), .second, .val (.int lb), .val (.long zb), .second, .val (.int sel), .val (.int mm), .val (.long yy), .second, .val (.ref b3), .val (.ref b10), .val (.int (0 : Int32)), .val (.int (0 : Int32)), .val (.int (1 : Int32))] [(.int (0 : Int32)), (.int (0 : Int32))]))
          refine Go.st (fun _ k' => XS.icmpNo X28.here hx rfl (hb hby at_154) rfl (XT.ii_ne_f (by decide)) k') ?_
          show Go p e below s _ _ _ (T28.setTop (mkF m 157 #[.val (.int la), .val (.long za), .second, .val (.int lb), .val (.long zb), .second, .val (.int sel), .val (.int mm), .val (.long yy), .second, .val (.ref b3), .val (.ref b10), .val (.int (0 : Int32)), .val (.int (0 : Int32)), .val (.int (1 : Int32))] []))
          refine Go.st (fun _ k' => XS.iconst X28.here hx rfl (hb hby at_157) k') ?_
          show Go p e below s _ _ _ (T28.setTop (mkF m 158 #[.val (.int la), .val (.long za), .second, .val (.int lb), .val (.long zb), .second, .val (.int sel), .val (.int mm), .val (.long yy), .second, .val (.ref b3), .val (.ref b10), .val (.int (0 : Int32)), .val (.int (0 : Int32)), .val (.int (1 : Int32))] [(.int (1 : Int32))]))
          refine Go.st (fun _ k' => XS.goto X28.here hx rfl (pc0 := 158) (pc' := 162) rfl (hb hby at_158) (by decide) (by decide) k') ?_
          show Go p e below s _ _ _ (T28.setTop (mkF m 162 #[.val (.int la), .val (.long za), .second, .val (.int lb), .val (.long zb), .second, .val (.int sel), .val (.int mm), .val (.long yy), .second, .val (.ref b3), .val (.ref b10), .val (.int (0 : Int32)), .val (.int (0 : Int32)), .val (.int (1 : Int32))] [(.int (1 : Int32))]))
          refine Go.retB X28 hx hlk (t := .boolean) Bd.returns (by simp) (hb hby at_162) (by decide) (by decide) eq28 ?_
          exact ⟨rfl, N28, trivial⟩
      refine Go.st (fun _ k' => XS.iloadN X25.here hx rfl (hb hby at_71) rfl k') ?_
      show Go p e below s _ _ _ (T25.setTop (mkF m 72 #[.val (.int la), .val (.long za), .second, .val (.int lb), .val (.long zb), .second, .val (.int sel), .val (.int mm), .val (.long yy), .second, .val (.ref b3), .val (.ref b10), .val (.int (fbt la za mm yy)), .val (.int (fbt mm yy la za)), .unset] [(.int la)]))
      refine Go.st (fun _ k' => XS.iload X25.here hx rfl (hb hby at_72) rfl k') ?_
      show Go p e below s _ _ _ (T25.setTop (mkF m 74 #[.val (.int la), .val (.long za), .second, .val (.int lb), .val (.long zb), .second, .val (.int sel), .val (.int mm), .val (.long yy), .second, .val (.ref b3), .val (.ref b10), .val (.int (fbt la za mm yy)), .val (.int (fbt mm yy la za)), .unset] [(.int mm), (.int la)]))
      by_cases hc29 : la = mm
      · refine Go.st (fun _ k' => XS.icmpNo X25.here hx rfl (hb hby at_74) rfl (XT.ii_ne_f hc29) k') ?_
        show Go p e below s _ _ _ (T25.setTop (mkF m 77 #[.val (.int la), .val (.long za), .second, .val (.int lb), .val (.long zb), .second, .val (.int sel), .val (.int mm), .val (.long yy), .second, .val (.ref b3), .val (.ref b10), .val (.int (fbt la za mm yy)), .val (.int (fbt mm yy la za)), .unset] []))
        refine Go.st (fun _ k' => XS.lloadN X25.here hx rfl (hb hby at_77) rfl k') ?_
        show Go p e below s _ _ _ (T25.setTop (mkF m 78 #[.val (.int la), .val (.long za), .second, .val (.int lb), .val (.long zb), .second, .val (.int sel), .val (.int mm), .val (.long yy), .second, .val (.ref b3), .val (.ref b10), .val (.int (fbt la za mm yy)), .val (.int (fbt mm yy la za)), .unset] [(.long za)]))
        refine Go.st (fun _ k' => XS.lload X25.here hx rfl (hb hby at_78) rfl k') ?_
        show Go p e below s _ _ _ (T25.setTop (mkF m 80 #[.val (.int la), .val (.long za), .second, .val (.int lb), .val (.long zb), .second, .val (.int sel), .val (.int mm), .val (.long yy), .second, .val (.ref b3), .val (.ref b10), .val (.int (fbt la za mm yy)), .val (.int (fbt mm yy la za)), .unset] [(.long yy), (.long za)]))
        refine Go.st (fun _ k' => XT.lcmp X25.here hx rfl (hb hby at_80) rfl k') ?_
        show Go p e below s _ _ _ (T25.setTop (mkF m 81 #[.val (.int la), .val (.long za), .second, .val (.int lb), .val (.long zb), .second, .val (.int sel), .val (.int mm), .val (.long yy), .second, .val (.ref b3), .val (.ref b10), .val (.int (fbt la za mm yy)), .val (.int (fbt mm yy la za)), .unset] [(.int (XT.cmpL za yy))]))
        by_cases hc30 : za = yy
        · refine Go.st (fun _ k' => XS.ifNo X25.here hx rfl (hb hby at_81) rfl (XT.ll_ne_f hc30) k') ?_
          show Go p e below s _ _ _ (T25.setTop (mkF m 84 #[.val (.int la), .val (.long za), .second, .val (.int lb), .val (.long zb), .second, .val (.int sel), .val (.int mm), .val (.long yy), .second, .val (.ref b3), .val (.ref b10), .val (.int (fbt la za mm yy)), .val (.int (fbt mm yy la za)), .unset] []))
          refine Go.st (fun _ k' => XS.iconst X25.here hx rfl (hb hby at_84) k') ?_
          show Go p e below s _ _ _ (T25.setTop (mkF m 85 #[.val (.int la), .val (.long za), .second, .val (.int lb), .val (.long zb), .second, .val (.int sel), .val (.int mm), .val (.long yy), .second, .val (.ref b3), .val (.ref b10), .val (.int (fbt la za mm yy)), .val (.int (fbt mm yy la za)), .unset] [(.int (1 : Int32))]))
          refine Go.st (fun _ k' => XS.goto X25.here hx rfl (pc0 := 85) (pc' := 89) rfl (hb hby at_85) (by decide) (by decide) k') ?_
          show Go p e below s _ _ _ (T25.setTop (mkF m 89 #[.val (.int la), .val (.long za), .second, .val (.int lb), .val (.long zb), .second, .val (.int sel), .val (.int mm), .val (.long yy), .second, .val (.ref b3), .val (.ref b10), .val (.int (fbt la za mm yy)), .val (.int (fbt mm yy la za)), .unset] [(.int (1 : Int32))]))
          exact J26 (1 : Int32) (by simp [fsm, hc29, hc30])
        · refine Go.st (fun _ k' => XS.ifYes X25.here hx rfl (pc0 := 81) (pc' := 88) rfl (hb hby at_81) rfl (XT.ll_ne_t hc30) (by decide) (by decide) k') ?_
          show Go p e below s _ _ _ (T25.setTop (mkF m 88 #[.val (.int la), .val (.long za), .second, .val (.int lb), .val (.long zb), .second, .val (.int sel), .val (.int mm), .val (.long yy), .second, .val (.ref b3), .val (.ref b10), .val (.int (fbt la za mm yy)), .val (.int (fbt mm yy la za)), .unset] []))
          refine Go.st (fun _ k' => XS.iconst X25.here hx rfl (hb hby at_88) k') ?_
          show Go p e below s _ _ _ (T25.setTop (mkF m 89 #[.val (.int la), .val (.long za), .second, .val (.int lb), .val (.long zb), .second, .val (.int sel), .val (.int mm), .val (.long yy), .second, .val (.ref b3), .val (.ref b10), .val (.int (fbt la za mm yy)), .val (.int (fbt mm yy la za)), .unset] [(.int (0 : Int32))]))
          exact J26 (0 : Int32) (by simp [fsm, hc29, hc30])
      · refine Go.st (fun _ k' => XS.icmpYes X25.here hx rfl (pc0 := 74) (pc' := 88) rfl (hb hby at_74) rfl (XT.ii_ne_t hc29) (by decide) (by decide) k') ?_
        show Go p e below s _ _ _ (T25.setTop (mkF m 88 #[.val (.int la), .val (.long za), .second, .val (.int lb), .val (.long zb), .second, .val (.int sel), .val (.int mm), .val (.long yy), .second, .val (.ref b3), .val (.ref b10), .val (.int (fbt la za mm yy)), .val (.int (fbt mm yy la za)), .unset] []))
        refine Go.st (fun _ k' => XS.iconst X25.here hx rfl (hb hby at_88) k') ?_
        show Go p e below s _ _ _ (T25.setTop (mkF m 89 #[.val (.int la), .val (.long za), .second, .val (.int lb), .val (.long zb), .second, .val (.int sel), .val (.int mm), .val (.long yy), .second, .val (.ref b3), .val (.ref b10), .val (.int (fbt la za mm yy)), .val (.int (fbt mm yy la za)), .unset] [(.int (0 : Int32))]))
        exact J26 (0 : Int32) (by simp [fsm, hc29])
    refine Go.st (fun _ k' => XS.iload X0.here hx rfl (hb hby at_14) rfl k') ?_
    show Go p e below s _ _ _ (s₁.setTop (mkF m 16 #[.val (.int la), .val (.long za), .second, .val (.int lb), .val (.long zb), .second, .val (.int sel), .val (.int mm), .unset, .unset, .unset, .unset, .unset, .unset, .unset] [(.int sel)]))
    refine Go.st (fun _ k' => XS.iconst X0.here hx rfl (hb hby at_16) k') ?_
    show Go p e below s _ _ _ (s₁.setTop (mkF m 17 #[.val (.int la), .val (.long za), .second, .val (.int lb), .val (.long zb), .second, .val (.int sel), .val (.int mm), .unset, .unset, .unset, .unset, .unset, .unset, .unset] [(.int (1 : Int32)), (.int sel)]))
    refine Go.st (fun _ k' => XS.iand X0.here hx rfl (hb hby at_17) rfl k') ?_
    show Go p e below s _ _ _ (s₁.setTop (mkF m 18 #[.val (.int la), .val (.long za), .second, .val (.int lb), .val (.long zb), .second, .val (.int sel), .val (.int mm), .unset, .unset, .unset, .unset, .unset, .unset, .unset] [(.int (sel &&& (1 : Int32)))]))
    by_cases hc31 : (sel &&& (1 : Int32)) = (0 : Int32)
    · refine Go.st (fun _ k' => XS.ifYes X0.here hx rfl (pc0 := 18) (pc' := 25) rfl (hb hby at_18) rfl (XT.i0_eq_t hc31) (by decide) (by decide) k') ?_
      show Go p e below s _ _ _ (s₁.setTop (mkF m 25 #[.val (.int la), .val (.long za), .second, .val (.int lb), .val (.long zb), .second, .val (.int sel), .val (.int mm), .unset, .unset, .unset, .unset, .unset, .unset, .unset] []))
      refine Go.st (fun _ k' => XS.lload X0.here hx rfl (hb hby at_25) rfl k') ?_
      show Go p e below s _ _ _ (s₁.setTop (mkF m 27 #[.val (.int la), .val (.long za), .second, .val (.int lb), .val (.long zb), .second, .val (.int sel), .val (.int mm), .unset, .unset, .unset, .unset, .unset, .unset, .unset] [(.long zb)]))
      exact J2 zb
    · refine Go.st (fun _ k' => XS.ifNo X0.here hx rfl (hb hby at_18) rfl (XT.i0_eq_f hc31) k') ?_
      show Go p e below s _ _ _ (s₁.setTop (mkF m 21 #[.val (.int la), .val (.long za), .second, .val (.int lb), .val (.long zb), .second, .val (.int sel), .val (.int mm), .unset, .unset, .unset, .unset, .unset, .unset, .unset] []))
      refine Go.st (fun _ k' => XS.lloadN X0.here hx rfl (hb hby at_21) rfl k') ?_
      show Go p e below s _ _ _ (s₁.setTop (mkF m 22 #[.val (.int la), .val (.long za), .second, .val (.int lb), .val (.long zb), .second, .val (.int sel), .val (.int mm), .unset, .unset, .unset, .unset, .unset, .unset, .unset] [(.long za)]))
      refine Go.st (fun _ k' => XS.goto X0.here hx rfl (pc0 := 22) (pc' := 27) rfl (hb hby at_22) (by decide) (by decide) k') ?_
      show Go p e below s _ _ _ (s₁.setTop (mkF m 27 #[.val (.int la), .val (.long za), .second, .val (.int lb), .val (.long zb), .second, .val (.int sel), .val (.int mm), .unset, .unset, .unset, .unset, .unset, .unset, .unset] [(.long za)]))
      exact J2 za
  refine Go.st (fun _ k' => XS.iload X0.here hx rfl (hb hby at_0) rfl k') ?_
  show Go p e below s _ _ _ (s₁.setTop (mkF m 2 #[.val (.int la), .val (.long za), .second, .val (.int lb), .val (.long zb), .second, .val (.int sel), .unset, .unset, .unset, .unset, .unset, .unset, .unset, .unset] [(.int sel)]))
  refine Go.st (fun _ k' => XS.iconst X0.here hx rfl (hb hby at_2) k') ?_
  show Go p e below s _ _ _ (s₁.setTop (mkF m 3 #[.val (.int la), .val (.long za), .second, .val (.int lb), .val (.long zb), .second, .val (.int sel), .unset, .unset, .unset, .unset, .unset, .unset, .unset, .unset] [(.int (2 : Int32)), (.int sel)]))
  refine Go.st (fun _ k' => XS.iand X0.here hx rfl (hb hby at_3) rfl k') ?_
  show Go p e below s _ _ _ (s₁.setTop (mkF m 4 #[.val (.int la), .val (.long za), .second, .val (.int lb), .val (.long zb), .second, .val (.int sel), .unset, .unset, .unset, .unset, .unset, .unset, .unset, .unset] [(.int (sel &&& (2 : Int32)))]))
  by_cases hc32 : (sel &&& (2 : Int32)) = (0 : Int32)
  · refine Go.st (fun _ k' => XS.ifYes X0.here hx rfl (pc0 := 4) (pc' := 11) rfl (hb hby at_4) rfl (XT.i0_eq_t hc32) (by decide) (by decide) k') ?_
    show Go p e below s _ _ _ (s₁.setTop (mkF m 11 #[.val (.int la), .val (.long za), .second, .val (.int lb), .val (.long zb), .second, .val (.int sel), .unset, .unset, .unset, .unset, .unset, .unset, .unset, .unset] []))
    refine Go.st (fun _ k' => XS.iloadN X0.here hx rfl (hb hby at_11) rfl k') ?_
    show Go p e below s _ _ _ (s₁.setTop (mkF m 12 #[.val (.int la), .val (.long za), .second, .val (.int lb), .val (.long zb), .second, .val (.int sel), .unset, .unset, .unset, .unset, .unset, .unset, .unset, .unset] [(.int lb)]))
    exact J1 lb
  · refine Go.st (fun _ k' => XS.ifNo X0.here hx rfl (hb hby at_4) rfl (XT.i0_eq_f hc32) k') ?_
    show Go p e below s _ _ _ (s₁.setTop (mkF m 7 #[.val (.int la), .val (.long za), .second, .val (.int lb), .val (.long zb), .second, .val (.int sel), .unset, .unset, .unset, .unset, .unset, .unset, .unset, .unset] []))
    refine Go.st (fun _ k' => XS.iloadN X0.here hx rfl (hb hby at_7) rfl k') ?_
    show Go p e below s _ _ _ (s₁.setTop (mkF m 8 #[.val (.int la), .val (.long za), .second, .val (.int lb), .val (.long zb), .second, .val (.int sel), .unset, .unset, .unset, .unset, .unset, .unset, .unset, .unset] [(.int la)]))
    refine Go.st (fun _ k' => XS.goto X0.here hx rfl (pc0 := 8) (pc' := 12) rfl (hb hby at_8) (by decide) (by decide) k') ?_
    show Go p e below s _ _ _ (s₁.setTop (mkF m 12 #[.val (.int la), .val (.long za), .second, .val (.int lb), .val (.long zb), .second, .val (.int sel), .unset, .unset, .unset, .unset, .unset, .unset, .unset, .unset] [(.int la)]))
    exact J1 la
set_option maxRecDepth 65536 in
set_option maxHeartbeats 40000000 in
theorem comes_1 {Post : Tables → Env → Array Value → State → Outcome → State → Prop} (hpost : ∀ tb e args s v u, (limb_1_1.after args s (.returned v) u = true ∧ limb_1_2.after args s (.returned v) u = true ∧ True) → FrameEnd s (.returned v) u (Jvm.fieldLocs frame_1_writes args s ++ Jvm.arrayLocs frame_1_arrays args s ++ Jvm.staticLocs frame_1_statics s) 16 128 → Post tb e args s (.returned v) u) :
    ArmFor flags0 classFile x code maxLocals ret World_1 tables_1 room_1 Calls_1 rest_1 Pre_1 Post := by
  intro l hfl _ _ p e ha hc hk s m args below hf hA hF happ hP
  obtain ⟨hcalls, hrest, hpre⟩ := hP
  obtain ⟨-, -, -, hnamed, -, -, -, hat⟩ := (Spec.applies_iff hf).mp happ
  obtain ⟨hg, hn⟩ := and_e (Cond.before_iff.mp (show (Jvm.Cond.and given_1 narrow_1).before args s = true from hpre))
  obtain ⟨hcnt, hg0⟩ := and_e hg
  obtain ⟨ha0, hg1⟩ := and_e hg0
  obtain ⟨ha1, hg2⟩ := and_e hg1
  obtain ⟨ha2, hg3⟩ := and_e hg2
  obtain ⟨ha3, hg4⟩ := and_e hg3
  have ha4 := hg4
  obtain ⟨w0, w1, w2, w3, w4, rfl⟩ : ∃ w0 w1 w2 w3 w4 : Value, args = #[w0, w1, w2, w3, w4] := by
    have hs : args.size = 5 := by simpa [Cond.value, given_1] using hcnt
    obtain ⟨L⟩ := args
    match L, hs with
    | [w0, w1, w2, w3, w4], _ => exact ⟨w0, w1, w2, w3, w4, rfl⟩
  have hw := fun d (hd : d ∈ tables_1) => atoms_spec (ws := Jvm.Cond.code x code maxLocals ret :: tables_1) hat d (List.mem_cons_of_mem _ hd)
  have hfit : Fit s := fun {y c} hc i hi => by
    obtain ⟨ha, rfl⟩ := Array.getElem?_eq_some_iff.mp hc
    have q := List.all_eq_true.mp ((Array.all_eq_true_iff_forall_mem.mp hF) _ (Array.getElem_mem ha)) i (List.mem_range.mpr hi)
    simpa [Array.getElem?_eq_getElem hi] using q
  obtain ⟨i0, ei0⟩ := is_v ha0
  obtain rfl : w0 = (.int i0) := Option.some.inj ei0
  obtain ⟨i1, ei1⟩ := isL_v ha1
  obtain rfl : w1 = (.long i1) := Option.some.inj ei1
  obtain ⟨i2, ei2⟩ := is_v ha2
  obtain rfl : w2 = (.int i2) := Option.some.inj ei2
  obtain ⟨i3, ei3⟩ := isL_v ha3
  obtain rfl : w3 = (.long i3) := Option.some.inj ei3
  obtain ⟨i4, ei4⟩ := is_v ha4
  obtain rfl : w4 = (.int i4) := Option.some.inj ei4
  obtain ⟨n, o, h1, h2, h3, _, L, rfl, ⟨rfl, N, -⟩, hq⟩ := rm0 l s _ hw tables_1 i0 i1 i2 i3 i4 s.heap s.heap.size (Old.start s)  p e ha hc hk s m _ below hf ((Spec.applies_iff_loose hf).mp happ).1 ⟨rfl, State.Warmed39.refl s, rfl⟩ trivial
  refine ⟨n, _, h1, h2, h3, hpost _ _ _ _ _ _ ⟨Cond.after_iff.mpr rfl, Cond.after_iff.mpr (eq_i res_at (Term.int_eval (1)) rfl), trivial⟩ ⟨hq.1, hq.2.1, (hq.2.2.sift fun y hy => Or.inr (N y hy)).mono (by decide) (by decide)⟩⟩
theorem main_1_1 : Claimed_1_1 := comes_1 fun _ _ _ _ _ _ h hF => ⟨h.1, hF⟩
theorem main_1_2 : Claimed_1_2 := comes_1 fun _ _ _ _ _ _ h hF => ⟨h.2.1, hF⟩
end Jvm.Pilot.@@N@@
namespace Jvm.Pilot.@@N@@
open Jvm Jvm.ClassFile Sem Op Lib Jvm.Free Jvm.Stand Jvm.Pilot.@@N@@.Jvm.D
/-! MADE BY PROGRAM (witnessworld.py) out of the Statement's table words and the real class files: 9 classes; the members and pool entries that the words name. The judged class is class 1, her method 1. -/
namespace start1
open Jvm.ClassFile
def u (s : String) : CpInfo := .utf8 (stringToUtf16 s)
/-- a pool by its gaps: so many unusable entries, then the entry; so many at the end -/
def gap : Nat → List CpInfo → List CpInfo
  | 0, r => r
  | n + 1, r => .unusable :: gap n r
def poolList (es : List (Nat × CpInfo)) (last : Nat) : List CpInfo := es.foldr (fun e r => gap e.1 (e.2 :: r)) (gap last [])
def pool (es : List (Nat × CpInfo)) (last : Nat) : Array CpInfo := ⟨poolList es last⟩
def fileOf (pool : Array CpInfo) (this : Nat) (attrs : Array Attribute := #[]) (ms : Array MethodInfo := #[]) (fl : Nat := 33) (sup : Nat := 0) (ifs : Array Nat := #[]) (fds : Array FieldInfo := #[]) : ClassFile where
  minorVersion := 0
  majorVersion := 65
  constantPool := pool
  accessFlags := fl
  thisClass := this
  superClass := sup
  interfaces := ifs
  fields := fds
  methods := ms
  attributes := attrs
def plain (name : String) (sup : Option ClassId) : Class where
  name := name
  kind := .ordinary
  loader := none
  accessFlags := 33
  super := sup
  interfaces := #[]
  cf := none
  fields := #[]
  methods := #[]
  instanceTypes := #[]
  staticTypes := #[]
  resolved := #[]
  callSites := []
  init := .initialized
  statics := none
  mirror := none

def pool0 : Array CpInfo := pool [(5, u "<init>"), (0, u "()V"), (1, .class_ 10), (1, u "java/lang/Object")] 113

def k0c0 : Code := { maxStack := 0, maxLocals := 1, code := object_method_1_code, exceptionTable := #[], attributes := #[] }
def k0m0 : Method := { name := "<init>", desc := "()V", sig := { parameters := [], returnType := none }, accessFlags := 1, code := some k0c0 }
/-- java/lang/Object -/
def k0 : Class := { plain "java/lang/Object" none with
  accessFlags := 33
  interfaces := #[]
  cf := some (fileOf pool0 8 #[] #[{ accessFlags := 1, nameIndex := 5, descriptorIndex := 6, attributes := #[] }] 33 0 #[] #[])
  fields := #[]
  methods := #[k0m0]
  instanceTypes := #[]
  staticTypes := #[]
  resolved := Array.replicate 124 none
  statics := none }

def pool1 : Array CpInfo := pool [(2, .class_ 4), (1, u "java/lang/Object"), (0, u "<init>"), (0, u "()V"), (0, .class_ 8), (0, u "com/example/exact_quorum/exactquorum/server/Election$Vote"), (0, .methodref 7 10), (0, .nameAndType 5 11), (0, u "(IJ)V"), (0, .methodref 7 13), (0, .nameAndType 14 15), (0, u "betterThan"), (0, u "(Lcom/example/exact_quorum/exactquorum/server/Election$Vote;)Z"), (0, .methodref 17 18), (0, .class_ 19), (0, .nameAndType 20 21), (0, u "com/example/exact_quorum/exactquorum/server/VoteBetterThanPinLaw"), (0, u "expected"), (0, u "(IJIJ)Z"), (2, u "law"), (0, u "(IJIJI)Z")] 7

def k1m0 : Method := { name := "<init>", desc := "()V", sig := { parameters := [], returnType := none }, accessFlags := 1, code := none }
def k1c1 : Code := { maxStack := 7, maxLocals := 15, code := code, exceptionTable := #[], attributes := #[] }
def k1m1 : Method := { name := "law", desc := "(IJIJI)Z", sig := { parameters := [.int, .long, .int, .long, .int], returnType := some .boolean }, accessFlags := 9, code := some k1c1 }
def k1c2 : Code := { maxStack := 4, maxLocals := 6, code := method_3_code, exceptionTable := #[], attributes := #[] }
def k1m2 : Method := { name := "expected", desc := "(IJIJ)Z", sig := { parameters := [.int, .long, .int, .long], returnType := some .boolean }, accessFlags := 10, code := some k1c2 }
/-- com/example/exact_quorum/exactquorum/server/VoteBetterThanPinLaw -/
def k1 : Class := { plain "com/example/exact_quorum/exactquorum/server/VoteBetterThanPinLaw" (some 0) with
  accessFlags := 49
  interfaces := #[]
  cf := some (fileOf pool1 17 #[] #[{ accessFlags := 1, nameIndex := 5, descriptorIndex := 6, attributes := #[] }, { accessFlags := 9, nameIndex := 24, descriptorIndex := 25, attributes := #[] }, { accessFlags := 10, nameIndex := 20, descriptorIndex := 21, attributes := #[] }] 49 2 #[] #[])
  fields := #[]
  methods := #[k1m0, k1m1, k1m2]
  instanceTypes := #[]
  staticTypes := #[]
  resolved := Array.replicate 33 none
  statics := none }

def pool2 : Array CpInfo := pool [(1, .methodref 2 3), (0, .class_ 4), (0, .nameAndType 5 6), (0, u "java/lang/Object"), (0, u "<init>"), (0, u "()V"), (0, .fieldref 8 9), (0, .class_ 10), (0, .nameAndType 11 12), (0, u "com/example/exact_quorum/exactquorum/server/Election$Vote"), (0, u "leader"), (0, u "I"), (0, .fieldref 8 14), (0, .nameAndType 15 16), (0, u "zxid"), (0, u "J"), (19, u "(IJ)V"), (4, u "betterThan"), (0, u "(Lcom/example/exact_quorum/exactquorum/server/Election$Vote;)Z"), (8, .class_ 52), (0, u "com/example/exact_quorum/exactquorum/server/Election")] 16

def k2c0 : Code := { maxStack := 3, maxLocals := 4, code := prog_77_method_1_code, exceptionTable := #[], attributes := #[] }
def k2m0 : Method := { name := "<init>", desc := "(IJ)V", sig := { parameters := [.int, .long], returnType := none }, accessFlags := 0, code := some k2c0 }
def k2c1 : Code := { maxStack := 4, maxLocals := 2, code := prog_77_method_4_code, exceptionTable := #[], attributes := #[] }
def k2m1 : Method := { name := "betterThan", desc := "(Lcom/example/exact_quorum/exactquorum/server/Election$Vote;)Z", sig := { parameters := [(.object "com/example/exact_quorum/exactquorum/server/Election$Vote")], returnType := some .boolean }, accessFlags := 0, code := some k2c1 }
/-- com/example/exact_quorum/exactquorum/server/Election$Vote -/
def k2 : Class := { plain "com/example/exact_quorum/exactquorum/server/Election$Vote" (some 0) with
  accessFlags := 48
  interfaces := #[]
  cf := some (fileOf pool2 8 #[.nestHost 51] #[{ accessFlags := 0, nameIndex := 5, descriptorIndex := 36, attributes := #[] }, { accessFlags := 0, nameIndex := 41, descriptorIndex := 42, attributes := #[] }] 48 2 #[] #[{ accessFlags := 18, nameIndex := 11, descriptorIndex := 12, attributes := #[] }, { accessFlags := 18, nameIndex := 15, descriptorIndex := 16, attributes := #[] }])
  fields := #[{ name := "leader", type := .int, accessFlags := 18, slot := 0, constantValue := 0 }, { name := "zxid", type := .long, accessFlags := 18, slot := 1, constantValue := 0 }]
  methods := #[k2m0, k2m1]
  instanceTypes := #[.int, .long]
  staticTypes := #[]
  resolved := Array.replicate 69 none
  statics := none }

def pool3 : Array CpInfo := pool [(1, u "java/lang/Cloneable"), (0, .class_ 1), (0, u "java/lang/Object"), (0, .class_ 3)] 3

/-- java/lang/Cloneable -/
def k3 : Class := { plain "java/lang/Cloneable" (some 0) with
  accessFlags := 1537
  interfaces := #[]
  cf := some (fileOf pool3 2 #[] #[] 1537 4 #[] #[])
  fields := #[]
  methods := #[]
  instanceTypes := #[]
  staticTypes := #[]
  resolved := Array.replicate 8 none
  statics := none }

def pool4 : Array CpInfo := pool [(1, u "java/io/Serializable"), (0, .class_ 1), (0, u "java/lang/Object"), (0, .class_ 3)] 3

/-- java/io/Serializable -/
def k4 : Class := { plain "java/io/Serializable" (some 0) with
  accessFlags := 1537
  interfaces := #[]
  cf := some (fileOf pool4 2 #[] #[] 1537 4 #[] #[])
  fields := #[]
  methods := #[]
  instanceTypes := #[]
  staticTypes := #[]
  resolved := Array.replicate 8 none
  statics := none }

/-- the primitive byte -/
def k5 : Class := { plain "byte" none with kind := .primitive 'B', accessFlags := 0x411 }
/-- [B -/
def k6 : Class := { plain "[B" (some 0) with kind := .array 5 .byte, interfaces := #[3, 4], accessFlags := 1041 }

/-- the primitive int -/
def k7 : Class := { plain "int" none with kind := .primitive 'I', accessFlags := 0x411 }
/-- [I -/
def k8 : Class := { plain "[I" (some 0) with kind := .array 7 .int, interfaces := #[3, 4], accessFlags := 1041 }

def heap : Heap := #[]
def classes : Array Class := #[k0, k1, k2, k3, k4, k5, k6, k7, k8]
def interned : List (Array UInt16 × Addr) := []
def slotsUsed : Nat := 0
def theMethod : MethodId := ⟨1, 1⟩
def args0 : Array Value := #[.int 5, .long 5, .int 5, .long 5, .int 5]
def aboutOver (below : List Frame) : State where
  vm := { classes := classes, interned := interned.toArray }
  heap := heap
  slotsUsed := slotsUsed
  threads := #[{ frames := .invoking theMethod args0 :: below }]
def below0 : List Frame := [.native { method := ⟨0, 0⟩, args := #[] }]
def about1 : State := aboutOver below0
def p0 : Program := .bare "" "" ""
def e0 : Env := launch0.env 0 0 0
theorem w_frames : about1.frames = Frame.invoking theMethod args0 :: below0 := rfl
set_option maxRecDepth 65536 in
theorem w_args : argsFit about1.vm theMethod args0 = true := by decide +kernel
set_option maxRecDepth 65536 in
theorem w_heap : heapFits about1 = true := by decide +kernel
set_option maxRecDepth 65536 in
theorem w_runnable : about1.curStatus? = some .runnable := by decide +kernel
set_option maxRecDepth 65536 in
theorem w_alone : about1.alone = true := by decide +kernel
set_option maxRecDepth 65536 in
theorem w_named : about1.methodNamed? x = some theMethod := by decide +kernel
set_option maxRecDepth 65536 in
theorem w_hears : about1.hears theMethod below0 = true := by decide +kernel
set_option maxRecDepth 65536 in
theorem w_ripe : about1.ripe theMethod args0 below0 = true := by decide +kernel
theorem w_running : about1.status = .running := rfl
set_option maxRecDepth 65536 in
theorem w_room : about1.hasRoom e0.platform room_1 = true :=
  launch0.hasRoom_least _ room_1 (by decide +kernel) (by decide +kernel) (by decide +kernel) (by decide +kernel) (by decide +kernel) (by decide +kernel)
theorem allAtoms_all (ts : List Jvm.Cond) (a : Array Jvm.Value) (st : Jvm.State) : (allAtoms ts).before a st = ts.all (fun c => c.before a st) := by
  induction ts with
  | nil => rfl
  | cons c t ih =>
    show (Jvm.Cond.and c (allAtoms t)).before a st = _
    rw [Jvm.Cond.before_and, ih, List.all_cons]
def words1 : List Jvm.Cond := Jvm.Cond.code x code maxLocals ret :: tables_1
/-- a 'code' word, met by the world's own term for the bytes: nothing is compared byte by byte -/
theorem code_word {y : MethodName} {bytes : ByteArray} {mx : Nat} {rt : Option FieldType} {a : Array Value} {s : State} {m : MethodId} {meth : Method} {c : Code} (h1 : s.methodNamed? y = some m) (h2 : s.vm.method? m = some meth) (h3 : meth.code = some c) (h4 : c.code = bytes)
    (h5 : (c.maxLocals == mx && c.exceptionTable.isEmpty && decide (c.maxStack ≤ mostOperands) && decide (meth.sig.returnType = rt) && !meth.locks && decide (parseMethodDescriptor y.desc = some meth.sig)) = true) : (Jvm.Cond.code y bytes mx rt).before a s = true := by
  simp only [Bool.and_eq_true, beq_iff_eq, Bool.not_eq_true', decide_eq_true_eq] at h5
  obtain ⟨⟨⟨⟨⟨g1, g2⟩, g3⟩, g4⟩, g5⟩, g6⟩ := h5
  simp [Cond.before, Cond.holds, Cond.value, h1, h2, h3, h4, g1, g2, g3, g4, g5, g6]
def isCode : Jvm.Cond → Bool
  | .code _ _ _ _ => true
  | _ => false
theorem all_split {L : List Jvm.Cond} {P : Jvm.Cond → Bool} (h1 : L.all (fun c => isCode c || P c) = true) (h2 : ∀ c ∈ L.filter isCode, P c = true) : L.all P = true := by
  refine List.all_eq_true.mpr fun c hc => ?_
  have h := List.all_eq_true.mp h1 c hc
  rcases Bool.eq_false_or_eq_true (isCode c) with hi | hi
  · exact h2 c (List.mem_filter.mpr ⟨hc, hi⟩)
  · simpa [hi] using h
set_option maxRecDepth 65536 in
theorem w_c0 : (Jvm.Cond.code x code maxLocals ret).before args0 about1 = true := code_word (m := ⟨1, 1⟩) (meth := k1m1) (c := k1c1) (by decide +kernel) rfl rfl rfl (by decide +kernel)
set_option maxRecDepth 65536 in
theorem w_c1 : (Jvm.Cond.code ({ cls := "com/example/exact_quorum/exactquorum/server/Election$Vote", name := "<init>", desc := "(IJ)V" } : Jvm.MethodName) prog_77_method_1_code (4 : Nat) (Option.none : Option Jvm.ClassFile.FieldType)).before args0 about1 = true := code_word (m := ⟨2, 0⟩) (meth := k2m0) (c := k2c0) (by decide +kernel) rfl rfl rfl (by decide +kernel)
set_option maxRecDepth 65536 in
theorem w_c2 : (Jvm.Cond.code ({ cls := "java/lang/Object", name := "<init>", desc := "()V" } : Jvm.MethodName) object_method_1_code (1 : Nat) (Option.none : Option Jvm.ClassFile.FieldType)).before args0 about1 = true := code_word (m := ⟨0, 0⟩) (meth := k0m0) (c := k0c0) (by decide +kernel) rfl rfl rfl (by decide +kernel)
set_option maxRecDepth 65536 in
theorem w_c3 : (Jvm.Cond.code ({ cls := "com/example/exact_quorum/exactquorum/server/Election$Vote", name := "betterThan", desc := "(Lcom/example/exact_quorum/exactquorum/server/Election$Vote;)Z" } : Jvm.MethodName) prog_77_method_4_code (2 : Nat) (Option.some Jvm.ClassFile.FieldType.boolean)).before args0 about1 = true := code_word (m := ⟨2, 1⟩) (meth := k2m1) (c := k2c1) (by decide +kernel) rfl rfl rfl (by decide +kernel)
set_option maxRecDepth 65536 in
theorem w_c4 : (Jvm.Cond.code ({ cls := "com/example/exact_quorum/exactquorum/server/VoteBetterThanPinLaw", name := "expected", desc := "(IJIJ)Z" } : Jvm.MethodName) method_3_code (6 : Nat) (Option.some Jvm.ClassFile.FieldType.boolean)).before args0 about1 = true := code_word (m := ⟨1, 2⟩) (meth := k1m2) (c := k1c2) (by decide +kernel) rfl rfl rfl (by decide +kernel)
def codes1 : List Jvm.Cond := [Jvm.Cond.code x code maxLocals ret, Jvm.Cond.code ({ cls := "com/example/exact_quorum/exactquorum/server/Election$Vote", name := "<init>", desc := "(IJ)V" } : Jvm.MethodName) prog_77_method_1_code (4 : Nat) (Option.none : Option Jvm.ClassFile.FieldType), Jvm.Cond.code ({ cls := "java/lang/Object", name := "<init>", desc := "()V" } : Jvm.MethodName) object_method_1_code (1 : Nat) (Option.none : Option Jvm.ClassFile.FieldType), Jvm.Cond.code ({ cls := "com/example/exact_quorum/exactquorum/server/Election$Vote", name := "betterThan", desc := "(Lcom/example/exact_quorum/exactquorum/server/Election$Vote;)Z" } : Jvm.MethodName) prog_77_method_4_code (2 : Nat) (Option.some Jvm.ClassFile.FieldType.boolean), Jvm.Cond.code ({ cls := "com/example/exact_quorum/exactquorum/server/VoteBetterThanPinLaw", name := "expected", desc := "(IJIJ)Z" } : Jvm.MethodName) method_3_code (6 : Nat) (Option.some Jvm.ClassFile.FieldType.boolean)]
set_option maxRecDepth 65536 in
theorem codes_eq : words1.filter isCode = codes1 := rfl
theorem w_codes : ∀ c ∈ words1.filter isCode, c.before args0 about1 = true := by
  rw [codes_eq]
  intro c hc
  simp only [codes1, List.mem_cons, List.not_mem_nil, or_false] at hc
  rcases hc with rfl | rfl | rfl | rfl | rfl
  · exact w_c0
  · exact w_c1
  · exact w_c2
  · exact w_c3
  · exact w_c4
set_option maxRecDepth 65536 in
theorem w_t1 : words1.all (fun c => isCode c || c.before args0 about1) = true := by decide +kernel
theorem w_tables : (allAtoms (Jvm.Cond.code x code maxLocals ret :: tables_1)).before args0 about1 = true := by
  rw [allAtoms_all]
  show words1.all (fun c => c.before args0 about1) = true
  refine all_split ?_ w_codes
  rw [w_t1]
set_option maxRecDepth 65536 in
theorem w_case : (Jvm.Cond.and given_1 narrow_1).before args0 about1 = true := by decide +kernel
theorem w_applies : (headSpec (Jvm.Cond.code x code maxLocals ret :: tables_1) room_1).applies x e0.platform about1 = true :=
  (Spec.applies_iff w_frames).mpr ⟨w_running, w_runnable, w_alone, w_named, w_hears, w_ripe, w_room, w_tables⟩
theorem atStart : AtStart classFile x code maxLocals ret World_1 tables_1 room_1 Calls_1 rest_1 Pre_1 launch0 p0 e0 about1 theMethod args0 below0 :=
  ⟨lists_1, trivial, launch0.admits_env _ _ _, launch0.least_env, fairChoices_fair.cas, fairChoices_fair.clock, w_frames, w_args, w_heap, w_applies, trivial, trivial, w_case⟩
end start1
theorem witness_1 : WitnessClaimed_1 := ⟨start1.p0, start1.e0, start1.about1, start1.theMethod, start1.args0, start1.below0, start1.atStart⟩
end Jvm.Pilot.@@N@@
