import JvmDerived
import JvmDerived.Pilot.@@N@@Statement
import JvmDerived.Pilot.@@N@@Code
set_option linter.unusedVariables false
set_option linter.unusedSimpArgs false
namespace Jvm.Pilot.@@N@@
open Jvm Jvm.ClassFile Sem Op Lib Jvm.Free Jvm.Stand Jvm.LawKit Jvm.RoadKit Bundle Jvm.Pilot.@@N@@.Jvm.D
theorem wdx {a0 : Array Value} {Z : State} (hw : ∀ d ∈ tables_1, d.before a0 Z = true) (i : Nat) {d : Jvm.Cond} (h : tables_1[i]? = some d) : d.before a0 Z = true := hw d (List.mem_of_getElem? h)
/-! the walk in one predicate: from S the run comes to an end at which Q holds -/
def Go (p : Program) (e : Env) (below : List Frame) (s : State) (rc rs : Nat) (Q : Option Value → Heap → List Loc → Prop) (S : State) : Prop :=
  ∃ t o, Steps p.tables e below S t ∧ t.status = .running ∧ Ended t below o ∧ ∃ v L, o = .returned v ∧ Q v t.heap L ∧ FrameEnd s o t L rc rs
section Pre
variable {p : Program} {l : Launch} {e : Env} {R : Room} {s : State} {m : MethodId} {args : Array Value} {below : List Frame} {meth : Method} {c : Code} {T : State} {locs : List Loc} {cells slots rc rs : Nat} {Q : Option Value → Heap → List Loc → Prop} {S S' : State} {h : Heap} {Z : State} {n0 : Nat}
theorem Go.st (k : ∀ t, Steps p.tables e below S' t → Steps p.tables e below S t) (g : Go p e below s rc rs Q S') : Go p e below s rc rs Q S := by
  obtain ⟨t, o, h, r⟩ := g; exact ⟨t, o, k t h, r⟩
theorem Go.tr (k : Steps p.tables e below S S') (g : Go p e below s rc rs Q S') : Go p e below s rc rs Q S := by
  obtain ⟨t, o, h, r⟩ := g; exact ⟨t, o, k.trans h, r⟩
theorem Go.ret (X : Stand p l e R s m args below meth c T locs cells slots) (hx : p.tables.exec = Jvm.exec) (hlk : meth.locks = false) {pc : Nat} {Ls : Array Slot} {w : Value} {t : FieldType} {i : Instr} {rest : List Value} (hret : meth.sig.returnType = some t) (hn : narrow t w = w)
    (hi : (i = .ireturn ∧ (t = .int ∨ t = .boolean ∨ t = .byte ∨ t = .char ∨ t = .short) ∧ ∃ z, w = .int z) ∨ (i = .lreturn ∧ t = .long ∧ ∃ z, w = .long z) ∨ (i = .dreturn ∧ t = .double ∧ ∃ z, w = .double z) ∨ (i = .freturn ∧ t = .float ∧ ∃ z, w = .float z) ∨ (i = .areturn ∧ t.isReference = true ∧ w.isRef = true))
    (hd : decode c.code pc = .ok (i, 1)) (hc : cells ≤ rc) (hs : slots ≤ rs) (hh : T.heap = h) (hq : Q (some w) h locs) : Go p e below s rc rs Q (T.setTop (mkF m pc Ls (w :: rest))) := by
  obtain ⟨fs, hr, hrun, hended, hW, hsame⟩ := X.leave (v := some w) (fun h => by rw [hret] at h; cases h) hlk
  subst hh
  exact ⟨_, _, retOut X hx hret hn hi hd hr, hrun, hended, _, _, rfl, hq, ⟨_, rfl⟩, hW, hsame.mono hc hs⟩
theorem Go.retB (X : Stand p l e R s m args below meth c T locs cells slots) (hx : p.tables.exec = Jvm.exec) (hlk : meth.locks = false) {pc : Nat} {Ls : Array Slot} {z : Int32} {t : FieldType} {rest : List Value} (hret : meth.sig.returnType = some t) (ht : t = .boolean ∨ t = .byte ∨ t = .char ∨ t = .short)
    (hd : decode c.code pc = .ok (.ireturn, 1)) (hc : cells ≤ rc) (hs : slots ≤ rs) (hh : T.heap = h) (hq : Q (some (.int (nar t z))) h locs) : Go p e below s rc rs Q (T.setTop (mkF m pc Ls (.int z :: rest))) := by
  obtain ⟨fs, hr, hrun, hended, hW, hsame⟩ := X.leave (v := some (.int (nar t z))) (fun h => by rw [hret] at h; cases h) hlk
  subst hh
  exact ⟨_, _, retN X hx hret ht hd hr, hrun, hended, _, _, rfl, hq, ⟨_, rfl⟩, hW, hsame.mono hc hs⟩
theorem Go.retV (X : Stand p l e R s m args below meth c T locs cells slots) (hx : p.tables.exec = Jvm.exec) (hlk : meth.locks = false) {pc : Nat} {Ls : Array Slot} (hret : meth.sig.returnType = none)
    (hd : decode c.code pc = .ok (.return_, 1)) (hc : cells ≤ rc) (hs : slots ≤ rs) (hh : T.heap = h) (hq : Q none h locs) : Go p e below s rc rs Q (T.setTop (mkF m pc Ls [])) := by
  obtain ⟨fs, hr, hrun, hended, hW, hsame⟩ := X.leave (v := none) (fun _ => rfl) hlk
  subst hh
  exact ⟨_, _, X.returnOut hx hret hd hr, hrun, hended, _, _, rfl, hq, ⟨_, rfl⟩, hW, hsame.mono hc hs⟩
theorem own_le (O : Old Z n0 h) : n0 ≤ h.size := O.1 ▸ O.2.1
theorem own_nb (b : Bool) : nar .boolean (if b then 1 else 0) = if b then 1 else 0 := by cases b <;> rfl
end Pre
def fmin (a b : Int32) : Int32 := if b < a then b else a
theorem own_c4 (u : Int32) : u &&& (3 : Int32) = 0 ∨ u &&& (3 : Int32) = 1 ∨ u &&& (3 : Int32) = 2 ∨ u &&& (3 : Int32) = 3 := by
  have h := c_mask u 3 2 (by decide) (by decide)
  generalize u &&& (3 : Int32) = y at *
  have : y.toInt = 0 ∨ y.toInt = 1 ∨ y.toInt = 2 ∨ y.toInt = 3 := by omega
  rcases this with h | h | h | h
  · exact Or.inl (Int32.toInt_inj.mp h)
  · exact Or.inr (Or.inl (Int32.toInt_inj.mp h))
  · exact Or.inr (Or.inr (Or.inl (Int32.toInt_inj.mp h)))
  · exact Or.inr (Or.inr (Or.inr (Int32.toInt_inj.mp h)))
theorem d6_0 : decode jdk_29_method_69_code 0 = .ok (.iload_n 0, 1) := by decide +kernel
theorem d6_1 : decode jdk_29_method_69_code 1 = .ok (.iload_n 1, 1) := by decide +kernel
theorem d6_2 : decode jdk_29_method_69_code 2 = .ok (.if_icmp .gt 7, 3) := by decide +kernel
theorem d6_9 : decode jdk_29_method_69_code 9 = .ok (.iload_n 1, 1) := by decide +kernel
theorem d6_10 : decode jdk_29_method_69_code 10 = .ok (.ireturn, 1) := by decide +kernel
theorem d6_5 : decode jdk_29_method_69_code 5 = .ok (.iload_n 0, 1) := by decide +kernel
theorem d6_6 : decode jdk_29_method_69_code 6 = .ok (.goto 4, 3) := by decide +kernel
theorem ef_rm6 (m : MethodId) (ua : Int32) (ub : Int32) : entryFrame m #[(.int ua), (.int ub)] 2 = mkF m 0 #[.val (.int ua), .val (.int ub)] [] := by first | (simp [entryFrame, mkF, argsToLocals, Value.category]; done) | rfl
def Q6 (Z : State) (ua : Int32) (ub : Int32) (h0 : Heap) (n0 : Nat) (v : Option Value) (h : Heap) (L : List Loc) : Prop := v = some (.int (fmin ua ub)) ∧ Fr n0 L ∧ h = h0
set_option maxRecDepth 65536 in
set_option maxHeartbeats 40000000 in
theorem rm6 (l : Launch) (Z : State) (a0 : Array Value) (hw : ∀ d ∈ tables_1, d.before a0 Z = true) (ws : List Jvm.Cond) (ua : Int32) (ub : Int32) (h0 : Heap) (n0 : Nat) (O0 : Old Z n0 h0) :
    MetFree l (⟨"java/lang/Math", "min", "(II)I"⟩ : MethodName) (head1 (Jvm.Cond.code (⟨"java/lang/Math", "min", "(II)I"⟩ : MethodName) jdk_29_method_69_code 2 (some .int) :: ws) ({ frames := 0, cells := 0, slots := 0, locals := 0 } : Room)) (fun ay U => ay = #[(.int ua), (.int ub)] ∧ Z.Warmed39 U.vm ∧ U.heap = h0) (fun _ _ _ _ _ => True) (fun _ U o U' => ∃ v L, o = .returned v ∧ Q6 Z ua ub h0 n0 v U'.heap L ∧ FrameEnd U o U' L ({ frames := 0, cells := 0, slots := 0, locals := 0 } : Room).cells ({ frames := 0, cells := 0, slots := 0, locals := 0 } : Room).slots) := by
  refine MetFree.of_bodySF (Jvm.Free.JP.mathPlain rfl (by decide +kernel)) hisR ?_
  intro p e s m args below meth c s₁ Bd hml0 hP hK
  obtain ⟨rfl, hZ, hh⟩ := hP
  have hx := Bd.exec
  have hby := Bd.bytes
  have hlk : meth.locks = false := BodyLoose.notSynchronized Bd
  have hml : c.maxLocals = 2 := hml0
  have hown : s.vm.findClass "java/lang/Math" = some m.cls := findClass_of_methodNamed Bd.named
  have hnm := (name_of_methodNamed Bd.named Bd.method).1
  have X0 : Stand p l e ({ frames := 0, cells := 0, slots := 0, locals := 0 } : Room) s m #[(.int ua), (.int ub)] below meth c s₁ [] 0 0 := Stand.of_body Bd
  have e0 : s₁.heap = h0 := by rw [← hh, Bd.state]; rfl
  have N0 := Fr.nil n0
  suffices hgo : Go p e below s 0 0 (Q6 Z ua ub h0 n0) (s₁.setTop (mkF m 0 #[.val (.int ua), .val (.int ub)] [])) by
    obtain ⟨t, o, h1, h2⟩ := hgo; exact ⟨t, o, castTop (ef_rm6 m ua ub) h1, h2⟩
  show Go p e below s _ _ _ (s₁.setTop (mkF m 0 #[.val (.int ua), .val (.int ub)] []))
  refine Go.st (fun _ k' => XS.iloadN X0.here hx rfl (hb hby d6_0) rfl k') ?_
  show Go p e below s _ _ _ (s₁.setTop (mkF m 1 #[.val (.int ua), .val (.int ub)] [(.int ua)]))
  refine Go.st (fun _ k' => XS.iloadN X0.here hx rfl (hb hby d6_1) rfl k') ?_
  show Go p e below s _ _ _ (s₁.setTop (mkF m 2 #[.val (.int ua), .val (.int ub)] [(.int ub), (.int ua)]))
  by_cases hc1 : ub < ua
  · refine Go.st (fun _ k' => XS.icmpYes X0.here hx rfl (pc0 := 2) (pc' := 9) rfl (hb hby d6_2) rfl (XT.ii_gt_t hc1) (by decide) (by decide) k') ?_
    show Go p e below s _ _ _ (s₁.setTop (mkF m 9 #[.val (.int ua), .val (.int ub)] []))
    refine Go.st (fun _ k' => XS.iloadN X0.here hx rfl (hb hby d6_9) rfl k') ?_
    show Go p e below s _ _ _ (s₁.setTop (mkF m 10 #[.val (.int ua), .val (.int ub)] [(.int ub)]))
    refine Go.ret X0 hx hlk (t := .int) Bd.returns rfl (Or.inl ⟨rfl, Or.inl rfl, _, rfl⟩) (hb hby d6_10) (by decide) (by decide) e0 ?_
    exact ⟨(by simp [fmin, hc1]), N0, rfl⟩
  · refine Go.st (fun _ k' => XS.icmpNo X0.here hx rfl (hb hby d6_2) rfl (XT.ii_gt_f hc1) k') ?_
    show Go p e below s _ _ _ (s₁.setTop (mkF m 5 #[.val (.int ua), .val (.int ub)] []))
    refine Go.st (fun _ k' => XS.iloadN X0.here hx rfl (hb hby d6_5) rfl k') ?_
    show Go p e below s _ _ _ (s₁.setTop (mkF m 6 #[.val (.int ua), .val (.int ub)] [(.int ua)]))
    refine Go.st (fun _ k' => XS.goto X0.here hx rfl (pc0 := 6) (pc' := 10) rfl (hb hby d6_6) (by decide) (by decide) k') ?_
    show Go p e below s _ _ _ (s₁.setTop (mkF m 10 #[.val (.int ua), .val (.int ub)] [(.int ua)]))
    refine Go.ret X0 hx hlk (t := .int) Bd.returns rfl (Or.inl ⟨rfl, Or.inl rfl, _, rfl⟩) (hb hby d6_10) (by decide) (by decide) e0 ?_
    exact ⟨(by simp [fmin, hc1]), N0, rfl⟩
theorem d1_0 : decode prog_18_method_1_code 0 = .ok (.aload_n 0, 1) := by decide +kernel
theorem d1_1 : decode prog_18_method_1_code 1 = .ok (.invokespecial 1, 3) := by decide +kernel
theorem d1_4 : decode prog_18_method_1_code 4 = .ok (.aload_n 0, 1) := by decide +kernel
theorem d1_5 : decode prog_18_method_1_code 5 = .ok (.sipush 256, 3) := by decide +kernel
theorem d1_8 : decode prog_18_method_1_code 8 = .ok (.newarray .long, 2) := by decide +kernel
theorem d1_10 : decode prog_18_method_1_code 10 = .ok (.putfield 7, 3) := by decide +kernel
theorem d1_13 : decode prog_18_method_1_code 13 = .ok (.return_, 1) := by decide +kernel
theorem pn_com_example_spillway_spillway_runtime_Latencies : plainName "com/example/spillway/spillway/runtime/Latencies" = true := by first | (simp [plainName, overriddenIn]; done) | decide +kernel
theorem ef_rm1 (m : MethodId) (ob : Addr) : entryFrame m #[(.ref ob)] 1 = mkF m 0 #[.val (.ref ob)] [] := by first | (simp [entryFrame, mkF, argsToLocals, Value.category]; done) | rfl
def Q1 (Z : State) (ob : Addr) (h0 : Heap) (n0 : Nat) (v : Option Value) (h : Heap) (L : List Loc) : Prop := ∃ (na : Addr) (kn : ClassId), v = none ∧ Fr n0 L ∧ Keep h0 h [ob] ∧ Fld Z h ob "com/example/spillway/spillway/runtime/Latencies" "nanos" "[J" (.ref na) ∧ Fld Z h ob "com/example/spillway/spillway/runtime/Latencies" "count" "I" (.int (0 : Int32)) ∧ Arv Z h na kn .long (256 : Int32) [(.long (0 : Int64)), (.long (0 : Int64)), (.long (0 : Int64)), (.long (0 : Int64))] (.long (0 : Int64)) ∧ h0.size ≤ na
set_option maxRecDepth 65536 in
set_option maxHeartbeats 40000000 in
theorem rm1 (l : Launch) (Z : State) (a0 : Array Value) (hw : ∀ d ∈ tables_1, d.before a0 Z = true) (ws : List Jvm.Cond) (ob : Addr) (h0 : Heap) (n0 : Nat) (O0 : Old Z n0 h0) (E_o : Exa Z h0 ob "com/example/spillway/spillway/runtime/Latencies") (Fa : Fld Z h0 ob "com/example/spillway/spillway/runtime/Latencies" "nanos" "[J" .null) (Fb : Fld Z h0 ob "com/example/spillway/spillway/runtime/Latencies" "count" "I" (.int (0 : Int32))) (g_o : n0 ≤ ob) :
    MetFree l (⟨"com/example/spillway/spillway/runtime/Latencies", "<init>", "()V"⟩ : MethodName) (head1 (Jvm.Cond.code (⟨"com/example/spillway/spillway/runtime/Latencies", "<init>", "()V"⟩ : MethodName) prog_18_method_1_code 1 none :: ws) ({ frames := 1, cells := 1, slots := 256, locals := 12 } : Room)) (fun ay U => ay = #[(.ref ob)] ∧ Z.Warmed39 U.vm ∧ U.heap = h0) (fun _ _ _ _ _ => True) (fun _ U o U' => ∃ v L, o = .returned v ∧ Q1 Z ob h0 n0 v U'.heap L ∧ FrameEnd U o U' L ({ frames := 1, cells := 1, slots := 256, locals := 12 } : Room).cells ({ frames := 1, cells := 1, slots := 256, locals := 12 } : Room).slots) := by
  refine MetFree.of_bodySF (plainFor_of_name pn_com_example_spillway_spillway_runtime_Latencies) hisR ?_
  intro p e s m args below meth c s₁ Bd hml0 hP hK
  obtain ⟨rfl, hZ, hh⟩ := hP
  have hx := Bd.exec
  have hby := Bd.bytes
  have hlk : meth.locks = false := BodyLoose.notSynchronized Bd
  have hml : c.maxLocals = 1 := hml0
  have hown : s.vm.findClass "com/example/spillway/spillway/runtime/Latencies" = some m.cls := findClass_of_methodNamed Bd.named
  have hnm := (name_of_methodNamed Bd.named Bd.method).1
  have X0 : Stand p l e ({ frames := 1, cells := 1, slots := 256, locals := 12 } : Room) s m #[(.ref ob)] below meth c s₁ [] 0 0 := Stand.of_body Bd
  have e0 : s₁.heap = h0 := by rw [← hh, Bd.state]; rfl
  have N0 := Fr.nil n0
  suffices hgo : Go p e below s 1 256 (Q1 Z ob h0 n0) (s₁.setTop (mkF m 0 #[.val (.ref ob)] [])) by
    obtain ⟨t, o, h1, h2⟩ := hgo; exact ⟨t, o, castTop (ef_rm1 m ob) h1, h2⟩
  show Go p e below s _ _ _ (s₁.setTop (mkF m 0 #[.val (.ref ob)] []))
  refine Go.st (fun _ k' => XS.aloadN X0.here hx rfl (hb hby d1_0) rfl rfl k') ?_
  show Go p e below s _ _ _ (s₁.setTop (mkF m 1 #[.val (.ref ob)] [(.ref ob)]))
  obtain ⟨T1, X1, e1, st1⟩ := initO X0 hx hZ hown (wdx hw 6 rfl) (wdx hw 7 rfl) (wdx hw 8 rfl) e0 (g := (mkF m 1 #[.val (.ref ob)] [(.ref ob)])) rfl (by rw [hml]; rfl) rfl (hb hby d1_1) (by decide) (W := 0) (by show 2 * 0 + _ ≤ _; exact Nat.le_of_eq rfl) (by decide)
  refine Go.st st1 ?_
  show Go p e below s _ _ _ (T1.setTop (mkF m 4 #[.val (.ref ob)] []))
  refine Go.st (fun _ k' => XS.aloadN X1.here hx rfl (hb hby d1_4) rfl rfl k') ?_
  show Go p e below s _ _ _ (T1.setTop (mkF m 5 #[.val (.ref ob)] [(.ref ob)]))
  refine Go.st (fun _ k' => XS.sipush X1.here hx rfl (hb hby d1_5) k') ?_
  show Go p e below s _ _ _ (T1.setTop (mkF m 8 #[.val (.ref ob)] [(.int (256 : Int32)), (.ref ob)]))
  obtain ⟨T2, h2, k2, X2, e2, E2, A2, st2⟩ := newP X1 hx hZ (wdx hw 9 rfl) e1 (g := (mkF m 8 #[.val (.ref ob)] [(.int (256 : Int32)), (.ref ob)])) rfl (hb hby d1_8) rfl (by decide) (cap := 256) (by decide) (by decide) (by decide) (by decide)
  obtain ⟨b2, g2⟩ : ∃ z, z = h0.size := ⟨_, rfl⟩
  rw [← g2] at A2 st2
  refine Go.st st2 ?_
  have g_b2 : n0 ≤ b2 := Nat.le_trans (own_le O0) (Nat.le_of_eq g2.symm)
  have z_b2 : h0.size ≤ b2 := Nat.le_of_eq g2.symm
  have ne3 : ob ≠ b2 := Nat.ne_of_lt (Nat.lt_of_lt_of_le E_o.lt (Nat.le_of_eq g2.symm))
  have f4 : Exa Z h2 ob "com/example/spillway/spillway/runtime/Latencies" := E_o.ext E2
  have f5 : Fld Z h2 ob "com/example/spillway/spillway/runtime/Latencies" "nanos" "[J" .null := Fa.ext E2
  have f6 : Fld Z h2 ob "com/example/spillway/spillway/runtime/Latencies" "count" "I" (.int (0 : Int32)) := Fb.ext E2
  have O2 : Old Z n0 h2 := O0.ext E2
  have K2 : Keep h0 h2 [ob] := (Keep.refl h0 [ob]).ext E2
  have f7 : Arv Z h2 b2 k2 .long (256 : Int32) [(.long (0 : Int64)), (.long (0 : Int64)), (.long (0 : Int64)), (.long (0 : Int64))] (.long (0 : Int64)) := (Arv.new A2 (by decide)).pad (pad_rep [] (.long (0 : Int64)) 4)
  show Go p e below s _ _ _ (T2.setTop (mkF m 10 #[.val (.ref ob)] [(.ref b2), (.ref ob)]))
  obtain ⟨T8, h8, X8, e8, W8, st8⟩ := putF X2 hx hZ hown (host := "") (Or.inl (wdx hw 10 rfl)) Via.refl e2 f5 f4 (Or.inl (wdx hw 11 rfl)) (wdx hw 1 rfl) (ty := (.array .long)) (by decide) rfl rfl (g := (mkF m 10 #[.val (.ref ob)] [(.ref b2), (.ref ob)])) rfl rfl (hb hby d1_10)
  refine Go.st st8 ?_
  have f9 : Exa Z h8 ob "com/example/spillway/spillway/runtime/Latencies" := f4.wr W8
  have f10 : Fld Z h8 ob "com/example/spillway/spillway/runtime/Latencies" "nanos" "[J" (.ref b2) := f5.same W8
  have f11 : Fld Z h8 ob "com/example/spillway/spillway/runtime/Latencies" "count" "I" (.int (0 : Int32)) := f6.other W8 (Or.inr (slot_ne (Or.inl (wdx hw 18 rfl)) (Or.inl (wdx hw 11 rfl)) (by decide) (t := .int) (t' := (.array .long)) (by decide) (by decide)))
  have f12 : Arv Z h8 b2 k2 .long (256 : Int32) [(.long (0 : Int64)), (.long (0 : Int64)), (.long (0 : Int64)), (.long (0 : Int64))] (.long (0 : Int64)) := f7.other W8 (Ne.symm ne3)
  have O8 : Old Z n0 h8 := O2.wr W8 g_o
  have N8 := Fr.snoc X8 N0 g_o
  have K8 : Keep h0 h8 [ob] := K2.wr W8 (Or.inl (by simp))
  show Go p e below s _ _ _ (T8.setTop (mkF m 13 #[.val (.ref ob)] []))
  refine Go.retV X8 hx hlk Bd.returns (hb hby d1_13) (by decide) (by decide) e8 ?_
  exact ⟨b2, k2, rfl, N8, K8, f10, f11, f12, z_b2⟩
theorem d5_0 : decode jdk_65_method_124_code 0 = .ok (.iload_n 1, 1) := by decide +kernel
theorem d5_1 : decode jdk_65_method_124_code 1 = .ok (.aload_n 0, 1) := by decide +kernel
theorem d5_2 : decode jdk_65_method_124_code 2 = .ok (.arraylength, 1) := by decide +kernel
theorem d5_3 : decode jdk_65_method_124_code 3 = .ok (.if_icmp .ne 11, 3) := by decide +kernel
theorem d5_14 : decode jdk_65_method_124_code 14 = .ok (.iload_n 1, 1) := by decide +kernel
theorem d5_15 : decode jdk_65_method_124_code 15 = .ok (.newarray .long, 2) := by decide +kernel
theorem d5_17 : decode jdk_65_method_124_code 17 = .ok (.astore_n 2, 1) := by decide +kernel
theorem d5_18 : decode jdk_65_method_124_code 18 = .ok (.aload_n 0, 1) := by decide +kernel
theorem d5_19 : decode jdk_65_method_124_code 19 = .ok (.iconst 0, 1) := by decide +kernel
theorem d5_20 : decode jdk_65_method_124_code 20 = .ok (.aload_n 2, 1) := by decide +kernel
theorem d5_21 : decode jdk_65_method_124_code 21 = .ok (.iconst 0, 1) := by decide +kernel
theorem d5_22 : decode jdk_65_method_124_code 22 = .ok (.aload_n 0, 1) := by decide +kernel
theorem d5_23 : decode jdk_65_method_124_code 23 = .ok (.arraylength, 1) := by decide +kernel
theorem d5_24 : decode jdk_65_method_124_code 24 = .ok (.iload_n 1, 1) := by decide +kernel
theorem pd__II_I : parseMethodDescriptor "(II)I" = some ⟨[.int, .int], some .int⟩ := by decide +kernel
theorem d5_25 : decode jdk_65_method_124_code 25 = .ok (.invokestatic 304, 3) := by decide +kernel
theorem d5_28 : decode jdk_65_method_124_code 28 = .ok (.invokestatic 150, 3) := by decide +kernel
theorem d5_31 : decode jdk_65_method_124_code 31 = .ok (.aload_n 2, 1) := by decide +kernel
theorem d5_32 : decode jdk_65_method_124_code 32 = .ok (.areturn, 1) := by decide +kernel
theorem pn_java_util_Arrays : plainName "java/util/Arrays" = true := by first | (simp [plainName, overriddenIn]; done) | decide +kernel
theorem ef_rm5_0 (m : MethodId) (aa : Addr) : entryFrame m #[(.ref aa), (.int (0 : Int32))] 3 = mkF m 0 #[.val (.ref aa), .val (.int (0 : Int32)), .unset] [] := by first | (simp [entryFrame, mkF, argsToLocals, Value.category]; done) | rfl
def Q5_0 (Z : State) (aa : Addr) (ka : ClassId) (xa : Int64) (xb : Int64) (xc : Int64) (xd : Int64) (h0 : Heap) (n0 : Nat) (v : Option Value) (h : Heap) (L : List Loc) : Prop := ∃ (rr : Addr) (kr : ClassId), v = some (.ref rr) ∧ Fr n0 L ∧ Keep h0 h [] ∧ Arv Z h rr kr .long (0 : Int32) [] (.long (0 : Int64)) ∧ h0.size ≤ rr
set_option maxRecDepth 65536 in
set_option maxHeartbeats 40000000 in
theorem rm5_0 (l : Launch) (Z : State) (a0 : Array Value) (hw : ∀ d ∈ tables_1, d.before a0 Z = true) (ws : List Jvm.Cond) (aa : Addr) (ka : ClassId) (xa : Int64) (xb : Int64) (xc : Int64) (xd : Int64) (h0 : Heap) (n0 : Nat) (O0 : Old Z n0 h0) (Va : Arv Z h0 aa ka .long (256 : Int32) [(.long xa), (.long xb), (.long xc), (.long xd)] (.long (0 : Int64))) :
    MetFree l (⟨"java/util/Arrays", "copyOf", "([JI)[J"⟩ : MethodName) (head1 (Jvm.Cond.code (⟨"java/util/Arrays", "copyOf", "([JI)[J"⟩ : MethodName) jdk_65_method_124_code 3 (some (.array .long)) :: ws) ({ frames := 1, cells := 1, slots := 0, locals := 18 } : Room)) (fun ay U => ay = #[(.ref aa), (.int (0 : Int32))] ∧ Z.Warmed39 U.vm ∧ U.heap = h0) (fun _ _ _ _ _ => True) (fun _ U o U' => ∃ v L, o = .returned v ∧ Q5_0 Z aa ka xa xb xc xd h0 n0 v U'.heap L ∧ FrameEnd U o U' L ({ frames := 1, cells := 1, slots := 0, locals := 18 } : Room).cells ({ frames := 1, cells := 1, slots := 0, locals := 18 } : Room).slots) := by
  refine MetFree.of_bodySF (plainFor_of_name pn_java_util_Arrays) hisR ?_
  intro p e s m args below meth c s₁ Bd hml0 hP hK
  obtain ⟨rfl, hZ, hh⟩ := hP
  have hx := Bd.exec
  have hby := Bd.bytes
  have hlk : meth.locks = false := BodyLoose.notSynchronized Bd
  have hml : c.maxLocals = 3 := hml0
  have hown : s.vm.findClass "java/util/Arrays" = some m.cls := findClass_of_methodNamed Bd.named
  have hnm := (name_of_methodNamed Bd.named Bd.method).1
  have X0 : Stand p l e ({ frames := 1, cells := 1, slots := 0, locals := 18 } : Room) s m #[(.ref aa), (.int (0 : Int32))] below meth c s₁ [] 0 0 := Stand.of_body Bd
  have e0 : s₁.heap = h0 := by rw [← hh, Bd.state]; rfl
  have N0 := Fr.nil n0
  suffices hgo : Go p e below s 1 0 (Q5_0 Z aa ka xa xb xc xd h0 n0) (s₁.setTop (mkF m 0 #[.val (.ref aa), .val (.int (0 : Int32)), .unset] [])) by
    obtain ⟨t, o, h1, h2⟩ := hgo; exact ⟨t, o, castTop (ef_rm5_0 m aa) h1, h2⟩
  show Go p e below s _ _ _ (s₁.setTop (mkF m 0 #[.val (.ref aa), .val (.int (0 : Int32)), .unset] []))
  refine Go.st (fun _ k' => XS.iloadN X0.here hx rfl (hb hby d5_0) rfl k') ?_
  show Go p e below s _ _ _ (s₁.setTop (mkF m 1 #[.val (.ref aa), .val (.int (0 : Int32)), .unset] [(.int (0 : Int32))]))
  refine Go.st (fun _ k' => XS.aloadN X0.here hx rfl (hb hby d5_1) rfl rfl k') ?_
  show Go p e below s _ _ _ (s₁.setTop (mkF m 2 #[.val (.ref aa), .val (.int (0 : Int32)), .unset] [(.ref aa), (.int (0 : Int32))]))
  obtain ⟨cl1, Ar1, qc1, Sz1, Nn1, Ha1, Gf1⟩ := id Va
  refine Go.st (fun _ k' => X0.arraylength hx (by rw [e0]; exact Ar1.1) (State.isArrayOf_alike hZ.alike Ar1.2.1) (g := (mkF m 2 #[.val (.ref aa), .val (.int (0 : Int32)), .unset] [(.ref aa), (.int (0 : Int32))])) rfl rfl (hb hby d5_2) _ k') ?_
  rw [len_of Sz1 Nn1]
  show Go p e below s _ _ _ (s₁.setTop (mkF m 3 #[.val (.ref aa), .val (.int (0 : Int32)), .unset] [(.int (256 : Int32)), (.int (0 : Int32))]))
  refine Go.st (fun _ k' => XS.icmpYes X0.here hx rfl (pc0 := 3) (pc' := 14) rfl (hb hby d5_3) rfl (XT.ii_ne_t (by decide)) (by decide) (by decide) k') ?_
  show Go p e below s _ _ _ (s₁.setTop (mkF m 14 #[.val (.ref aa), .val (.int (0 : Int32)), .unset] []))
  refine Go.st (fun _ k' => XS.iloadN X0.here hx rfl (hb hby d5_14) rfl k') ?_
  show Go p e below s _ _ _ (s₁.setTop (mkF m 15 #[.val (.ref aa), .val (.int (0 : Int32)), .unset] [(.int (0 : Int32))]))
  obtain ⟨T2, h2, k2, X2, e2, E2, A2, st2⟩ := newP X0 hx hZ (wdx hw 9 rfl) e0 (g := (mkF m 15 #[.val (.ref aa), .val (.int (0 : Int32)), .unset] [(.int (0 : Int32))])) rfl (hb hby d5_15) rfl (by decide) (cap := 0) (by decide) (by decide) (by decide) (by decide)
  obtain ⟨b2, g2⟩ : ∃ z, z = h0.size := ⟨_, rfl⟩
  rw [← g2] at A2 st2
  refine Go.st st2 ?_
  have g_b2 : n0 ≤ b2 := Nat.le_trans (own_le O0) (Nat.le_of_eq g2.symm)
  have z_b2 : h0.size ≤ b2 := Nat.le_of_eq g2.symm
  have ne3 : aa ≠ b2 := Nat.ne_of_lt (Nat.lt_of_lt_of_le Va.lt (Nat.le_of_eq g2.symm))
  have f4 : Arv Z h2 aa ka .long (256 : Int32) [(.long xa), (.long xb), (.long xc), (.long xd)] (.long (0 : Int64)) := Va.ext E2
  have O2 : Old Z n0 h2 := O0.ext E2
  have K2 : Keep h0 h2 [] := (Keep.refl h0 []).ext E2
  have f5 : Arv Z h2 b2 k2 .long (0 : Int32) [] (.long (0 : Int64)) := (Arv.new A2 (by decide)).pad (pad_rep [] (.long (0 : Int64)) 0)
  show Go p e below s _ _ _ (T2.setTop (mkF m 17 #[.val (.ref aa), .val (.int (0 : Int32)), .unset] [(.ref b2)]))
  refine Go.st (fun _ k' => XS.astoreN X2.here hx rfl (hb hby d5_17) rfl rfl (l' := #[.val (.ref aa), .val (.int (0 : Int32)), .val (.ref b2)]) rfl k') ?_
  show Go p e below s _ _ _ (T2.setTop (mkF m 18 #[.val (.ref aa), .val (.int (0 : Int32)), .val (.ref b2)] []))
  refine Go.st (fun _ k' => XS.aloadN X2.here hx rfl (hb hby d5_18) rfl rfl k') ?_
  show Go p e below s _ _ _ (T2.setTop (mkF m 19 #[.val (.ref aa), .val (.int (0 : Int32)), .val (.ref b2)] [(.ref aa)]))
  refine Go.st (fun _ k' => XS.iconst X2.here hx rfl (hb hby d5_19) k') ?_
  show Go p e below s _ _ _ (T2.setTop (mkF m 20 #[.val (.ref aa), .val (.int (0 : Int32)), .val (.ref b2)] [(.int (0 : Int32)), (.ref aa)]))
  refine Go.st (fun _ k' => XS.aloadN X2.here hx rfl (hb hby d5_20) rfl rfl k') ?_
  show Go p e below s _ _ _ (T2.setTop (mkF m 21 #[.val (.ref aa), .val (.int (0 : Int32)), .val (.ref b2)] [(.ref b2), (.int (0 : Int32)), (.ref aa)]))
  refine Go.st (fun _ k' => XS.iconst X2.here hx rfl (hb hby d5_21) k') ?_
  show Go p e below s _ _ _ (T2.setTop (mkF m 22 #[.val (.ref aa), .val (.int (0 : Int32)), .val (.ref b2)] [(.int (0 : Int32)), (.ref b2), (.int (0 : Int32)), (.ref aa)]))
  refine Go.st (fun _ k' => XS.aloadN X2.here hx rfl (hb hby d5_22) rfl rfl k') ?_
  show Go p e below s _ _ _ (T2.setTop (mkF m 23 #[.val (.ref aa), .val (.int (0 : Int32)), .val (.ref b2)] [(.ref aa), (.int (0 : Int32)), (.ref b2), (.int (0 : Int32)), (.ref aa)]))
  obtain ⟨cl6, Ar6, qc6, Sz6, Nn6, Ha6, Gf6⟩ := id f4
  refine Go.st (fun _ k' => X2.arraylength hx (by rw [e2]; exact Ar6.1) (State.isArrayOf_alike hZ.alike Ar6.2.1) (g := (mkF m 23 #[.val (.ref aa), .val (.int (0 : Int32)), .val (.ref b2)] [(.ref aa), (.int (0 : Int32)), (.ref b2), (.int (0 : Int32)), (.ref aa)])) rfl rfl (hb hby d5_23) _ k') ?_
  rw [len_of Sz6 Nn6]
  show Go p e below s _ _ _ (T2.setTop (mkF m 24 #[.val (.ref aa), .val (.int (0 : Int32)), .val (.ref b2)] [(.int (256 : Int32)), (.int (0 : Int32)), (.ref b2), (.int (0 : Int32)), (.ref aa)]))
  refine Go.st (fun _ k' => XS.iloadN X2.here hx rfl (hb hby d5_24) rfl k') ?_
  show Go p e below s _ _ _ (T2.setTop (mkF m 25 #[.val (.ref aa), .val (.int (0 : Int32)), .val (.ref b2)] [(.int (0 : Int32)), (.int (256 : Int32)), (.int (0 : Int32)), (.ref b2), (.int (0 : Int32)), (.ref aa)]))
  obtain ⟨_, _, ⟨T7, L7, k7, n7⟩, -, X7, ⟨Lc7, hQ7, l7, y7, z7⟩, st7⟩ := Jvm.LawKit.callS X2 hx (y := (⟨"java/lang/Math", "min", "(II)I"⟩ : MethodName)) hown (mvT hZ (wdx hw 28 rfl)) (mvT hZ (wdx hw 29 rfl)) (mvT hZ (wdx hw 30 rfl)) (mvT hZ (wdx hw 31 rfl)) (by decide) (backOf (W := 4) (rm6 l Z a0 hw [] (256 : Int32) (0 : Int32) h2 n0 O2 ) hZ (wdx hw 31 rfl) (wdx hw 30 rfl) (by decide) (by decide)) (g := (mkF m 25 #[.val (.ref aa), .val (.int (0 : Int32)), .val (.ref b2)] [(.int (0 : Int32)), (.int (256 : Int32)), (.int (0 : Int32)), (.ref b2), (.int (0 : Int32)), (.ref aa)])) rfl (by rw [hml]; rfl) (argsL := [(.int (256 : Int32)), (.int (0 : Int32))]) (rest := [(.int (0 : Int32)), (.ref b2), (.int (0 : Int32)), (.ref aa)]) (lenOf pd__II_I rfl) rfl (by show 2 * 0 + _ ≤ _; exact Nat.le_of_eq rfl) (hb hby d5_25) (fun _ _ => ⟨rfl, e2, (by exact Nat.le_of_ble_eq_true rfl), (by exact Nat.le_of_ble_eq_true rfl)⟩)
  dsimp only [Pt.U, Pt.locs, Pt.cells, Pt.slots] at X7 l7 y7 z7 st7 hQ7
  subst l7 y7 z7
  obtain ⟨rfl, Nq7, eq7⟩ := hQ7
  have N7 := Fr.app N0 Nq7
  refine Go.st st7 ?_
  show Go p e below s _ _ _ (T7.setTop (mkF m 28 #[.val (.ref aa), .val (.int (0 : Int32)), .val (.ref b2)] [(.int (fmin (256 : Int32) (0 : Int32))), (.int (0 : Int32)), (.ref b2), (.int (0 : Int32)), (.ref aa)]))
  show Go p e below s _ _ _ (T7.setTop (mkF m 28 #[.val (.ref aa), .val (.int (0 : Int32)), .val (.ref b2)] [(.int (0 : Int32)), (.int (0 : Int32)), (.ref b2), (.int (0 : Int32)), (.ref aa)]))
  obtain ⟨T8, h8, L8, X8, e8, N8, Kq8, V8, st8⟩ := cpA X7 hx hZ hown (wdx hw 32 rfl) (wdx hw 35 rfl) (wdx hw 33 rfl) (wdx hw 34 rfl) eq7 f4 f5 (Or.inl ⟨rfl, rfl⟩) (sp := (0 : Int32)) (dp := (0 : Int32)) (nn := (0 : Int32)) (by decide) (by decide) (by decide) (by decide) (by decide) (us := []) rfl (by decide) N7 g_b2 (g := (mkF m 28 #[.val (.ref aa), .val (.int (0 : Int32)), .val (.ref b2)] [(.int (0 : Int32)), (.int (0 : Int32)), (.ref b2), (.int (0 : Int32)), (.ref aa)])) rfl (by rw [hml]; rfl) rfl (hb hby d5_28) (by decide) (W := 0) (by show 2 * 0 + _ ≤ _; exact Nat.le_of_eq rfl) (by decide)
  refine Go.st st8 ?_
  have f9 : Arv Z h8 aa ka .long (256 : Int32) [(.long xa), (.long xb), (.long xc), (.long xd)] (.long (0 : Int64)) := f4.keep Kq8 (ninS ne3 nin0)
  have O8 : Old Z n0 h8 := O2.keep Kq8 (allS g_b2 all0)
  have K8 : Keep h0 h8 [] := K2.trans Kq8 (allS (Or.inr z_b2) all0)
  have f10 : Arv Z h8 b2 k2 .long (0 : Int32) [] (.long (0 : Int64)) := V8
  show Go p e below s _ _ _ (T8.setTop (mkF m 31 #[.val (.ref aa), .val (.int (0 : Int32)), .val (.ref b2)] []))
  refine Go.st (fun _ k' => XS.aloadN X8.here hx rfl (hb hby d5_31) rfl rfl k') ?_
  show Go p e below s _ _ _ (T8.setTop (mkF m 32 #[.val (.ref aa), .val (.int (0 : Int32)), .val (.ref b2)] [(.ref b2)]))
  refine Go.ret X8 hx hlk (t := (.array .long)) Bd.returns rfl (Or.inr (Or.inr (Or.inr (Or.inr ⟨rfl, rfl, rfl⟩)))) (hb hby d5_32) (by decide) (by decide) e8 ?_
  exact ⟨b2, k2, rfl, N8, K8, f10, z_b2⟩
theorem d4_0 : decode prog_18_method_3_code 0 = .ok (.aload_n 0, 1) := by decide +kernel
theorem d4_1 : decode prog_18_method_3_code 1 = .ok (.getfield 7, 3) := by decide +kernel
theorem d4_4 : decode prog_18_method_3_code 4 = .ok (.aload_n 0, 1) := by decide +kernel
theorem d4_5 : decode prog_18_method_3_code 5 = .ok (.getfield 13, 3) := by decide +kernel
theorem pd___JI__J : parseMethodDescriptor "([JI)[J" = some ⟨[(.array .long), .int], some (.array .long)⟩ := by decide +kernel
theorem d4_8 : decode prog_18_method_3_code 8 = .ok (.invokestatic 17, 3) := by decide +kernel
theorem d4_11 : decode prog_18_method_3_code 11 = .ok (.areturn, 1) := by decide +kernel
theorem ef_rm4_0 (m : MethodId) (ob : Addr) : entryFrame m #[(.ref ob)] 1 = mkF m 0 #[.val (.ref ob)] [] := by first | (simp [entryFrame, mkF, argsToLocals, Value.category]; done) | rfl
def Q4_0 (Z : State) (ob : Addr) (na : Addr) (ka : ClassId) (xa : Int64) (xb : Int64) (xc : Int64) (xd : Int64) (h0 : Heap) (n0 : Nat) (v : Option Value) (h : Heap) (L : List Loc) : Prop := ∃ (rr : Addr) (kr : ClassId), v = some (.ref rr) ∧ Fr n0 L ∧ Keep h0 h [] ∧ Arv Z h rr kr .long (0 : Int32) [] (.long (0 : Int64)) ∧ h0.size ≤ rr
set_option maxRecDepth 65536 in
set_option maxHeartbeats 40000000 in
theorem rm4_0 (l : Launch) (Z : State) (a0 : Array Value) (hw : ∀ d ∈ tables_1, d.before a0 Z = true) (ws : List Jvm.Cond) (ob : Addr) (na : Addr) (ka : ClassId) (xa : Int64) (xb : Int64) (xc : Int64) (xd : Int64) (h0 : Heap) (n0 : Nat) (O0 : Old Z n0 h0) (Fa : Fld Z h0 ob "com/example/spillway/spillway/runtime/Latencies" "nanos" "[J" (.ref na)) (Fb : Fld Z h0 ob "com/example/spillway/spillway/runtime/Latencies" "count" "I" (.int (0 : Int32))) (Va : Arv Z h0 na ka .long (256 : Int32) [(.long xa), (.long xb), (.long xc), (.long xd)] (.long (0 : Int64))) :
    MetFree l (⟨"com/example/spillway/spillway/runtime/Latencies", "toArray", "()[J"⟩ : MethodName) (head1 (Jvm.Cond.code (⟨"com/example/spillway/spillway/runtime/Latencies", "toArray", "()[J"⟩ : MethodName) prog_18_method_3_code 1 (some (.array .long)) :: ws) ({ frames := 2, cells := 1, slots := 0, locals := 32 } : Room)) (fun ay U => ay = #[(.ref ob)] ∧ Z.Warmed39 U.vm ∧ U.heap = h0) (fun _ _ _ _ _ => True) (fun _ U o U' => ∃ v L, o = .returned v ∧ Q4_0 Z ob na ka xa xb xc xd h0 n0 v U'.heap L ∧ FrameEnd U o U' L ({ frames := 2, cells := 1, slots := 0, locals := 32 } : Room).cells ({ frames := 2, cells := 1, slots := 0, locals := 32 } : Room).slots) := by
  refine MetFree.of_bodySF (plainFor_of_name pn_com_example_spillway_spillway_runtime_Latencies) hisR ?_
  intro p e s m args below meth c s₁ Bd hml0 hP hK
  obtain ⟨rfl, hZ, hh⟩ := hP
  have hx := Bd.exec
  have hby := Bd.bytes
  have hlk : meth.locks = false := BodyLoose.notSynchronized Bd
  have hml : c.maxLocals = 1 := hml0
  have hown : s.vm.findClass "com/example/spillway/spillway/runtime/Latencies" = some m.cls := findClass_of_methodNamed Bd.named
  have hnm := (name_of_methodNamed Bd.named Bd.method).1
  have X0 : Stand p l e ({ frames := 2, cells := 1, slots := 0, locals := 32 } : Room) s m #[(.ref ob)] below meth c s₁ [] 0 0 := Stand.of_body Bd
  have e0 : s₁.heap = h0 := by rw [← hh, Bd.state]; rfl
  have N0 := Fr.nil n0
  suffices hgo : Go p e below s 1 0 (Q4_0 Z ob na ka xa xb xc xd h0 n0) (s₁.setTop (mkF m 0 #[.val (.ref ob)] [])) by
    obtain ⟨t, o, h1, h2⟩ := hgo; exact ⟨t, o, castTop (ef_rm4_0 m ob) h1, h2⟩
  show Go p e below s _ _ _ (s₁.setTop (mkF m 0 #[.val (.ref ob)] []))
  refine Go.st (fun _ k' => XS.aloadN X0.here hx rfl (hb hby d4_0) rfl rfl k') ?_
  show Go p e below s _ _ _ (s₁.setTop (mkF m 1 #[.val (.ref ob)] [(.ref ob)]))
  obtain ⟨T1, X1, e1, st1⟩ := getF X0 hx hZ hown (host := "") (Or.inl (wdx hw 10 rfl)) Via.refl e0 Fa (g := (mkF m 1 #[.val (.ref ob)] [(.ref ob)])) rfl rfl (hb hby d4_1)
  refine Go.st st1 ?_
  show Go p e below s _ _ _ (T1.setTop (mkF m 4 #[.val (.ref ob)] [(.ref na)]))
  refine Go.st (fun _ k' => XS.aloadN X1.here hx rfl (hb hby d4_4) rfl rfl k') ?_
  show Go p e below s _ _ _ (T1.setTop (mkF m 5 #[.val (.ref ob)] [(.ref ob), (.ref na)]))
  obtain ⟨T2, X2, e2, st2⟩ := getF X1 hx hZ hown (host := "") (Or.inl (wdx hw 17 rfl)) Via.refl e1 Fb (g := (mkF m 5 #[.val (.ref ob)] [(.ref ob), (.ref na)])) rfl rfl (hb hby d4_5)
  refine Go.st st2 ?_
  show Go p e below s _ _ _ (T2.setTop (mkF m 8 #[.val (.ref ob)] [(.int (0 : Int32)), (.ref na)]))
  obtain ⟨_, _, ⟨T3, L3, k3, n3⟩, -, X3, ⟨Lc3, hQ3, l3, y3, z3⟩, st3⟩ := Jvm.LawKit.callS X2 hx (y := (⟨"java/util/Arrays", "copyOf", "([JI)[J"⟩ : MethodName)) hown (mvT hZ (wdx hw 24 rfl)) (mvT hZ (wdx hw 25 rfl)) (mvT hZ (wdx hw 26 rfl)) (mvT hZ (wdx hw 27 rfl)) (by decide) (backOf (W := 0) (rm5_0 l Z a0 hw [] na ka xa xb xc xd h0 n0 O0 Va) hZ (wdx hw 27 rfl) (wdx hw 26 rfl) (by decide) (by decide)) (g := (mkF m 8 #[.val (.ref ob)] [(.int (0 : Int32)), (.ref na)])) rfl (by rw [hml]; rfl) (argsL := [(.ref na), (.int (0 : Int32))]) (rest := []) (lenOf pd___JI__J rfl) rfl (by show 2 * 0 + _ ≤ _; exact Nat.le_of_eq rfl) (hb hby d4_8) (fun _ _ => ⟨rfl, e2, (by exact Nat.le_of_ble_eq_true rfl), (by exact Nat.le_of_ble_eq_true rfl)⟩)
  dsimp only [Pt.U, Pt.locs, Pt.cells, Pt.slots] at X3 l3 y3 z3 st3 hQ3
  subst l3 y3 z3
  obtain ⟨rr_3, kr_3, rfl, Nq3, Kq3, f4, szr_3⟩ := hQ3
  have N3 := Fr.app N0 Nq3
  refine Go.st st3 ?_
  have f5 : Fld Z T3.heap ob "com/example/spillway/spillway/runtime/Latencies" "nanos" "[J" (.ref na) := Fa.keep Kq3 nin0
  have f6 : Fld Z T3.heap ob "com/example/spillway/spillway/runtime/Latencies" "count" "I" (.int (0 : Int32)) := Fb.keep Kq3 nin0
  have f7 : Arv Z T3.heap na ka .long (256 : Int32) [(.long xa), (.long xb), (.long xc), (.long xd)] (.long (0 : Int64)) := Va.keep Kq3 nin0
  have O3 : Old Z n0 T3.heap := O0.keep Kq3 all0
  have K3 : Keep h0 T3.heap [] := (Keep.refl h0 []).trans Kq3 all0
  have g_rr_3 : n0 ≤ rr_3 := Nat.le_trans (own_le O0) szr_3
  have z_rr_3 : h0.size ≤ rr_3 := szr_3
  have ne8 : ob ≠ rr_3 := Nat.ne_of_lt (Nat.lt_of_lt_of_le Fa.lt szr_3)
  have ne9 : na ≠ rr_3 := Nat.ne_of_lt (Nat.lt_of_lt_of_le Va.lt szr_3)
  show Go p e below s _ _ _ (T3.setTop (mkF m 11 #[.val (.ref ob)] [(.ref rr_3)]))
  refine Go.ret X3 hx hlk (t := (.array .long)) Bd.returns rfl (Or.inr (Or.inr (Or.inr (Or.inr ⟨rfl, rfl, rfl⟩)))) (hb hby d4_11) (by decide) (by decide) rfl ?_
  exact ⟨rr_3, kr_3, rfl, N3, K3, f4, z_rr_3⟩
theorem ef_rm5_1 (m : MethodId) (aa : Addr) : entryFrame m #[(.ref aa), (.int (1 : Int32))] 3 = mkF m 0 #[.val (.ref aa), .val (.int (1 : Int32)), .unset] [] := by first | (simp [entryFrame, mkF, argsToLocals, Value.category]; done) | rfl
def Q5_1 (Z : State) (aa : Addr) (ka : ClassId) (xa : Int64) (xb : Int64) (xc : Int64) (xd : Int64) (h0 : Heap) (n0 : Nat) (v : Option Value) (h : Heap) (L : List Loc) : Prop := ∃ (rr : Addr) (kr : ClassId), v = some (.ref rr) ∧ Fr n0 L ∧ Keep h0 h [] ∧ Arv Z h rr kr .long (1 : Int32) [(.long xa)] (.long (0 : Int64)) ∧ h0.size ≤ rr
set_option maxRecDepth 65536 in
set_option maxHeartbeats 40000000 in
theorem rm5_1 (l : Launch) (Z : State) (a0 : Array Value) (hw : ∀ d ∈ tables_1, d.before a0 Z = true) (ws : List Jvm.Cond) (aa : Addr) (ka : ClassId) (xa : Int64) (xb : Int64) (xc : Int64) (xd : Int64) (h0 : Heap) (n0 : Nat) (O0 : Old Z n0 h0) (Va : Arv Z h0 aa ka .long (256 : Int32) [(.long xa), (.long xb), (.long xc), (.long xd)] (.long (0 : Int64))) :
    MetFree l (⟨"java/util/Arrays", "copyOf", "([JI)[J"⟩ : MethodName) (head1 (Jvm.Cond.code (⟨"java/util/Arrays", "copyOf", "([JI)[J"⟩ : MethodName) jdk_65_method_124_code 3 (some (.array .long)) :: ws) ({ frames := 1, cells := 1, slots := 1, locals := 18 } : Room)) (fun ay U => ay = #[(.ref aa), (.int (1 : Int32))] ∧ Z.Warmed39 U.vm ∧ U.heap = h0) (fun _ _ _ _ _ => True) (fun _ U o U' => ∃ v L, o = .returned v ∧ Q5_1 Z aa ka xa xb xc xd h0 n0 v U'.heap L ∧ FrameEnd U o U' L ({ frames := 1, cells := 1, slots := 1, locals := 18 } : Room).cells ({ frames := 1, cells := 1, slots := 1, locals := 18 } : Room).slots) := by
  refine MetFree.of_bodySF (plainFor_of_name pn_java_util_Arrays) hisR ?_
  intro p e s m args below meth c s₁ Bd hml0 hP hK
  obtain ⟨rfl, hZ, hh⟩ := hP
  have hx := Bd.exec
  have hby := Bd.bytes
  have hlk : meth.locks = false := BodyLoose.notSynchronized Bd
  have hml : c.maxLocals = 3 := hml0
  have hown : s.vm.findClass "java/util/Arrays" = some m.cls := findClass_of_methodNamed Bd.named
  have hnm := (name_of_methodNamed Bd.named Bd.method).1
  have X0 : Stand p l e ({ frames := 1, cells := 1, slots := 1, locals := 18 } : Room) s m #[(.ref aa), (.int (1 : Int32))] below meth c s₁ [] 0 0 := Stand.of_body Bd
  have e0 : s₁.heap = h0 := by rw [← hh, Bd.state]; rfl
  have N0 := Fr.nil n0
  suffices hgo : Go p e below s 1 1 (Q5_1 Z aa ka xa xb xc xd h0 n0) (s₁.setTop (mkF m 0 #[.val (.ref aa), .val (.int (1 : Int32)), .unset] [])) by
    obtain ⟨t, o, h1, h2⟩ := hgo; exact ⟨t, o, castTop (ef_rm5_1 m aa) h1, h2⟩
  show Go p e below s _ _ _ (s₁.setTop (mkF m 0 #[.val (.ref aa), .val (.int (1 : Int32)), .unset] []))
  refine Go.st (fun _ k' => XS.iloadN X0.here hx rfl (hb hby d5_0) rfl k') ?_
  show Go p e below s _ _ _ (s₁.setTop (mkF m 1 #[.val (.ref aa), .val (.int (1 : Int32)), .unset] [(.int (1 : Int32))]))
  refine Go.st (fun _ k' => XS.aloadN X0.here hx rfl (hb hby d5_1) rfl rfl k') ?_
  show Go p e below s _ _ _ (s₁.setTop (mkF m 2 #[.val (.ref aa), .val (.int (1 : Int32)), .unset] [(.ref aa), (.int (1 : Int32))]))
  obtain ⟨cl1, Ar1, qc1, Sz1, Nn1, Ha1, Gf1⟩ := id Va
  refine Go.st (fun _ k' => X0.arraylength hx (by rw [e0]; exact Ar1.1) (State.isArrayOf_alike hZ.alike Ar1.2.1) (g := (mkF m 2 #[.val (.ref aa), .val (.int (1 : Int32)), .unset] [(.ref aa), (.int (1 : Int32))])) rfl rfl (hb hby d5_2) _ k') ?_
  rw [len_of Sz1 Nn1]
  show Go p e below s _ _ _ (s₁.setTop (mkF m 3 #[.val (.ref aa), .val (.int (1 : Int32)), .unset] [(.int (256 : Int32)), (.int (1 : Int32))]))
  refine Go.st (fun _ k' => XS.icmpYes X0.here hx rfl (pc0 := 3) (pc' := 14) rfl (hb hby d5_3) rfl (XT.ii_ne_t (by decide)) (by decide) (by decide) k') ?_
  show Go p e below s _ _ _ (s₁.setTop (mkF m 14 #[.val (.ref aa), .val (.int (1 : Int32)), .unset] []))
  refine Go.st (fun _ k' => XS.iloadN X0.here hx rfl (hb hby d5_14) rfl k') ?_
  show Go p e below s _ _ _ (s₁.setTop (mkF m 15 #[.val (.ref aa), .val (.int (1 : Int32)), .unset] [(.int (1 : Int32))]))
  obtain ⟨T2, h2, k2, X2, e2, E2, A2, st2⟩ := newP X0 hx hZ (wdx hw 9 rfl) e0 (g := (mkF m 15 #[.val (.ref aa), .val (.int (1 : Int32)), .unset] [(.int (1 : Int32))])) rfl (hb hby d5_15) rfl (by decide) (cap := 1) (by decide) (by decide) (by decide) (by decide)
  obtain ⟨b2, g2⟩ : ∃ z, z = h0.size := ⟨_, rfl⟩
  rw [← g2] at A2 st2
  refine Go.st st2 ?_
  have g_b2 : n0 ≤ b2 := Nat.le_trans (own_le O0) (Nat.le_of_eq g2.symm)
  have z_b2 : h0.size ≤ b2 := Nat.le_of_eq g2.symm
  have ne3 : aa ≠ b2 := Nat.ne_of_lt (Nat.lt_of_lt_of_le Va.lt (Nat.le_of_eq g2.symm))
  have f4 : Arv Z h2 aa ka .long (256 : Int32) [(.long xa), (.long xb), (.long xc), (.long xd)] (.long (0 : Int64)) := Va.ext E2
  have O2 : Old Z n0 h2 := O0.ext E2
  have K2 : Keep h0 h2 [] := (Keep.refl h0 []).ext E2
  have f5 : Arv Z h2 b2 k2 .long (1 : Int32) [(.long (0 : Int64))] (.long (0 : Int64)) := (Arv.new A2 (by decide)).pad (pad_rep [] (.long (0 : Int64)) 1)
  show Go p e below s _ _ _ (T2.setTop (mkF m 17 #[.val (.ref aa), .val (.int (1 : Int32)), .unset] [(.ref b2)]))
  refine Go.st (fun _ k' => XS.astoreN X2.here hx rfl (hb hby d5_17) rfl rfl (l' := #[.val (.ref aa), .val (.int (1 : Int32)), .val (.ref b2)]) rfl k') ?_
  show Go p e below s _ _ _ (T2.setTop (mkF m 18 #[.val (.ref aa), .val (.int (1 : Int32)), .val (.ref b2)] []))
  refine Go.st (fun _ k' => XS.aloadN X2.here hx rfl (hb hby d5_18) rfl rfl k') ?_
  show Go p e below s _ _ _ (T2.setTop (mkF m 19 #[.val (.ref aa), .val (.int (1 : Int32)), .val (.ref b2)] [(.ref aa)]))
  refine Go.st (fun _ k' => XS.iconst X2.here hx rfl (hb hby d5_19) k') ?_
  show Go p e below s _ _ _ (T2.setTop (mkF m 20 #[.val (.ref aa), .val (.int (1 : Int32)), .val (.ref b2)] [(.int (0 : Int32)), (.ref aa)]))
  refine Go.st (fun _ k' => XS.aloadN X2.here hx rfl (hb hby d5_20) rfl rfl k') ?_
  show Go p e below s _ _ _ (T2.setTop (mkF m 21 #[.val (.ref aa), .val (.int (1 : Int32)), .val (.ref b2)] [(.ref b2), (.int (0 : Int32)), (.ref aa)]))
  refine Go.st (fun _ k' => XS.iconst X2.here hx rfl (hb hby d5_21) k') ?_
  show Go p e below s _ _ _ (T2.setTop (mkF m 22 #[.val (.ref aa), .val (.int (1 : Int32)), .val (.ref b2)] [(.int (0 : Int32)), (.ref b2), (.int (0 : Int32)), (.ref aa)]))
  refine Go.st (fun _ k' => XS.aloadN X2.here hx rfl (hb hby d5_22) rfl rfl k') ?_
  show Go p e below s _ _ _ (T2.setTop (mkF m 23 #[.val (.ref aa), .val (.int (1 : Int32)), .val (.ref b2)] [(.ref aa), (.int (0 : Int32)), (.ref b2), (.int (0 : Int32)), (.ref aa)]))
  obtain ⟨cl6, Ar6, qc6, Sz6, Nn6, Ha6, Gf6⟩ := id f4
  refine Go.st (fun _ k' => X2.arraylength hx (by rw [e2]; exact Ar6.1) (State.isArrayOf_alike hZ.alike Ar6.2.1) (g := (mkF m 23 #[.val (.ref aa), .val (.int (1 : Int32)), .val (.ref b2)] [(.ref aa), (.int (0 : Int32)), (.ref b2), (.int (0 : Int32)), (.ref aa)])) rfl rfl (hb hby d5_23) _ k') ?_
  rw [len_of Sz6 Nn6]
  show Go p e below s _ _ _ (T2.setTop (mkF m 24 #[.val (.ref aa), .val (.int (1 : Int32)), .val (.ref b2)] [(.int (256 : Int32)), (.int (0 : Int32)), (.ref b2), (.int (0 : Int32)), (.ref aa)]))
  refine Go.st (fun _ k' => XS.iloadN X2.here hx rfl (hb hby d5_24) rfl k') ?_
  show Go p e below s _ _ _ (T2.setTop (mkF m 25 #[.val (.ref aa), .val (.int (1 : Int32)), .val (.ref b2)] [(.int (1 : Int32)), (.int (256 : Int32)), (.int (0 : Int32)), (.ref b2), (.int (0 : Int32)), (.ref aa)]))
  obtain ⟨_, _, ⟨T7, L7, k7, n7⟩, -, X7, ⟨Lc7, hQ7, l7, y7, z7⟩, st7⟩ := Jvm.LawKit.callS X2 hx (y := (⟨"java/lang/Math", "min", "(II)I"⟩ : MethodName)) hown (mvT hZ (wdx hw 28 rfl)) (mvT hZ (wdx hw 29 rfl)) (mvT hZ (wdx hw 30 rfl)) (mvT hZ (wdx hw 31 rfl)) (by decide) (backOf (W := 4) (rm6 l Z a0 hw [] (256 : Int32) (1 : Int32) h2 n0 O2 ) hZ (wdx hw 31 rfl) (wdx hw 30 rfl) (by decide) (by decide)) (g := (mkF m 25 #[.val (.ref aa), .val (.int (1 : Int32)), .val (.ref b2)] [(.int (1 : Int32)), (.int (256 : Int32)), (.int (0 : Int32)), (.ref b2), (.int (0 : Int32)), (.ref aa)])) rfl (by rw [hml]; rfl) (argsL := [(.int (256 : Int32)), (.int (1 : Int32))]) (rest := [(.int (0 : Int32)), (.ref b2), (.int (0 : Int32)), (.ref aa)]) (lenOf pd__II_I rfl) rfl (by show 2 * 0 + _ ≤ _; exact Nat.le_of_eq rfl) (hb hby d5_25) (fun _ _ => ⟨rfl, e2, (by exact Nat.le_of_ble_eq_true rfl), (by exact Nat.le_of_ble_eq_true rfl)⟩)
  dsimp only [Pt.U, Pt.locs, Pt.cells, Pt.slots] at X7 l7 y7 z7 st7 hQ7
  subst l7 y7 z7
  obtain ⟨rfl, Nq7, eq7⟩ := hQ7
  have N7 := Fr.app N0 Nq7
  refine Go.st st7 ?_
  show Go p e below s _ _ _ (T7.setTop (mkF m 28 #[.val (.ref aa), .val (.int (1 : Int32)), .val (.ref b2)] [(.int (fmin (256 : Int32) (1 : Int32))), (.int (0 : Int32)), (.ref b2), (.int (0 : Int32)), (.ref aa)]))
  show Go p e below s _ _ _ (T7.setTop (mkF m 28 #[.val (.ref aa), .val (.int (1 : Int32)), .val (.ref b2)] [(.int (1 : Int32)), (.int (0 : Int32)), (.ref b2), (.int (0 : Int32)), (.ref aa)]))
  obtain ⟨T8, h8, L8, X8, e8, N8, Kq8, V8, st8⟩ := cpA X7 hx hZ hown (wdx hw 32 rfl) (wdx hw 35 rfl) (wdx hw 33 rfl) (wdx hw 34 rfl) eq7 f4 f5 (Or.inl ⟨rfl, rfl⟩) (sp := (0 : Int32)) (dp := (0 : Int32)) (nn := (1 : Int32)) (by decide) (by decide) (by decide) (by decide) (by decide) (us := [(.long xa)]) rfl (by decide) N7 g_b2 (g := (mkF m 28 #[.val (.ref aa), .val (.int (1 : Int32)), .val (.ref b2)] [(.int (1 : Int32)), (.int (0 : Int32)), (.ref b2), (.int (0 : Int32)), (.ref aa)])) rfl (by rw [hml]; rfl) rfl (hb hby d5_28) (by decide) (W := 0) (by show 2 * 0 + _ ≤ _; exact Nat.le_of_eq rfl) (by decide)
  refine Go.st st8 ?_
  have f9 : Arv Z h8 aa ka .long (256 : Int32) [(.long xa), (.long xb), (.long xc), (.long xd)] (.long (0 : Int64)) := f4.keep Kq8 (ninS ne3 nin0)
  have O8 : Old Z n0 h8 := O2.keep Kq8 (allS g_b2 all0)
  have K8 : Keep h0 h8 [] := K2.trans Kq8 (allS (Or.inr z_b2) all0)
  have f10 : Arv Z h8 b2 k2 .long (1 : Int32) [(.long xa)] (.long (0 : Int64)) := V8
  show Go p e below s _ _ _ (T8.setTop (mkF m 31 #[.val (.ref aa), .val (.int (1 : Int32)), .val (.ref b2)] []))
  refine Go.st (fun _ k' => XS.aloadN X8.here hx rfl (hb hby d5_31) rfl rfl k') ?_
  show Go p e below s _ _ _ (T8.setTop (mkF m 32 #[.val (.ref aa), .val (.int (1 : Int32)), .val (.ref b2)] [(.ref b2)]))
  refine Go.ret X8 hx hlk (t := (.array .long)) Bd.returns rfl (Or.inr (Or.inr (Or.inr (Or.inr ⟨rfl, rfl, rfl⟩)))) (hb hby d5_32) (by decide) (by decide) e8 ?_
  exact ⟨b2, k2, rfl, N8, K8, f10, z_b2⟩
theorem ef_rm4_1 (m : MethodId) (ob : Addr) : entryFrame m #[(.ref ob)] 1 = mkF m 0 #[.val (.ref ob)] [] := by first | (simp [entryFrame, mkF, argsToLocals, Value.category]; done) | rfl
def Q4_1 (Z : State) (ob : Addr) (na : Addr) (ka : ClassId) (xa : Int64) (xb : Int64) (xc : Int64) (xd : Int64) (h0 : Heap) (n0 : Nat) (v : Option Value) (h : Heap) (L : List Loc) : Prop := ∃ (rr : Addr) (kr : ClassId), v = some (.ref rr) ∧ Fr n0 L ∧ Keep h0 h [] ∧ Arv Z h rr kr .long (1 : Int32) [(.long xa)] (.long (0 : Int64)) ∧ h0.size ≤ rr
set_option maxRecDepth 65536 in
set_option maxHeartbeats 40000000 in
theorem rm4_1 (l : Launch) (Z : State) (a0 : Array Value) (hw : ∀ d ∈ tables_1, d.before a0 Z = true) (ws : List Jvm.Cond) (ob : Addr) (na : Addr) (ka : ClassId) (xa : Int64) (xb : Int64) (xc : Int64) (xd : Int64) (h0 : Heap) (n0 : Nat) (O0 : Old Z n0 h0) (Fa : Fld Z h0 ob "com/example/spillway/spillway/runtime/Latencies" "nanos" "[J" (.ref na)) (Fb : Fld Z h0 ob "com/example/spillway/spillway/runtime/Latencies" "count" "I" (.int (1 : Int32))) (Va : Arv Z h0 na ka .long (256 : Int32) [(.long xa), (.long xb), (.long xc), (.long xd)] (.long (0 : Int64))) :
    MetFree l (⟨"com/example/spillway/spillway/runtime/Latencies", "toArray", "()[J"⟩ : MethodName) (head1 (Jvm.Cond.code (⟨"com/example/spillway/spillway/runtime/Latencies", "toArray", "()[J"⟩ : MethodName) prog_18_method_3_code 1 (some (.array .long)) :: ws) ({ frames := 2, cells := 1, slots := 1, locals := 32 } : Room)) (fun ay U => ay = #[(.ref ob)] ∧ Z.Warmed39 U.vm ∧ U.heap = h0) (fun _ _ _ _ _ => True) (fun _ U o U' => ∃ v L, o = .returned v ∧ Q4_1 Z ob na ka xa xb xc xd h0 n0 v U'.heap L ∧ FrameEnd U o U' L ({ frames := 2, cells := 1, slots := 1, locals := 32 } : Room).cells ({ frames := 2, cells := 1, slots := 1, locals := 32 } : Room).slots) := by
  refine MetFree.of_bodySF (plainFor_of_name pn_com_example_spillway_spillway_runtime_Latencies) hisR ?_
  intro p e s m args below meth c s₁ Bd hml0 hP hK
  obtain ⟨rfl, hZ, hh⟩ := hP
  have hx := Bd.exec
  have hby := Bd.bytes
  have hlk : meth.locks = false := BodyLoose.notSynchronized Bd
  have hml : c.maxLocals = 1 := hml0
  have hown : s.vm.findClass "com/example/spillway/spillway/runtime/Latencies" = some m.cls := findClass_of_methodNamed Bd.named
  have hnm := (name_of_methodNamed Bd.named Bd.method).1
  have X0 : Stand p l e ({ frames := 2, cells := 1, slots := 1, locals := 32 } : Room) s m #[(.ref ob)] below meth c s₁ [] 0 0 := Stand.of_body Bd
  have e0 : s₁.heap = h0 := by rw [← hh, Bd.state]; rfl
  have N0 := Fr.nil n0
  suffices hgo : Go p e below s 1 1 (Q4_1 Z ob na ka xa xb xc xd h0 n0) (s₁.setTop (mkF m 0 #[.val (.ref ob)] [])) by
    obtain ⟨t, o, h1, h2⟩ := hgo; exact ⟨t, o, castTop (ef_rm4_1 m ob) h1, h2⟩
  show Go p e below s _ _ _ (s₁.setTop (mkF m 0 #[.val (.ref ob)] []))
  refine Go.st (fun _ k' => XS.aloadN X0.here hx rfl (hb hby d4_0) rfl rfl k') ?_
  show Go p e below s _ _ _ (s₁.setTop (mkF m 1 #[.val (.ref ob)] [(.ref ob)]))
  obtain ⟨T1, X1, e1, st1⟩ := getF X0 hx hZ hown (host := "") (Or.inl (wdx hw 10 rfl)) Via.refl e0 Fa (g := (mkF m 1 #[.val (.ref ob)] [(.ref ob)])) rfl rfl (hb hby d4_1)
  refine Go.st st1 ?_
  show Go p e below s _ _ _ (T1.setTop (mkF m 4 #[.val (.ref ob)] [(.ref na)]))
  refine Go.st (fun _ k' => XS.aloadN X1.here hx rfl (hb hby d4_4) rfl rfl k') ?_
  show Go p e below s _ _ _ (T1.setTop (mkF m 5 #[.val (.ref ob)] [(.ref ob), (.ref na)]))
  obtain ⟨T2, X2, e2, st2⟩ := getF X1 hx hZ hown (host := "") (Or.inl (wdx hw 17 rfl)) Via.refl e1 Fb (g := (mkF m 5 #[.val (.ref ob)] [(.ref ob), (.ref na)])) rfl rfl (hb hby d4_5)
  refine Go.st st2 ?_
  show Go p e below s _ _ _ (T2.setTop (mkF m 8 #[.val (.ref ob)] [(.int (1 : Int32)), (.ref na)]))
  obtain ⟨_, _, ⟨T3, L3, k3, n3⟩, -, X3, ⟨Lc3, hQ3, l3, y3, z3⟩, st3⟩ := Jvm.LawKit.callS X2 hx (y := (⟨"java/util/Arrays", "copyOf", "([JI)[J"⟩ : MethodName)) hown (mvT hZ (wdx hw 24 rfl)) (mvT hZ (wdx hw 25 rfl)) (mvT hZ (wdx hw 26 rfl)) (mvT hZ (wdx hw 27 rfl)) (by decide) (backOf (W := 0) (rm5_1 l Z a0 hw [] na ka xa xb xc xd h0 n0 O0 Va) hZ (wdx hw 27 rfl) (wdx hw 26 rfl) (by decide) (by decide)) (g := (mkF m 8 #[.val (.ref ob)] [(.int (1 : Int32)), (.ref na)])) rfl (by rw [hml]; rfl) (argsL := [(.ref na), (.int (1 : Int32))]) (rest := []) (lenOf pd___JI__J rfl) rfl (by show 2 * 0 + _ ≤ _; exact Nat.le_of_eq rfl) (hb hby d4_8) (fun _ _ => ⟨rfl, e2, (by exact Nat.le_of_ble_eq_true rfl), (by exact Nat.le_of_ble_eq_true rfl)⟩)
  dsimp only [Pt.U, Pt.locs, Pt.cells, Pt.slots] at X3 l3 y3 z3 st3 hQ3
  subst l3 y3 z3
  obtain ⟨rr_3, kr_3, rfl, Nq3, Kq3, f4, szr_3⟩ := hQ3
  have N3 := Fr.app N0 Nq3
  refine Go.st st3 ?_
  have f5 : Fld Z T3.heap ob "com/example/spillway/spillway/runtime/Latencies" "nanos" "[J" (.ref na) := Fa.keep Kq3 nin0
  have f6 : Fld Z T3.heap ob "com/example/spillway/spillway/runtime/Latencies" "count" "I" (.int (1 : Int32)) := Fb.keep Kq3 nin0
  have f7 : Arv Z T3.heap na ka .long (256 : Int32) [(.long xa), (.long xb), (.long xc), (.long xd)] (.long (0 : Int64)) := Va.keep Kq3 nin0
  have O3 : Old Z n0 T3.heap := O0.keep Kq3 all0
  have K3 : Keep h0 T3.heap [] := (Keep.refl h0 []).trans Kq3 all0
  have g_rr_3 : n0 ≤ rr_3 := Nat.le_trans (own_le O0) szr_3
  have z_rr_3 : h0.size ≤ rr_3 := szr_3
  have ne8 : ob ≠ rr_3 := Nat.ne_of_lt (Nat.lt_of_lt_of_le Fa.lt szr_3)
  have ne9 : na ≠ rr_3 := Nat.ne_of_lt (Nat.lt_of_lt_of_le Va.lt szr_3)
  show Go p e below s _ _ _ (T3.setTop (mkF m 11 #[.val (.ref ob)] [(.ref rr_3)]))
  refine Go.ret X3 hx hlk (t := (.array .long)) Bd.returns rfl (Or.inr (Or.inr (Or.inr (Or.inr ⟨rfl, rfl, rfl⟩)))) (hb hby d4_11) (by decide) (by decide) rfl ?_
  exact ⟨rr_3, kr_3, rfl, N3, K3, f4, z_rr_3⟩
theorem ef_rm5_2 (m : MethodId) (aa : Addr) : entryFrame m #[(.ref aa), (.int (2 : Int32))] 3 = mkF m 0 #[.val (.ref aa), .val (.int (2 : Int32)), .unset] [] := by first | (simp [entryFrame, mkF, argsToLocals, Value.category]; done) | rfl
def Q5_2 (Z : State) (aa : Addr) (ka : ClassId) (xa : Int64) (xb : Int64) (xc : Int64) (xd : Int64) (h0 : Heap) (n0 : Nat) (v : Option Value) (h : Heap) (L : List Loc) : Prop := ∃ (rr : Addr) (kr : ClassId), v = some (.ref rr) ∧ Fr n0 L ∧ Keep h0 h [] ∧ Arv Z h rr kr .long (2 : Int32) [(.long xa), (.long xb)] (.long (0 : Int64)) ∧ h0.size ≤ rr
set_option maxRecDepth 65536 in
set_option maxHeartbeats 40000000 in
theorem rm5_2 (l : Launch) (Z : State) (a0 : Array Value) (hw : ∀ d ∈ tables_1, d.before a0 Z = true) (ws : List Jvm.Cond) (aa : Addr) (ka : ClassId) (xa : Int64) (xb : Int64) (xc : Int64) (xd : Int64) (h0 : Heap) (n0 : Nat) (O0 : Old Z n0 h0) (Va : Arv Z h0 aa ka .long (256 : Int32) [(.long xa), (.long xb), (.long xc), (.long xd)] (.long (0 : Int64))) :
    MetFree l (⟨"java/util/Arrays", "copyOf", "([JI)[J"⟩ : MethodName) (head1 (Jvm.Cond.code (⟨"java/util/Arrays", "copyOf", "([JI)[J"⟩ : MethodName) jdk_65_method_124_code 3 (some (.array .long)) :: ws) ({ frames := 1, cells := 1, slots := 2, locals := 18 } : Room)) (fun ay U => ay = #[(.ref aa), (.int (2 : Int32))] ∧ Z.Warmed39 U.vm ∧ U.heap = h0) (fun _ _ _ _ _ => True) (fun _ U o U' => ∃ v L, o = .returned v ∧ Q5_2 Z aa ka xa xb xc xd h0 n0 v U'.heap L ∧ FrameEnd U o U' L ({ frames := 1, cells := 1, slots := 2, locals := 18 } : Room).cells ({ frames := 1, cells := 1, slots := 2, locals := 18 } : Room).slots) := by
  refine MetFree.of_bodySF (plainFor_of_name pn_java_util_Arrays) hisR ?_
  intro p e s m args below meth c s₁ Bd hml0 hP hK
  obtain ⟨rfl, hZ, hh⟩ := hP
  have hx := Bd.exec
  have hby := Bd.bytes
  have hlk : meth.locks = false := BodyLoose.notSynchronized Bd
  have hml : c.maxLocals = 3 := hml0
  have hown : s.vm.findClass "java/util/Arrays" = some m.cls := findClass_of_methodNamed Bd.named
  have hnm := (name_of_methodNamed Bd.named Bd.method).1
  have X0 : Stand p l e ({ frames := 1, cells := 1, slots := 2, locals := 18 } : Room) s m #[(.ref aa), (.int (2 : Int32))] below meth c s₁ [] 0 0 := Stand.of_body Bd
  have e0 : s₁.heap = h0 := by rw [← hh, Bd.state]; rfl
  have N0 := Fr.nil n0
  suffices hgo : Go p e below s 1 2 (Q5_2 Z aa ka xa xb xc xd h0 n0) (s₁.setTop (mkF m 0 #[.val (.ref aa), .val (.int (2 : Int32)), .unset] [])) by
    obtain ⟨t, o, h1, h2⟩ := hgo; exact ⟨t, o, castTop (ef_rm5_2 m aa) h1, h2⟩
  show Go p e below s _ _ _ (s₁.setTop (mkF m 0 #[.val (.ref aa), .val (.int (2 : Int32)), .unset] []))
  refine Go.st (fun _ k' => XS.iloadN X0.here hx rfl (hb hby d5_0) rfl k') ?_
  show Go p e below s _ _ _ (s₁.setTop (mkF m 1 #[.val (.ref aa), .val (.int (2 : Int32)), .unset] [(.int (2 : Int32))]))
  refine Go.st (fun _ k' => XS.aloadN X0.here hx rfl (hb hby d5_1) rfl rfl k') ?_
  show Go p e below s _ _ _ (s₁.setTop (mkF m 2 #[.val (.ref aa), .val (.int (2 : Int32)), .unset] [(.ref aa), (.int (2 : Int32))]))
  obtain ⟨cl1, Ar1, qc1, Sz1, Nn1, Ha1, Gf1⟩ := id Va
  refine Go.st (fun _ k' => X0.arraylength hx (by rw [e0]; exact Ar1.1) (State.isArrayOf_alike hZ.alike Ar1.2.1) (g := (mkF m 2 #[.val (.ref aa), .val (.int (2 : Int32)), .unset] [(.ref aa), (.int (2 : Int32))])) rfl rfl (hb hby d5_2) _ k') ?_
  rw [len_of Sz1 Nn1]
  show Go p e below s _ _ _ (s₁.setTop (mkF m 3 #[.val (.ref aa), .val (.int (2 : Int32)), .unset] [(.int (256 : Int32)), (.int (2 : Int32))]))
  refine Go.st (fun _ k' => XS.icmpYes X0.here hx rfl (pc0 := 3) (pc' := 14) rfl (hb hby d5_3) rfl (XT.ii_ne_t (by decide)) (by decide) (by decide) k') ?_
  show Go p e below s _ _ _ (s₁.setTop (mkF m 14 #[.val (.ref aa), .val (.int (2 : Int32)), .unset] []))
  refine Go.st (fun _ k' => XS.iloadN X0.here hx rfl (hb hby d5_14) rfl k') ?_
  show Go p e below s _ _ _ (s₁.setTop (mkF m 15 #[.val (.ref aa), .val (.int (2 : Int32)), .unset] [(.int (2 : Int32))]))
  obtain ⟨T2, h2, k2, X2, e2, E2, A2, st2⟩ := newP X0 hx hZ (wdx hw 9 rfl) e0 (g := (mkF m 15 #[.val (.ref aa), .val (.int (2 : Int32)), .unset] [(.int (2 : Int32))])) rfl (hb hby d5_15) rfl (by decide) (cap := 2) (by decide) (by decide) (by decide) (by decide)
  obtain ⟨b2, g2⟩ : ∃ z, z = h0.size := ⟨_, rfl⟩
  rw [← g2] at A2 st2
  refine Go.st st2 ?_
  have g_b2 : n0 ≤ b2 := Nat.le_trans (own_le O0) (Nat.le_of_eq g2.symm)
  have z_b2 : h0.size ≤ b2 := Nat.le_of_eq g2.symm
  have ne3 : aa ≠ b2 := Nat.ne_of_lt (Nat.lt_of_lt_of_le Va.lt (Nat.le_of_eq g2.symm))
  have f4 : Arv Z h2 aa ka .long (256 : Int32) [(.long xa), (.long xb), (.long xc), (.long xd)] (.long (0 : Int64)) := Va.ext E2
  have O2 : Old Z n0 h2 := O0.ext E2
  have K2 : Keep h0 h2 [] := (Keep.refl h0 []).ext E2
  have f5 : Arv Z h2 b2 k2 .long (2 : Int32) [(.long (0 : Int64)), (.long (0 : Int64))] (.long (0 : Int64)) := (Arv.new A2 (by decide)).pad (pad_rep [] (.long (0 : Int64)) 2)
  show Go p e below s _ _ _ (T2.setTop (mkF m 17 #[.val (.ref aa), .val (.int (2 : Int32)), .unset] [(.ref b2)]))
  refine Go.st (fun _ k' => XS.astoreN X2.here hx rfl (hb hby d5_17) rfl rfl (l' := #[.val (.ref aa), .val (.int (2 : Int32)), .val (.ref b2)]) rfl k') ?_
  show Go p e below s _ _ _ (T2.setTop (mkF m 18 #[.val (.ref aa), .val (.int (2 : Int32)), .val (.ref b2)] []))
  refine Go.st (fun _ k' => XS.aloadN X2.here hx rfl (hb hby d5_18) rfl rfl k') ?_
  show Go p e below s _ _ _ (T2.setTop (mkF m 19 #[.val (.ref aa), .val (.int (2 : Int32)), .val (.ref b2)] [(.ref aa)]))
  refine Go.st (fun _ k' => XS.iconst X2.here hx rfl (hb hby d5_19) k') ?_
  show Go p e below s _ _ _ (T2.setTop (mkF m 20 #[.val (.ref aa), .val (.int (2 : Int32)), .val (.ref b2)] [(.int (0 : Int32)), (.ref aa)]))
  refine Go.st (fun _ k' => XS.aloadN X2.here hx rfl (hb hby d5_20) rfl rfl k') ?_
  show Go p e below s _ _ _ (T2.setTop (mkF m 21 #[.val (.ref aa), .val (.int (2 : Int32)), .val (.ref b2)] [(.ref b2), (.int (0 : Int32)), (.ref aa)]))
  refine Go.st (fun _ k' => XS.iconst X2.here hx rfl (hb hby d5_21) k') ?_
  show Go p e below s _ _ _ (T2.setTop (mkF m 22 #[.val (.ref aa), .val (.int (2 : Int32)), .val (.ref b2)] [(.int (0 : Int32)), (.ref b2), (.int (0 : Int32)), (.ref aa)]))
  refine Go.st (fun _ k' => XS.aloadN X2.here hx rfl (hb hby d5_22) rfl rfl k') ?_
  show Go p e below s _ _ _ (T2.setTop (mkF m 23 #[.val (.ref aa), .val (.int (2 : Int32)), .val (.ref b2)] [(.ref aa), (.int (0 : Int32)), (.ref b2), (.int (0 : Int32)), (.ref aa)]))
  obtain ⟨cl6, Ar6, qc6, Sz6, Nn6, Ha6, Gf6⟩ := id f4
  refine Go.st (fun _ k' => X2.arraylength hx (by rw [e2]; exact Ar6.1) (State.isArrayOf_alike hZ.alike Ar6.2.1) (g := (mkF m 23 #[.val (.ref aa), .val (.int (2 : Int32)), .val (.ref b2)] [(.ref aa), (.int (0 : Int32)), (.ref b2), (.int (0 : Int32)), (.ref aa)])) rfl rfl (hb hby d5_23) _ k') ?_
  rw [len_of Sz6 Nn6]
  show Go p e below s _ _ _ (T2.setTop (mkF m 24 #[.val (.ref aa), .val (.int (2 : Int32)), .val (.ref b2)] [(.int (256 : Int32)), (.int (0 : Int32)), (.ref b2), (.int (0 : Int32)), (.ref aa)]))
  refine Go.st (fun _ k' => XS.iloadN X2.here hx rfl (hb hby d5_24) rfl k') ?_
  show Go p e below s _ _ _ (T2.setTop (mkF m 25 #[.val (.ref aa), .val (.int (2 : Int32)), .val (.ref b2)] [(.int (2 : Int32)), (.int (256 : Int32)), (.int (0 : Int32)), (.ref b2), (.int (0 : Int32)), (.ref aa)]))
  obtain ⟨_, _, ⟨T7, L7, k7, n7⟩, -, X7, ⟨Lc7, hQ7, l7, y7, z7⟩, st7⟩ := Jvm.LawKit.callS X2 hx (y := (⟨"java/lang/Math", "min", "(II)I"⟩ : MethodName)) hown (mvT hZ (wdx hw 28 rfl)) (mvT hZ (wdx hw 29 rfl)) (mvT hZ (wdx hw 30 rfl)) (mvT hZ (wdx hw 31 rfl)) (by decide) (backOf (W := 4) (rm6 l Z a0 hw [] (256 : Int32) (2 : Int32) h2 n0 O2 ) hZ (wdx hw 31 rfl) (wdx hw 30 rfl) (by decide) (by decide)) (g := (mkF m 25 #[.val (.ref aa), .val (.int (2 : Int32)), .val (.ref b2)] [(.int (2 : Int32)), (.int (256 : Int32)), (.int (0 : Int32)), (.ref b2), (.int (0 : Int32)), (.ref aa)])) rfl (by rw [hml]; rfl) (argsL := [(.int (256 : Int32)), (.int (2 : Int32))]) (rest := [(.int (0 : Int32)), (.ref b2), (.int (0 : Int32)), (.ref aa)]) (lenOf pd__II_I rfl) rfl (by show 2 * 0 + _ ≤ _; exact Nat.le_of_eq rfl) (hb hby d5_25) (fun _ _ => ⟨rfl, e2, (by exact Nat.le_of_ble_eq_true rfl), (by exact Nat.le_of_ble_eq_true rfl)⟩)
  dsimp only [Pt.U, Pt.locs, Pt.cells, Pt.slots] at X7 l7 y7 z7 st7 hQ7
  subst l7 y7 z7
  obtain ⟨rfl, Nq7, eq7⟩ := hQ7
  have N7 := Fr.app N0 Nq7
  refine Go.st st7 ?_
  show Go p e below s _ _ _ (T7.setTop (mkF m 28 #[.val (.ref aa), .val (.int (2 : Int32)), .val (.ref b2)] [(.int (fmin (256 : Int32) (2 : Int32))), (.int (0 : Int32)), (.ref b2), (.int (0 : Int32)), (.ref aa)]))
  show Go p e below s _ _ _ (T7.setTop (mkF m 28 #[.val (.ref aa), .val (.int (2 : Int32)), .val (.ref b2)] [(.int (2 : Int32)), (.int (0 : Int32)), (.ref b2), (.int (0 : Int32)), (.ref aa)]))
  obtain ⟨T8, h8, L8, X8, e8, N8, Kq8, V8, st8⟩ := cpA X7 hx hZ hown (wdx hw 32 rfl) (wdx hw 35 rfl) (wdx hw 33 rfl) (wdx hw 34 rfl) eq7 f4 f5 (Or.inl ⟨rfl, rfl⟩) (sp := (0 : Int32)) (dp := (0 : Int32)) (nn := (2 : Int32)) (by decide) (by decide) (by decide) (by decide) (by decide) (us := [(.long xa), (.long xb)]) rfl (by decide) N7 g_b2 (g := (mkF m 28 #[.val (.ref aa), .val (.int (2 : Int32)), .val (.ref b2)] [(.int (2 : Int32)), (.int (0 : Int32)), (.ref b2), (.int (0 : Int32)), (.ref aa)])) rfl (by rw [hml]; rfl) rfl (hb hby d5_28) (by decide) (W := 0) (by show 2 * 0 + _ ≤ _; exact Nat.le_of_eq rfl) (by decide)
  refine Go.st st8 ?_
  have f9 : Arv Z h8 aa ka .long (256 : Int32) [(.long xa), (.long xb), (.long xc), (.long xd)] (.long (0 : Int64)) := f4.keep Kq8 (ninS ne3 nin0)
  have O8 : Old Z n0 h8 := O2.keep Kq8 (allS g_b2 all0)
  have K8 : Keep h0 h8 [] := K2.trans Kq8 (allS (Or.inr z_b2) all0)
  have f10 : Arv Z h8 b2 k2 .long (2 : Int32) [(.long xa), (.long xb)] (.long (0 : Int64)) := V8
  show Go p e below s _ _ _ (T8.setTop (mkF m 31 #[.val (.ref aa), .val (.int (2 : Int32)), .val (.ref b2)] []))
  refine Go.st (fun _ k' => XS.aloadN X8.here hx rfl (hb hby d5_31) rfl rfl k') ?_
  show Go p e below s _ _ _ (T8.setTop (mkF m 32 #[.val (.ref aa), .val (.int (2 : Int32)), .val (.ref b2)] [(.ref b2)]))
  refine Go.ret X8 hx hlk (t := (.array .long)) Bd.returns rfl (Or.inr (Or.inr (Or.inr (Or.inr ⟨rfl, rfl, rfl⟩)))) (hb hby d5_32) (by decide) (by decide) e8 ?_
  exact ⟨b2, k2, rfl, N8, K8, f10, z_b2⟩
theorem ef_rm4_2 (m : MethodId) (ob : Addr) : entryFrame m #[(.ref ob)] 1 = mkF m 0 #[.val (.ref ob)] [] := by first | (simp [entryFrame, mkF, argsToLocals, Value.category]; done) | rfl
def Q4_2 (Z : State) (ob : Addr) (na : Addr) (ka : ClassId) (xa : Int64) (xb : Int64) (xc : Int64) (xd : Int64) (h0 : Heap) (n0 : Nat) (v : Option Value) (h : Heap) (L : List Loc) : Prop := ∃ (rr : Addr) (kr : ClassId), v = some (.ref rr) ∧ Fr n0 L ∧ Keep h0 h [] ∧ Arv Z h rr kr .long (2 : Int32) [(.long xa), (.long xb)] (.long (0 : Int64)) ∧ h0.size ≤ rr
set_option maxRecDepth 65536 in
set_option maxHeartbeats 40000000 in
theorem rm4_2 (l : Launch) (Z : State) (a0 : Array Value) (hw : ∀ d ∈ tables_1, d.before a0 Z = true) (ws : List Jvm.Cond) (ob : Addr) (na : Addr) (ka : ClassId) (xa : Int64) (xb : Int64) (xc : Int64) (xd : Int64) (h0 : Heap) (n0 : Nat) (O0 : Old Z n0 h0) (Fa : Fld Z h0 ob "com/example/spillway/spillway/runtime/Latencies" "nanos" "[J" (.ref na)) (Fb : Fld Z h0 ob "com/example/spillway/spillway/runtime/Latencies" "count" "I" (.int (2 : Int32))) (Va : Arv Z h0 na ka .long (256 : Int32) [(.long xa), (.long xb), (.long xc), (.long xd)] (.long (0 : Int64))) :
    MetFree l (⟨"com/example/spillway/spillway/runtime/Latencies", "toArray", "()[J"⟩ : MethodName) (head1 (Jvm.Cond.code (⟨"com/example/spillway/spillway/runtime/Latencies", "toArray", "()[J"⟩ : MethodName) prog_18_method_3_code 1 (some (.array .long)) :: ws) ({ frames := 2, cells := 1, slots := 2, locals := 32 } : Room)) (fun ay U => ay = #[(.ref ob)] ∧ Z.Warmed39 U.vm ∧ U.heap = h0) (fun _ _ _ _ _ => True) (fun _ U o U' => ∃ v L, o = .returned v ∧ Q4_2 Z ob na ka xa xb xc xd h0 n0 v U'.heap L ∧ FrameEnd U o U' L ({ frames := 2, cells := 1, slots := 2, locals := 32 } : Room).cells ({ frames := 2, cells := 1, slots := 2, locals := 32 } : Room).slots) := by
  refine MetFree.of_bodySF (plainFor_of_name pn_com_example_spillway_spillway_runtime_Latencies) hisR ?_
  intro p e s m args below meth c s₁ Bd hml0 hP hK
  obtain ⟨rfl, hZ, hh⟩ := hP
  have hx := Bd.exec
  have hby := Bd.bytes
  have hlk : meth.locks = false := BodyLoose.notSynchronized Bd
  have hml : c.maxLocals = 1 := hml0
  have hown : s.vm.findClass "com/example/spillway/spillway/runtime/Latencies" = some m.cls := findClass_of_methodNamed Bd.named
  have hnm := (name_of_methodNamed Bd.named Bd.method).1
  have X0 : Stand p l e ({ frames := 2, cells := 1, slots := 2, locals := 32 } : Room) s m #[(.ref ob)] below meth c s₁ [] 0 0 := Stand.of_body Bd
  have e0 : s₁.heap = h0 := by rw [← hh, Bd.state]; rfl
  have N0 := Fr.nil n0
  suffices hgo : Go p e below s 1 2 (Q4_2 Z ob na ka xa xb xc xd h0 n0) (s₁.setTop (mkF m 0 #[.val (.ref ob)] [])) by
    obtain ⟨t, o, h1, h2⟩ := hgo; exact ⟨t, o, castTop (ef_rm4_2 m ob) h1, h2⟩
  show Go p e below s _ _ _ (s₁.setTop (mkF m 0 #[.val (.ref ob)] []))
  refine Go.st (fun _ k' => XS.aloadN X0.here hx rfl (hb hby d4_0) rfl rfl k') ?_
  show Go p e below s _ _ _ (s₁.setTop (mkF m 1 #[.val (.ref ob)] [(.ref ob)]))
  obtain ⟨T1, X1, e1, st1⟩ := getF X0 hx hZ hown (host := "") (Or.inl (wdx hw 10 rfl)) Via.refl e0 Fa (g := (mkF m 1 #[.val (.ref ob)] [(.ref ob)])) rfl rfl (hb hby d4_1)
  refine Go.st st1 ?_
  show Go p e below s _ _ _ (T1.setTop (mkF m 4 #[.val (.ref ob)] [(.ref na)]))
  refine Go.st (fun _ k' => XS.aloadN X1.here hx rfl (hb hby d4_4) rfl rfl k') ?_
  show Go p e below s _ _ _ (T1.setTop (mkF m 5 #[.val (.ref ob)] [(.ref ob), (.ref na)]))
  obtain ⟨T2, X2, e2, st2⟩ := getF X1 hx hZ hown (host := "") (Or.inl (wdx hw 17 rfl)) Via.refl e1 Fb (g := (mkF m 5 #[.val (.ref ob)] [(.ref ob), (.ref na)])) rfl rfl (hb hby d4_5)
  refine Go.st st2 ?_
  show Go p e below s _ _ _ (T2.setTop (mkF m 8 #[.val (.ref ob)] [(.int (2 : Int32)), (.ref na)]))
  obtain ⟨_, _, ⟨T3, L3, k3, n3⟩, -, X3, ⟨Lc3, hQ3, l3, y3, z3⟩, st3⟩ := Jvm.LawKit.callS X2 hx (y := (⟨"java/util/Arrays", "copyOf", "([JI)[J"⟩ : MethodName)) hown (mvT hZ (wdx hw 24 rfl)) (mvT hZ (wdx hw 25 rfl)) (mvT hZ (wdx hw 26 rfl)) (mvT hZ (wdx hw 27 rfl)) (by decide) (backOf (W := 0) (rm5_2 l Z a0 hw [] na ka xa xb xc xd h0 n0 O0 Va) hZ (wdx hw 27 rfl) (wdx hw 26 rfl) (by decide) (by decide)) (g := (mkF m 8 #[.val (.ref ob)] [(.int (2 : Int32)), (.ref na)])) rfl (by rw [hml]; rfl) (argsL := [(.ref na), (.int (2 : Int32))]) (rest := []) (lenOf pd___JI__J rfl) rfl (by show 2 * 0 + _ ≤ _; exact Nat.le_of_eq rfl) (hb hby d4_8) (fun _ _ => ⟨rfl, e2, (by exact Nat.le_of_ble_eq_true rfl), (by exact Nat.le_of_ble_eq_true rfl)⟩)
  dsimp only [Pt.U, Pt.locs, Pt.cells, Pt.slots] at X3 l3 y3 z3 st3 hQ3
  subst l3 y3 z3
  obtain ⟨rr_3, kr_3, rfl, Nq3, Kq3, f4, szr_3⟩ := hQ3
  have N3 := Fr.app N0 Nq3
  refine Go.st st3 ?_
  have f5 : Fld Z T3.heap ob "com/example/spillway/spillway/runtime/Latencies" "nanos" "[J" (.ref na) := Fa.keep Kq3 nin0
  have f6 : Fld Z T3.heap ob "com/example/spillway/spillway/runtime/Latencies" "count" "I" (.int (2 : Int32)) := Fb.keep Kq3 nin0
  have f7 : Arv Z T3.heap na ka .long (256 : Int32) [(.long xa), (.long xb), (.long xc), (.long xd)] (.long (0 : Int64)) := Va.keep Kq3 nin0
  have O3 : Old Z n0 T3.heap := O0.keep Kq3 all0
  have K3 : Keep h0 T3.heap [] := (Keep.refl h0 []).trans Kq3 all0
  have g_rr_3 : n0 ≤ rr_3 := Nat.le_trans (own_le O0) szr_3
  have z_rr_3 : h0.size ≤ rr_3 := szr_3
  have ne8 : ob ≠ rr_3 := Nat.ne_of_lt (Nat.lt_of_lt_of_le Fa.lt szr_3)
  have ne9 : na ≠ rr_3 := Nat.ne_of_lt (Nat.lt_of_lt_of_le Va.lt szr_3)
  show Go p e below s _ _ _ (T3.setTop (mkF m 11 #[.val (.ref ob)] [(.ref rr_3)]))
  refine Go.ret X3 hx hlk (t := (.array .long)) Bd.returns rfl (Or.inr (Or.inr (Or.inr (Or.inr ⟨rfl, rfl, rfl⟩)))) (hb hby d4_11) (by decide) (by decide) rfl ?_
  exact ⟨rr_3, kr_3, rfl, N3, K3, f4, z_rr_3⟩
theorem ef_rm5_3 (m : MethodId) (aa : Addr) : entryFrame m #[(.ref aa), (.int (3 : Int32))] 3 = mkF m 0 #[.val (.ref aa), .val (.int (3 : Int32)), .unset] [] := by first | (simp [entryFrame, mkF, argsToLocals, Value.category]; done) | rfl
def Q5_3 (Z : State) (aa : Addr) (ka : ClassId) (xa : Int64) (xb : Int64) (xc : Int64) (xd : Int64) (h0 : Heap) (n0 : Nat) (v : Option Value) (h : Heap) (L : List Loc) : Prop := ∃ (rr : Addr) (kr : ClassId), v = some (.ref rr) ∧ Fr n0 L ∧ Keep h0 h [] ∧ Arv Z h rr kr .long (3 : Int32) [(.long xa), (.long xb), (.long xc)] (.long (0 : Int64)) ∧ h0.size ≤ rr
set_option maxRecDepth 65536 in
set_option maxHeartbeats 40000000 in
theorem rm5_3 (l : Launch) (Z : State) (a0 : Array Value) (hw : ∀ d ∈ tables_1, d.before a0 Z = true) (ws : List Jvm.Cond) (aa : Addr) (ka : ClassId) (xa : Int64) (xb : Int64) (xc : Int64) (xd : Int64) (h0 : Heap) (n0 : Nat) (O0 : Old Z n0 h0) (Va : Arv Z h0 aa ka .long (256 : Int32) [(.long xa), (.long xb), (.long xc), (.long xd)] (.long (0 : Int64))) :
    MetFree l (⟨"java/util/Arrays", "copyOf", "([JI)[J"⟩ : MethodName) (head1 (Jvm.Cond.code (⟨"java/util/Arrays", "copyOf", "([JI)[J"⟩ : MethodName) jdk_65_method_124_code 3 (some (.array .long)) :: ws) ({ frames := 1, cells := 1, slots := 3, locals := 18 } : Room)) (fun ay U => ay = #[(.ref aa), (.int (3 : Int32))] ∧ Z.Warmed39 U.vm ∧ U.heap = h0) (fun _ _ _ _ _ => True) (fun _ U o U' => ∃ v L, o = .returned v ∧ Q5_3 Z aa ka xa xb xc xd h0 n0 v U'.heap L ∧ FrameEnd U o U' L ({ frames := 1, cells := 1, slots := 3, locals := 18 } : Room).cells ({ frames := 1, cells := 1, slots := 3, locals := 18 } : Room).slots) := by
  refine MetFree.of_bodySF (plainFor_of_name pn_java_util_Arrays) hisR ?_
  intro p e s m args below meth c s₁ Bd hml0 hP hK
  obtain ⟨rfl, hZ, hh⟩ := hP
  have hx := Bd.exec
  have hby := Bd.bytes
  have hlk : meth.locks = false := BodyLoose.notSynchronized Bd
  have hml : c.maxLocals = 3 := hml0
  have hown : s.vm.findClass "java/util/Arrays" = some m.cls := findClass_of_methodNamed Bd.named
  have hnm := (name_of_methodNamed Bd.named Bd.method).1
  have X0 : Stand p l e ({ frames := 1, cells := 1, slots := 3, locals := 18 } : Room) s m #[(.ref aa), (.int (3 : Int32))] below meth c s₁ [] 0 0 := Stand.of_body Bd
  have e0 : s₁.heap = h0 := by rw [← hh, Bd.state]; rfl
  have N0 := Fr.nil n0
  suffices hgo : Go p e below s 1 3 (Q5_3 Z aa ka xa xb xc xd h0 n0) (s₁.setTop (mkF m 0 #[.val (.ref aa), .val (.int (3 : Int32)), .unset] [])) by
    obtain ⟨t, o, h1, h2⟩ := hgo; exact ⟨t, o, castTop (ef_rm5_3 m aa) h1, h2⟩
  show Go p e below s _ _ _ (s₁.setTop (mkF m 0 #[.val (.ref aa), .val (.int (3 : Int32)), .unset] []))
  refine Go.st (fun _ k' => XS.iloadN X0.here hx rfl (hb hby d5_0) rfl k') ?_
  show Go p e below s _ _ _ (s₁.setTop (mkF m 1 #[.val (.ref aa), .val (.int (3 : Int32)), .unset] [(.int (3 : Int32))]))
  refine Go.st (fun _ k' => XS.aloadN X0.here hx rfl (hb hby d5_1) rfl rfl k') ?_
  show Go p e below s _ _ _ (s₁.setTop (mkF m 2 #[.val (.ref aa), .val (.int (3 : Int32)), .unset] [(.ref aa), (.int (3 : Int32))]))
  obtain ⟨cl1, Ar1, qc1, Sz1, Nn1, Ha1, Gf1⟩ := id Va
  refine Go.st (fun _ k' => X0.arraylength hx (by rw [e0]; exact Ar1.1) (State.isArrayOf_alike hZ.alike Ar1.2.1) (g := (mkF m 2 #[.val (.ref aa), .val (.int (3 : Int32)), .unset] [(.ref aa), (.int (3 : Int32))])) rfl rfl (hb hby d5_2) _ k') ?_
  rw [len_of Sz1 Nn1]
  show Go p e below s _ _ _ (s₁.setTop (mkF m 3 #[.val (.ref aa), .val (.int (3 : Int32)), .unset] [(.int (256 : Int32)), (.int (3 : Int32))]))
  refine Go.st (fun _ k' => XS.icmpYes X0.here hx rfl (pc0 := 3) (pc' := 14) rfl (hb hby d5_3) rfl (XT.ii_ne_t (by decide)) (by decide) (by decide) k') ?_
  show Go p e below s _ _ _ (s₁.setTop (mkF m 14 #[.val (.ref aa), .val (.int (3 : Int32)), .unset] []))
  refine Go.st (fun _ k' => XS.iloadN X0.here hx rfl (hb hby d5_14) rfl k') ?_
  show Go p e below s _ _ _ (s₁.setTop (mkF m 15 #[.val (.ref aa), .val (.int (3 : Int32)), .unset] [(.int (3 : Int32))]))
  obtain ⟨T2, h2, k2, X2, e2, E2, A2, st2⟩ := newP X0 hx hZ (wdx hw 9 rfl) e0 (g := (mkF m 15 #[.val (.ref aa), .val (.int (3 : Int32)), .unset] [(.int (3 : Int32))])) rfl (hb hby d5_15) rfl (by decide) (cap := 3) (by decide) (by decide) (by decide) (by decide)
  obtain ⟨b2, g2⟩ : ∃ z, z = h0.size := ⟨_, rfl⟩
  rw [← g2] at A2 st2
  refine Go.st st2 ?_
  have g_b2 : n0 ≤ b2 := Nat.le_trans (own_le O0) (Nat.le_of_eq g2.symm)
  have z_b2 : h0.size ≤ b2 := Nat.le_of_eq g2.symm
  have ne3 : aa ≠ b2 := Nat.ne_of_lt (Nat.lt_of_lt_of_le Va.lt (Nat.le_of_eq g2.symm))
  have f4 : Arv Z h2 aa ka .long (256 : Int32) [(.long xa), (.long xb), (.long xc), (.long xd)] (.long (0 : Int64)) := Va.ext E2
  have O2 : Old Z n0 h2 := O0.ext E2
  have K2 : Keep h0 h2 [] := (Keep.refl h0 []).ext E2
  have f5 : Arv Z h2 b2 k2 .long (3 : Int32) [(.long (0 : Int64)), (.long (0 : Int64)), (.long (0 : Int64))] (.long (0 : Int64)) := (Arv.new A2 (by decide)).pad (pad_rep [] (.long (0 : Int64)) 3)
  show Go p e below s _ _ _ (T2.setTop (mkF m 17 #[.val (.ref aa), .val (.int (3 : Int32)), .unset] [(.ref b2)]))
  refine Go.st (fun _ k' => XS.astoreN X2.here hx rfl (hb hby d5_17) rfl rfl (l' := #[.val (.ref aa), .val (.int (3 : Int32)), .val (.ref b2)]) rfl k') ?_
  show Go p e below s _ _ _ (T2.setTop (mkF m 18 #[.val (.ref aa), .val (.int (3 : Int32)), .val (.ref b2)] []))
  refine Go.st (fun _ k' => XS.aloadN X2.here hx rfl (hb hby d5_18) rfl rfl k') ?_
  show Go p e below s _ _ _ (T2.setTop (mkF m 19 #[.val (.ref aa), .val (.int (3 : Int32)), .val (.ref b2)] [(.ref aa)]))
  refine Go.st (fun _ k' => XS.iconst X2.here hx rfl (hb hby d5_19) k') ?_
  show Go p e below s _ _ _ (T2.setTop (mkF m 20 #[.val (.ref aa), .val (.int (3 : Int32)), .val (.ref b2)] [(.int (0 : Int32)), (.ref aa)]))
  refine Go.st (fun _ k' => XS.aloadN X2.here hx rfl (hb hby d5_20) rfl rfl k') ?_
  show Go p e below s _ _ _ (T2.setTop (mkF m 21 #[.val (.ref aa), .val (.int (3 : Int32)), .val (.ref b2)] [(.ref b2), (.int (0 : Int32)), (.ref aa)]))
  refine Go.st (fun _ k' => XS.iconst X2.here hx rfl (hb hby d5_21) k') ?_
  show Go p e below s _ _ _ (T2.setTop (mkF m 22 #[.val (.ref aa), .val (.int (3 : Int32)), .val (.ref b2)] [(.int (0 : Int32)), (.ref b2), (.int (0 : Int32)), (.ref aa)]))
  refine Go.st (fun _ k' => XS.aloadN X2.here hx rfl (hb hby d5_22) rfl rfl k') ?_
  show Go p e below s _ _ _ (T2.setTop (mkF m 23 #[.val (.ref aa), .val (.int (3 : Int32)), .val (.ref b2)] [(.ref aa), (.int (0 : Int32)), (.ref b2), (.int (0 : Int32)), (.ref aa)]))
  obtain ⟨cl6, Ar6, qc6, Sz6, Nn6, Ha6, Gf6⟩ := id f4
  refine Go.st (fun _ k' => X2.arraylength hx (by rw [e2]; exact Ar6.1) (State.isArrayOf_alike hZ.alike Ar6.2.1) (g := (mkF m 23 #[.val (.ref aa), .val (.int (3 : Int32)), .val (.ref b2)] [(.ref aa), (.int (0 : Int32)), (.ref b2), (.int (0 : Int32)), (.ref aa)])) rfl rfl (hb hby d5_23) _ k') ?_
  rw [len_of Sz6 Nn6]
  show Go p e below s _ _ _ (T2.setTop (mkF m 24 #[.val (.ref aa), .val (.int (3 : Int32)), .val (.ref b2)] [(.int (256 : Int32)), (.int (0 : Int32)), (.ref b2), (.int (0 : Int32)), (.ref aa)]))
  refine Go.st (fun _ k' => XS.iloadN X2.here hx rfl (hb hby d5_24) rfl k') ?_
  show Go p e below s _ _ _ (T2.setTop (mkF m 25 #[.val (.ref aa), .val (.int (3 : Int32)), .val (.ref b2)] [(.int (3 : Int32)), (.int (256 : Int32)), (.int (0 : Int32)), (.ref b2), (.int (0 : Int32)), (.ref aa)]))
  obtain ⟨_, _, ⟨T7, L7, k7, n7⟩, -, X7, ⟨Lc7, hQ7, l7, y7, z7⟩, st7⟩ := Jvm.LawKit.callS X2 hx (y := (⟨"java/lang/Math", "min", "(II)I"⟩ : MethodName)) hown (mvT hZ (wdx hw 28 rfl)) (mvT hZ (wdx hw 29 rfl)) (mvT hZ (wdx hw 30 rfl)) (mvT hZ (wdx hw 31 rfl)) (by decide) (backOf (W := 4) (rm6 l Z a0 hw [] (256 : Int32) (3 : Int32) h2 n0 O2 ) hZ (wdx hw 31 rfl) (wdx hw 30 rfl) (by decide) (by decide)) (g := (mkF m 25 #[.val (.ref aa), .val (.int (3 : Int32)), .val (.ref b2)] [(.int (3 : Int32)), (.int (256 : Int32)), (.int (0 : Int32)), (.ref b2), (.int (0 : Int32)), (.ref aa)])) rfl (by rw [hml]; rfl) (argsL := [(.int (256 : Int32)), (.int (3 : Int32))]) (rest := [(.int (0 : Int32)), (.ref b2), (.int (0 : Int32)), (.ref aa)]) (lenOf pd__II_I rfl) rfl (by show 2 * 0 + _ ≤ _; exact Nat.le_of_eq rfl) (hb hby d5_25) (fun _ _ => ⟨rfl, e2, (by exact Nat.le_of_ble_eq_true rfl), (by exact Nat.le_of_ble_eq_true rfl)⟩)
  dsimp only [Pt.U, Pt.locs, Pt.cells, Pt.slots] at X7 l7 y7 z7 st7 hQ7
  subst l7 y7 z7
  obtain ⟨rfl, Nq7, eq7⟩ := hQ7
  have N7 := Fr.app N0 Nq7
  refine Go.st st7 ?_
  show Go p e below s _ _ _ (T7.setTop (mkF m 28 #[.val (.ref aa), .val (.int (3 : Int32)), .val (.ref b2)] [(.int (fmin (256 : Int32) (3 : Int32))), (.int (0 : Int32)), (.ref b2), (.int (0 : Int32)), (.ref aa)]))
  show Go p e below s _ _ _ (T7.setTop (mkF m 28 #[.val (.ref aa), .val (.int (3 : Int32)), .val (.ref b2)] [(.int (3 : Int32)), (.int (0 : Int32)), (.ref b2), (.int (0 : Int32)), (.ref aa)]))
  obtain ⟨T8, h8, L8, X8, e8, N8, Kq8, V8, st8⟩ := cpA X7 hx hZ hown (wdx hw 32 rfl) (wdx hw 35 rfl) (wdx hw 33 rfl) (wdx hw 34 rfl) eq7 f4 f5 (Or.inl ⟨rfl, rfl⟩) (sp := (0 : Int32)) (dp := (0 : Int32)) (nn := (3 : Int32)) (by decide) (by decide) (by decide) (by decide) (by decide) (us := [(.long xa), (.long xb), (.long xc)]) rfl (by decide) N7 g_b2 (g := (mkF m 28 #[.val (.ref aa), .val (.int (3 : Int32)), .val (.ref b2)] [(.int (3 : Int32)), (.int (0 : Int32)), (.ref b2), (.int (0 : Int32)), (.ref aa)])) rfl (by rw [hml]; rfl) rfl (hb hby d5_28) (by decide) (W := 0) (by show 2 * 0 + _ ≤ _; exact Nat.le_of_eq rfl) (by decide)
  refine Go.st st8 ?_
  have f9 : Arv Z h8 aa ka .long (256 : Int32) [(.long xa), (.long xb), (.long xc), (.long xd)] (.long (0 : Int64)) := f4.keep Kq8 (ninS ne3 nin0)
  have O8 : Old Z n0 h8 := O2.keep Kq8 (allS g_b2 all0)
  have K8 : Keep h0 h8 [] := K2.trans Kq8 (allS (Or.inr z_b2) all0)
  have f10 : Arv Z h8 b2 k2 .long (3 : Int32) [(.long xa), (.long xb), (.long xc)] (.long (0 : Int64)) := V8
  show Go p e below s _ _ _ (T8.setTop (mkF m 31 #[.val (.ref aa), .val (.int (3 : Int32)), .val (.ref b2)] []))
  refine Go.st (fun _ k' => XS.aloadN X8.here hx rfl (hb hby d5_31) rfl rfl k') ?_
  show Go p e below s _ _ _ (T8.setTop (mkF m 32 #[.val (.ref aa), .val (.int (3 : Int32)), .val (.ref b2)] [(.ref b2)]))
  refine Go.ret X8 hx hlk (t := (.array .long)) Bd.returns rfl (Or.inr (Or.inr (Or.inr (Or.inr ⟨rfl, rfl, rfl⟩)))) (hb hby d5_32) (by decide) (by decide) e8 ?_
  exact ⟨b2, k2, rfl, N8, K8, f10, z_b2⟩
theorem ef_rm4_3 (m : MethodId) (ob : Addr) : entryFrame m #[(.ref ob)] 1 = mkF m 0 #[.val (.ref ob)] [] := by first | (simp [entryFrame, mkF, argsToLocals, Value.category]; done) | rfl
def Q4_3 (Z : State) (ob : Addr) (na : Addr) (ka : ClassId) (xa : Int64) (xb : Int64) (xc : Int64) (xd : Int64) (h0 : Heap) (n0 : Nat) (v : Option Value) (h : Heap) (L : List Loc) : Prop := ∃ (rr : Addr) (kr : ClassId), v = some (.ref rr) ∧ Fr n0 L ∧ Keep h0 h [] ∧ Arv Z h rr kr .long (3 : Int32) [(.long xa), (.long xb), (.long xc)] (.long (0 : Int64)) ∧ h0.size ≤ rr
set_option maxRecDepth 65536 in
set_option maxHeartbeats 40000000 in
theorem rm4_3 (l : Launch) (Z : State) (a0 : Array Value) (hw : ∀ d ∈ tables_1, d.before a0 Z = true) (ws : List Jvm.Cond) (ob : Addr) (na : Addr) (ka : ClassId) (xa : Int64) (xb : Int64) (xc : Int64) (xd : Int64) (h0 : Heap) (n0 : Nat) (O0 : Old Z n0 h0) (Fa : Fld Z h0 ob "com/example/spillway/spillway/runtime/Latencies" "nanos" "[J" (.ref na)) (Fb : Fld Z h0 ob "com/example/spillway/spillway/runtime/Latencies" "count" "I" (.int (3 : Int32))) (Va : Arv Z h0 na ka .long (256 : Int32) [(.long xa), (.long xb), (.long xc), (.long xd)] (.long (0 : Int64))) :
    MetFree l (⟨"com/example/spillway/spillway/runtime/Latencies", "toArray", "()[J"⟩ : MethodName) (head1 (Jvm.Cond.code (⟨"com/example/spillway/spillway/runtime/Latencies", "toArray", "()[J"⟩ : MethodName) prog_18_method_3_code 1 (some (.array .long)) :: ws) ({ frames := 2, cells := 1, slots := 3, locals := 32 } : Room)) (fun ay U => ay = #[(.ref ob)] ∧ Z.Warmed39 U.vm ∧ U.heap = h0) (fun _ _ _ _ _ => True) (fun _ U o U' => ∃ v L, o = .returned v ∧ Q4_3 Z ob na ka xa xb xc xd h0 n0 v U'.heap L ∧ FrameEnd U o U' L ({ frames := 2, cells := 1, slots := 3, locals := 32 } : Room).cells ({ frames := 2, cells := 1, slots := 3, locals := 32 } : Room).slots) := by
  refine MetFree.of_bodySF (plainFor_of_name pn_com_example_spillway_spillway_runtime_Latencies) hisR ?_
  intro p e s m args below meth c s₁ Bd hml0 hP hK
  obtain ⟨rfl, hZ, hh⟩ := hP
  have hx := Bd.exec
  have hby := Bd.bytes
  have hlk : meth.locks = false := BodyLoose.notSynchronized Bd
  have hml : c.maxLocals = 1 := hml0
  have hown : s.vm.findClass "com/example/spillway/spillway/runtime/Latencies" = some m.cls := findClass_of_methodNamed Bd.named
  have hnm := (name_of_methodNamed Bd.named Bd.method).1
  have X0 : Stand p l e ({ frames := 2, cells := 1, slots := 3, locals := 32 } : Room) s m #[(.ref ob)] below meth c s₁ [] 0 0 := Stand.of_body Bd
  have e0 : s₁.heap = h0 := by rw [← hh, Bd.state]; rfl
  have N0 := Fr.nil n0
  suffices hgo : Go p e below s 1 3 (Q4_3 Z ob na ka xa xb xc xd h0 n0) (s₁.setTop (mkF m 0 #[.val (.ref ob)] [])) by
    obtain ⟨t, o, h1, h2⟩ := hgo; exact ⟨t, o, castTop (ef_rm4_3 m ob) h1, h2⟩
  show Go p e below s _ _ _ (s₁.setTop (mkF m 0 #[.val (.ref ob)] []))
  refine Go.st (fun _ k' => XS.aloadN X0.here hx rfl (hb hby d4_0) rfl rfl k') ?_
  show Go p e below s _ _ _ (s₁.setTop (mkF m 1 #[.val (.ref ob)] [(.ref ob)]))
  obtain ⟨T1, X1, e1, st1⟩ := getF X0 hx hZ hown (host := "") (Or.inl (wdx hw 10 rfl)) Via.refl e0 Fa (g := (mkF m 1 #[.val (.ref ob)] [(.ref ob)])) rfl rfl (hb hby d4_1)
  refine Go.st st1 ?_
  show Go p e below s _ _ _ (T1.setTop (mkF m 4 #[.val (.ref ob)] [(.ref na)]))
  refine Go.st (fun _ k' => XS.aloadN X1.here hx rfl (hb hby d4_4) rfl rfl k') ?_
  show Go p e below s _ _ _ (T1.setTop (mkF m 5 #[.val (.ref ob)] [(.ref ob), (.ref na)]))
  obtain ⟨T2, X2, e2, st2⟩ := getF X1 hx hZ hown (host := "") (Or.inl (wdx hw 17 rfl)) Via.refl e1 Fb (g := (mkF m 5 #[.val (.ref ob)] [(.ref ob), (.ref na)])) rfl rfl (hb hby d4_5)
  refine Go.st st2 ?_
  show Go p e below s _ _ _ (T2.setTop (mkF m 8 #[.val (.ref ob)] [(.int (3 : Int32)), (.ref na)]))
  obtain ⟨_, _, ⟨T3, L3, k3, n3⟩, -, X3, ⟨Lc3, hQ3, l3, y3, z3⟩, st3⟩ := Jvm.LawKit.callS X2 hx (y := (⟨"java/util/Arrays", "copyOf", "([JI)[J"⟩ : MethodName)) hown (mvT hZ (wdx hw 24 rfl)) (mvT hZ (wdx hw 25 rfl)) (mvT hZ (wdx hw 26 rfl)) (mvT hZ (wdx hw 27 rfl)) (by decide) (backOf (W := 0) (rm5_3 l Z a0 hw [] na ka xa xb xc xd h0 n0 O0 Va) hZ (wdx hw 27 rfl) (wdx hw 26 rfl) (by decide) (by decide)) (g := (mkF m 8 #[.val (.ref ob)] [(.int (3 : Int32)), (.ref na)])) rfl (by rw [hml]; rfl) (argsL := [(.ref na), (.int (3 : Int32))]) (rest := []) (lenOf pd___JI__J rfl) rfl (by show 2 * 0 + _ ≤ _; exact Nat.le_of_eq rfl) (hb hby d4_8) (fun _ _ => ⟨rfl, e2, (by exact Nat.le_of_ble_eq_true rfl), (by exact Nat.le_of_ble_eq_true rfl)⟩)
  dsimp only [Pt.U, Pt.locs, Pt.cells, Pt.slots] at X3 l3 y3 z3 st3 hQ3
  subst l3 y3 z3
  obtain ⟨rr_3, kr_3, rfl, Nq3, Kq3, f4, szr_3⟩ := hQ3
  have N3 := Fr.app N0 Nq3
  refine Go.st st3 ?_
  have f5 : Fld Z T3.heap ob "com/example/spillway/spillway/runtime/Latencies" "nanos" "[J" (.ref na) := Fa.keep Kq3 nin0
  have f6 : Fld Z T3.heap ob "com/example/spillway/spillway/runtime/Latencies" "count" "I" (.int (3 : Int32)) := Fb.keep Kq3 nin0
  have f7 : Arv Z T3.heap na ka .long (256 : Int32) [(.long xa), (.long xb), (.long xc), (.long xd)] (.long (0 : Int64)) := Va.keep Kq3 nin0
  have O3 : Old Z n0 T3.heap := O0.keep Kq3 all0
  have K3 : Keep h0 T3.heap [] := (Keep.refl h0 []).trans Kq3 all0
  have g_rr_3 : n0 ≤ rr_3 := Nat.le_trans (own_le O0) szr_3
  have z_rr_3 : h0.size ≤ rr_3 := szr_3
  have ne8 : ob ≠ rr_3 := Nat.ne_of_lt (Nat.lt_of_lt_of_le Fa.lt szr_3)
  have ne9 : na ≠ rr_3 := Nat.ne_of_lt (Nat.lt_of_lt_of_le Va.lt szr_3)
  show Go p e below s _ _ _ (T3.setTop (mkF m 11 #[.val (.ref ob)] [(.ref rr_3)]))
  refine Go.ret X3 hx hlk (t := (.array .long)) Bd.returns rfl (Or.inr (Or.inr (Or.inr (Or.inr ⟨rfl, rfl, rfl⟩)))) (hb hby d4_11) (by decide) (by decide) rfl ?_
  exact ⟨rr_3, kr_3, rfl, N3, K3, f4, z_rr_3⟩
theorem ef_rm5_4 (m : MethodId) (aa : Addr) : entryFrame m #[(.ref aa), (.int (4 : Int32))] 3 = mkF m 0 #[.val (.ref aa), .val (.int (4 : Int32)), .unset] [] := by first | (simp [entryFrame, mkF, argsToLocals, Value.category]; done) | rfl
def Q5_4 (Z : State) (aa : Addr) (ka : ClassId) (xa : Int64) (xb : Int64) (xc : Int64) (xd : Int64) (h0 : Heap) (n0 : Nat) (v : Option Value) (h : Heap) (L : List Loc) : Prop := ∃ (rr : Addr) (kr : ClassId), v = some (.ref rr) ∧ Fr n0 L ∧ Keep h0 h [] ∧ Arv Z h rr kr .long (4 : Int32) [(.long xa), (.long xb), (.long xc), (.long xd)] (.long (0 : Int64)) ∧ h0.size ≤ rr
set_option maxRecDepth 65536 in
set_option maxHeartbeats 40000000 in
theorem rm5_4 (l : Launch) (Z : State) (a0 : Array Value) (hw : ∀ d ∈ tables_1, d.before a0 Z = true) (ws : List Jvm.Cond) (aa : Addr) (ka : ClassId) (xa : Int64) (xb : Int64) (xc : Int64) (xd : Int64) (h0 : Heap) (n0 : Nat) (O0 : Old Z n0 h0) (Va : Arv Z h0 aa ka .long (256 : Int32) [(.long xa), (.long xb), (.long xc), (.long xd)] (.long (0 : Int64))) :
    MetFree l (⟨"java/util/Arrays", "copyOf", "([JI)[J"⟩ : MethodName) (head1 (Jvm.Cond.code (⟨"java/util/Arrays", "copyOf", "([JI)[J"⟩ : MethodName) jdk_65_method_124_code 3 (some (.array .long)) :: ws) ({ frames := 1, cells := 1, slots := 4, locals := 18 } : Room)) (fun ay U => ay = #[(.ref aa), (.int (4 : Int32))] ∧ Z.Warmed39 U.vm ∧ U.heap = h0) (fun _ _ _ _ _ => True) (fun _ U o U' => ∃ v L, o = .returned v ∧ Q5_4 Z aa ka xa xb xc xd h0 n0 v U'.heap L ∧ FrameEnd U o U' L ({ frames := 1, cells := 1, slots := 4, locals := 18 } : Room).cells ({ frames := 1, cells := 1, slots := 4, locals := 18 } : Room).slots) := by
  refine MetFree.of_bodySF (plainFor_of_name pn_java_util_Arrays) hisR ?_
  intro p e s m args below meth c s₁ Bd hml0 hP hK
  obtain ⟨rfl, hZ, hh⟩ := hP
  have hx := Bd.exec
  have hby := Bd.bytes
  have hlk : meth.locks = false := BodyLoose.notSynchronized Bd
  have hml : c.maxLocals = 3 := hml0
  have hown : s.vm.findClass "java/util/Arrays" = some m.cls := findClass_of_methodNamed Bd.named
  have hnm := (name_of_methodNamed Bd.named Bd.method).1
  have X0 : Stand p l e ({ frames := 1, cells := 1, slots := 4, locals := 18 } : Room) s m #[(.ref aa), (.int (4 : Int32))] below meth c s₁ [] 0 0 := Stand.of_body Bd
  have e0 : s₁.heap = h0 := by rw [← hh, Bd.state]; rfl
  have N0 := Fr.nil n0
  suffices hgo : Go p e below s 1 4 (Q5_4 Z aa ka xa xb xc xd h0 n0) (s₁.setTop (mkF m 0 #[.val (.ref aa), .val (.int (4 : Int32)), .unset] [])) by
    obtain ⟨t, o, h1, h2⟩ := hgo; exact ⟨t, o, castTop (ef_rm5_4 m aa) h1, h2⟩
  show Go p e below s _ _ _ (s₁.setTop (mkF m 0 #[.val (.ref aa), .val (.int (4 : Int32)), .unset] []))
  refine Go.st (fun _ k' => XS.iloadN X0.here hx rfl (hb hby d5_0) rfl k') ?_
  show Go p e below s _ _ _ (s₁.setTop (mkF m 1 #[.val (.ref aa), .val (.int (4 : Int32)), .unset] [(.int (4 : Int32))]))
  refine Go.st (fun _ k' => XS.aloadN X0.here hx rfl (hb hby d5_1) rfl rfl k') ?_
  show Go p e below s _ _ _ (s₁.setTop (mkF m 2 #[.val (.ref aa), .val (.int (4 : Int32)), .unset] [(.ref aa), (.int (4 : Int32))]))
  obtain ⟨cl1, Ar1, qc1, Sz1, Nn1, Ha1, Gf1⟩ := id Va
  refine Go.st (fun _ k' => X0.arraylength hx (by rw [e0]; exact Ar1.1) (State.isArrayOf_alike hZ.alike Ar1.2.1) (g := (mkF m 2 #[.val (.ref aa), .val (.int (4 : Int32)), .unset] [(.ref aa), (.int (4 : Int32))])) rfl rfl (hb hby d5_2) _ k') ?_
  rw [len_of Sz1 Nn1]
  show Go p e below s _ _ _ (s₁.setTop (mkF m 3 #[.val (.ref aa), .val (.int (4 : Int32)), .unset] [(.int (256 : Int32)), (.int (4 : Int32))]))
  refine Go.st (fun _ k' => XS.icmpYes X0.here hx rfl (pc0 := 3) (pc' := 14) rfl (hb hby d5_3) rfl (XT.ii_ne_t (by decide)) (by decide) (by decide) k') ?_
  show Go p e below s _ _ _ (s₁.setTop (mkF m 14 #[.val (.ref aa), .val (.int (4 : Int32)), .unset] []))
  refine Go.st (fun _ k' => XS.iloadN X0.here hx rfl (hb hby d5_14) rfl k') ?_
  show Go p e below s _ _ _ (s₁.setTop (mkF m 15 #[.val (.ref aa), .val (.int (4 : Int32)), .unset] [(.int (4 : Int32))]))
  obtain ⟨T2, h2, k2, X2, e2, E2, A2, st2⟩ := newP X0 hx hZ (wdx hw 9 rfl) e0 (g := (mkF m 15 #[.val (.ref aa), .val (.int (4 : Int32)), .unset] [(.int (4 : Int32))])) rfl (hb hby d5_15) rfl (by decide) (cap := 4) (by decide) (by decide) (by decide) (by decide)
  obtain ⟨b2, g2⟩ : ∃ z, z = h0.size := ⟨_, rfl⟩
  rw [← g2] at A2 st2
  refine Go.st st2 ?_
  have g_b2 : n0 ≤ b2 := Nat.le_trans (own_le O0) (Nat.le_of_eq g2.symm)
  have z_b2 : h0.size ≤ b2 := Nat.le_of_eq g2.symm
  have ne3 : aa ≠ b2 := Nat.ne_of_lt (Nat.lt_of_lt_of_le Va.lt (Nat.le_of_eq g2.symm))
  have f4 : Arv Z h2 aa ka .long (256 : Int32) [(.long xa), (.long xb), (.long xc), (.long xd)] (.long (0 : Int64)) := Va.ext E2
  have O2 : Old Z n0 h2 := O0.ext E2
  have K2 : Keep h0 h2 [] := (Keep.refl h0 []).ext E2
  have f5 : Arv Z h2 b2 k2 .long (4 : Int32) [(.long (0 : Int64)), (.long (0 : Int64)), (.long (0 : Int64)), (.long (0 : Int64))] (.long (0 : Int64)) := (Arv.new A2 (by decide)).pad (pad_rep [] (.long (0 : Int64)) 4)
  show Go p e below s _ _ _ (T2.setTop (mkF m 17 #[.val (.ref aa), .val (.int (4 : Int32)), .unset] [(.ref b2)]))
  refine Go.st (fun _ k' => XS.astoreN X2.here hx rfl (hb hby d5_17) rfl rfl (l' := #[.val (.ref aa), .val (.int (4 : Int32)), .val (.ref b2)]) rfl k') ?_
  show Go p e below s _ _ _ (T2.setTop (mkF m 18 #[.val (.ref aa), .val (.int (4 : Int32)), .val (.ref b2)] []))
  refine Go.st (fun _ k' => XS.aloadN X2.here hx rfl (hb hby d5_18) rfl rfl k') ?_
  show Go p e below s _ _ _ (T2.setTop (mkF m 19 #[.val (.ref aa), .val (.int (4 : Int32)), .val (.ref b2)] [(.ref aa)]))
  refine Go.st (fun _ k' => XS.iconst X2.here hx rfl (hb hby d5_19) k') ?_
  show Go p e below s _ _ _ (T2.setTop (mkF m 20 #[.val (.ref aa), .val (.int (4 : Int32)), .val (.ref b2)] [(.int (0 : Int32)), (.ref aa)]))
  refine Go.st (fun _ k' => XS.aloadN X2.here hx rfl (hb hby d5_20) rfl rfl k') ?_
  show Go p e below s _ _ _ (T2.setTop (mkF m 21 #[.val (.ref aa), .val (.int (4 : Int32)), .val (.ref b2)] [(.ref b2), (.int (0 : Int32)), (.ref aa)]))
  refine Go.st (fun _ k' => XS.iconst X2.here hx rfl (hb hby d5_21) k') ?_
  show Go p e below s _ _ _ (T2.setTop (mkF m 22 #[.val (.ref aa), .val (.int (4 : Int32)), .val (.ref b2)] [(.int (0 : Int32)), (.ref b2), (.int (0 : Int32)), (.ref aa)]))
  refine Go.st (fun _ k' => XS.aloadN X2.here hx rfl (hb hby d5_22) rfl rfl k') ?_
  show Go p e below s _ _ _ (T2.setTop (mkF m 23 #[.val (.ref aa), .val (.int (4 : Int32)), .val (.ref b2)] [(.ref aa), (.int (0 : Int32)), (.ref b2), (.int (0 : Int32)), (.ref aa)]))
  obtain ⟨cl6, Ar6, qc6, Sz6, Nn6, Ha6, Gf6⟩ := id f4
  refine Go.st (fun _ k' => X2.arraylength hx (by rw [e2]; exact Ar6.1) (State.isArrayOf_alike hZ.alike Ar6.2.1) (g := (mkF m 23 #[.val (.ref aa), .val (.int (4 : Int32)), .val (.ref b2)] [(.ref aa), (.int (0 : Int32)), (.ref b2), (.int (0 : Int32)), (.ref aa)])) rfl rfl (hb hby d5_23) _ k') ?_
  rw [len_of Sz6 Nn6]
  show Go p e below s _ _ _ (T2.setTop (mkF m 24 #[.val (.ref aa), .val (.int (4 : Int32)), .val (.ref b2)] [(.int (256 : Int32)), (.int (0 : Int32)), (.ref b2), (.int (0 : Int32)), (.ref aa)]))
  refine Go.st (fun _ k' => XS.iloadN X2.here hx rfl (hb hby d5_24) rfl k') ?_
  show Go p e below s _ _ _ (T2.setTop (mkF m 25 #[.val (.ref aa), .val (.int (4 : Int32)), .val (.ref b2)] [(.int (4 : Int32)), (.int (256 : Int32)), (.int (0 : Int32)), (.ref b2), (.int (0 : Int32)), (.ref aa)]))
  obtain ⟨_, _, ⟨T7, L7, k7, n7⟩, -, X7, ⟨Lc7, hQ7, l7, y7, z7⟩, st7⟩ := Jvm.LawKit.callS X2 hx (y := (⟨"java/lang/Math", "min", "(II)I"⟩ : MethodName)) hown (mvT hZ (wdx hw 28 rfl)) (mvT hZ (wdx hw 29 rfl)) (mvT hZ (wdx hw 30 rfl)) (mvT hZ (wdx hw 31 rfl)) (by decide) (backOf (W := 4) (rm6 l Z a0 hw [] (256 : Int32) (4 : Int32) h2 n0 O2 ) hZ (wdx hw 31 rfl) (wdx hw 30 rfl) (by decide) (by decide)) (g := (mkF m 25 #[.val (.ref aa), .val (.int (4 : Int32)), .val (.ref b2)] [(.int (4 : Int32)), (.int (256 : Int32)), (.int (0 : Int32)), (.ref b2), (.int (0 : Int32)), (.ref aa)])) rfl (by rw [hml]; rfl) (argsL := [(.int (256 : Int32)), (.int (4 : Int32))]) (rest := [(.int (0 : Int32)), (.ref b2), (.int (0 : Int32)), (.ref aa)]) (lenOf pd__II_I rfl) rfl (by show 2 * 0 + _ ≤ _; exact Nat.le_of_eq rfl) (hb hby d5_25) (fun _ _ => ⟨rfl, e2, (by exact Nat.le_of_ble_eq_true rfl), (by exact Nat.le_of_ble_eq_true rfl)⟩)
  dsimp only [Pt.U, Pt.locs, Pt.cells, Pt.slots] at X7 l7 y7 z7 st7 hQ7
  subst l7 y7 z7
  obtain ⟨rfl, Nq7, eq7⟩ := hQ7
  have N7 := Fr.app N0 Nq7
  refine Go.st st7 ?_
  show Go p e below s _ _ _ (T7.setTop (mkF m 28 #[.val (.ref aa), .val (.int (4 : Int32)), .val (.ref b2)] [(.int (fmin (256 : Int32) (4 : Int32))), (.int (0 : Int32)), (.ref b2), (.int (0 : Int32)), (.ref aa)]))
  show Go p e below s _ _ _ (T7.setTop (mkF m 28 #[.val (.ref aa), .val (.int (4 : Int32)), .val (.ref b2)] [(.int (4 : Int32)), (.int (0 : Int32)), (.ref b2), (.int (0 : Int32)), (.ref aa)]))
  obtain ⟨T8, h8, L8, X8, e8, N8, Kq8, V8, st8⟩ := cpA X7 hx hZ hown (wdx hw 32 rfl) (wdx hw 35 rfl) (wdx hw 33 rfl) (wdx hw 34 rfl) eq7 f4 f5 (Or.inl ⟨rfl, rfl⟩) (sp := (0 : Int32)) (dp := (0 : Int32)) (nn := (4 : Int32)) (by decide) (by decide) (by decide) (by decide) (by decide) (us := [(.long xa), (.long xb), (.long xc), (.long xd)]) rfl (by decide) N7 g_b2 (g := (mkF m 28 #[.val (.ref aa), .val (.int (4 : Int32)), .val (.ref b2)] [(.int (4 : Int32)), (.int (0 : Int32)), (.ref b2), (.int (0 : Int32)), (.ref aa)])) rfl (by rw [hml]; rfl) rfl (hb hby d5_28) (by decide) (W := 0) (by show 2 * 0 + _ ≤ _; exact Nat.le_of_eq rfl) (by decide)
  refine Go.st st8 ?_
  have f9 : Arv Z h8 aa ka .long (256 : Int32) [(.long xa), (.long xb), (.long xc), (.long xd)] (.long (0 : Int64)) := f4.keep Kq8 (ninS ne3 nin0)
  have O8 : Old Z n0 h8 := O2.keep Kq8 (allS g_b2 all0)
  have K8 : Keep h0 h8 [] := K2.trans Kq8 (allS (Or.inr z_b2) all0)
  have f10 : Arv Z h8 b2 k2 .long (4 : Int32) [(.long xa), (.long xb), (.long xc), (.long xd)] (.long (0 : Int64)) := V8
  show Go p e below s _ _ _ (T8.setTop (mkF m 31 #[.val (.ref aa), .val (.int (4 : Int32)), .val (.ref b2)] []))
  refine Go.st (fun _ k' => XS.aloadN X8.here hx rfl (hb hby d5_31) rfl rfl k') ?_
  show Go p e below s _ _ _ (T8.setTop (mkF m 32 #[.val (.ref aa), .val (.int (4 : Int32)), .val (.ref b2)] [(.ref b2)]))
  refine Go.ret X8 hx hlk (t := (.array .long)) Bd.returns rfl (Or.inr (Or.inr (Or.inr (Or.inr ⟨rfl, rfl, rfl⟩)))) (hb hby d5_32) (by decide) (by decide) e8 ?_
  exact ⟨b2, k2, rfl, N8, K8, f10, z_b2⟩
theorem ef_rm4_4 (m : MethodId) (ob : Addr) : entryFrame m #[(.ref ob)] 1 = mkF m 0 #[.val (.ref ob)] [] := by first | (simp [entryFrame, mkF, argsToLocals, Value.category]; done) | rfl
def Q4_4 (Z : State) (ob : Addr) (na : Addr) (ka : ClassId) (xa : Int64) (xb : Int64) (xc : Int64) (xd : Int64) (h0 : Heap) (n0 : Nat) (v : Option Value) (h : Heap) (L : List Loc) : Prop := ∃ (rr : Addr) (kr : ClassId), v = some (.ref rr) ∧ Fr n0 L ∧ Keep h0 h [] ∧ Arv Z h rr kr .long (4 : Int32) [(.long xa), (.long xb), (.long xc), (.long xd)] (.long (0 : Int64)) ∧ h0.size ≤ rr
set_option maxRecDepth 65536 in
set_option maxHeartbeats 40000000 in
theorem rm4_4 (l : Launch) (Z : State) (a0 : Array Value) (hw : ∀ d ∈ tables_1, d.before a0 Z = true) (ws : List Jvm.Cond) (ob : Addr) (na : Addr) (ka : ClassId) (xa : Int64) (xb : Int64) (xc : Int64) (xd : Int64) (h0 : Heap) (n0 : Nat) (O0 : Old Z n0 h0) (Fa : Fld Z h0 ob "com/example/spillway/spillway/runtime/Latencies" "nanos" "[J" (.ref na)) (Fb : Fld Z h0 ob "com/example/spillway/spillway/runtime/Latencies" "count" "I" (.int (4 : Int32))) (Va : Arv Z h0 na ka .long (256 : Int32) [(.long xa), (.long xb), (.long xc), (.long xd)] (.long (0 : Int64))) :
    MetFree l (⟨"com/example/spillway/spillway/runtime/Latencies", "toArray", "()[J"⟩ : MethodName) (head1 (Jvm.Cond.code (⟨"com/example/spillway/spillway/runtime/Latencies", "toArray", "()[J"⟩ : MethodName) prog_18_method_3_code 1 (some (.array .long)) :: ws) ({ frames := 2, cells := 1, slots := 4, locals := 32 } : Room)) (fun ay U => ay = #[(.ref ob)] ∧ Z.Warmed39 U.vm ∧ U.heap = h0) (fun _ _ _ _ _ => True) (fun _ U o U' => ∃ v L, o = .returned v ∧ Q4_4 Z ob na ka xa xb xc xd h0 n0 v U'.heap L ∧ FrameEnd U o U' L ({ frames := 2, cells := 1, slots := 4, locals := 32 } : Room).cells ({ frames := 2, cells := 1, slots := 4, locals := 32 } : Room).slots) := by
  refine MetFree.of_bodySF (plainFor_of_name pn_com_example_spillway_spillway_runtime_Latencies) hisR ?_
  intro p e s m args below meth c s₁ Bd hml0 hP hK
  obtain ⟨rfl, hZ, hh⟩ := hP
  have hx := Bd.exec
  have hby := Bd.bytes
  have hlk : meth.locks = false := BodyLoose.notSynchronized Bd
  have hml : c.maxLocals = 1 := hml0
  have hown : s.vm.findClass "com/example/spillway/spillway/runtime/Latencies" = some m.cls := findClass_of_methodNamed Bd.named
  have hnm := (name_of_methodNamed Bd.named Bd.method).1
  have X0 : Stand p l e ({ frames := 2, cells := 1, slots := 4, locals := 32 } : Room) s m #[(.ref ob)] below meth c s₁ [] 0 0 := Stand.of_body Bd
  have e0 : s₁.heap = h0 := by rw [← hh, Bd.state]; rfl
  have N0 := Fr.nil n0
  suffices hgo : Go p e below s 1 4 (Q4_4 Z ob na ka xa xb xc xd h0 n0) (s₁.setTop (mkF m 0 #[.val (.ref ob)] [])) by
    obtain ⟨t, o, h1, h2⟩ := hgo; exact ⟨t, o, castTop (ef_rm4_4 m ob) h1, h2⟩
  show Go p e below s _ _ _ (s₁.setTop (mkF m 0 #[.val (.ref ob)] []))
  refine Go.st (fun _ k' => XS.aloadN X0.here hx rfl (hb hby d4_0) rfl rfl k') ?_
  show Go p e below s _ _ _ (s₁.setTop (mkF m 1 #[.val (.ref ob)] [(.ref ob)]))
  obtain ⟨T1, X1, e1, st1⟩ := getF X0 hx hZ hown (host := "") (Or.inl (wdx hw 10 rfl)) Via.refl e0 Fa (g := (mkF m 1 #[.val (.ref ob)] [(.ref ob)])) rfl rfl (hb hby d4_1)
  refine Go.st st1 ?_
  show Go p e below s _ _ _ (T1.setTop (mkF m 4 #[.val (.ref ob)] [(.ref na)]))
  refine Go.st (fun _ k' => XS.aloadN X1.here hx rfl (hb hby d4_4) rfl rfl k') ?_
  show Go p e below s _ _ _ (T1.setTop (mkF m 5 #[.val (.ref ob)] [(.ref ob), (.ref na)]))
  obtain ⟨T2, X2, e2, st2⟩ := getF X1 hx hZ hown (host := "") (Or.inl (wdx hw 17 rfl)) Via.refl e1 Fb (g := (mkF m 5 #[.val (.ref ob)] [(.ref ob), (.ref na)])) rfl rfl (hb hby d4_5)
  refine Go.st st2 ?_
  show Go p e below s _ _ _ (T2.setTop (mkF m 8 #[.val (.ref ob)] [(.int (4 : Int32)), (.ref na)]))
  obtain ⟨_, _, ⟨T3, L3, k3, n3⟩, -, X3, ⟨Lc3, hQ3, l3, y3, z3⟩, st3⟩ := Jvm.LawKit.callS X2 hx (y := (⟨"java/util/Arrays", "copyOf", "([JI)[J"⟩ : MethodName)) hown (mvT hZ (wdx hw 24 rfl)) (mvT hZ (wdx hw 25 rfl)) (mvT hZ (wdx hw 26 rfl)) (mvT hZ (wdx hw 27 rfl)) (by decide) (backOf (W := 0) (rm5_4 l Z a0 hw [] na ka xa xb xc xd h0 n0 O0 Va) hZ (wdx hw 27 rfl) (wdx hw 26 rfl) (by decide) (by decide)) (g := (mkF m 8 #[.val (.ref ob)] [(.int (4 : Int32)), (.ref na)])) rfl (by rw [hml]; rfl) (argsL := [(.ref na), (.int (4 : Int32))]) (rest := []) (lenOf pd___JI__J rfl) rfl (by show 2 * 0 + _ ≤ _; exact Nat.le_of_eq rfl) (hb hby d4_8) (fun _ _ => ⟨rfl, e2, (by exact Nat.le_of_ble_eq_true rfl), (by exact Nat.le_of_ble_eq_true rfl)⟩)
  dsimp only [Pt.U, Pt.locs, Pt.cells, Pt.slots] at X3 l3 y3 z3 st3 hQ3
  subst l3 y3 z3
  obtain ⟨rr_3, kr_3, rfl, Nq3, Kq3, f4, szr_3⟩ := hQ3
  have N3 := Fr.app N0 Nq3
  refine Go.st st3 ?_
  have f5 : Fld Z T3.heap ob "com/example/spillway/spillway/runtime/Latencies" "nanos" "[J" (.ref na) := Fa.keep Kq3 nin0
  have f6 : Fld Z T3.heap ob "com/example/spillway/spillway/runtime/Latencies" "count" "I" (.int (4 : Int32)) := Fb.keep Kq3 nin0
  have f7 : Arv Z T3.heap na ka .long (256 : Int32) [(.long xa), (.long xb), (.long xc), (.long xd)] (.long (0 : Int64)) := Va.keep Kq3 nin0
  have O3 : Old Z n0 T3.heap := O0.keep Kq3 all0
  have K3 : Keep h0 T3.heap [] := (Keep.refl h0 []).trans Kq3 all0
  have g_rr_3 : n0 ≤ rr_3 := Nat.le_trans (own_le O0) szr_3
  have z_rr_3 : h0.size ≤ rr_3 := szr_3
  have ne8 : ob ≠ rr_3 := Nat.ne_of_lt (Nat.lt_of_lt_of_le Fa.lt szr_3)
  have ne9 : na ≠ rr_3 := Nat.ne_of_lt (Nat.lt_of_lt_of_le Va.lt szr_3)
  show Go p e below s _ _ _ (T3.setTop (mkF m 11 #[.val (.ref ob)] [(.ref rr_3)]))
  refine Go.ret X3 hx hlk (t := (.array .long)) Bd.returns rfl (Or.inr (Or.inr (Or.inr (Or.inr ⟨rfl, rfl, rfl⟩)))) (hb hby d4_11) (by decide) (by decide) rfl ?_
  exact ⟨rr_3, kr_3, rfl, N3, K3, f4, z_rr_3⟩
theorem d3_0 : decode prog_18_method_2_code 0 = .ok (.aload_n 0, 1) := by decide +kernel
theorem d3_1 : decode prog_18_method_2_code 1 = .ok (.getfield 13, 3) := by decide +kernel
theorem d3_4 : decode prog_18_method_2_code 4 = .ok (.aload_n 0, 1) := by decide +kernel
theorem d3_5 : decode prog_18_method_2_code 5 = .ok (.getfield 7, 3) := by decide +kernel
theorem d3_8 : decode prog_18_method_2_code 8 = .ok (.arraylength, 1) := by decide +kernel
theorem d3_9 : decode prog_18_method_2_code 9 = .ok (.if_icmp .ne 20, 3) := by decide +kernel
theorem d3_29 : decode prog_18_method_2_code 29 = .ok (.aload_n 0, 1) := by decide +kernel
theorem d3_30 : decode prog_18_method_2_code 30 = .ok (.getfield 7, 3) := by decide +kernel
theorem d3_33 : decode prog_18_method_2_code 33 = .ok (.aload_n 0, 1) := by decide +kernel
theorem d3_34 : decode prog_18_method_2_code 34 = .ok (.getfield 13, 3) := by decide +kernel
theorem d3_37 : decode prog_18_method_2_code 37 = .ok (.lload_n 1, 1) := by decide +kernel
theorem d3_38 : decode prog_18_method_2_code 38 = .ok (.lastore, 1) := by decide +kernel
theorem d3_39 : decode prog_18_method_2_code 39 = .ok (.aload_n 0, 1) := by decide +kernel
theorem d3_40 : decode prog_18_method_2_code 40 = .ok (.dup, 1) := by decide +kernel
theorem d3_41 : decode prog_18_method_2_code 41 = .ok (.getfield 13, 3) := by decide +kernel
theorem d3_44 : decode prog_18_method_2_code 44 = .ok (.iconst 1, 1) := by decide +kernel
theorem d3_45 : decode prog_18_method_2_code 45 = .ok (.iadd, 1) := by decide +kernel
theorem d3_46 : decode prog_18_method_2_code 46 = .ok (.putfield 13, 3) := by decide +kernel
theorem d3_49 : decode prog_18_method_2_code 49 = .ok (.return_, 1) := by decide +kernel
theorem ef_rm3_0 (m : MethodId) (ob : Addr) (yy : Int64) : entryFrame m #[(.ref ob), (.long yy)] 3 = mkF m 0 #[.val (.ref ob), .val (.long yy), .second] [] := by first | (simp [entryFrame, mkF, argsToLocals, Value.category]; done) | rfl
def Q3_0 (Z : State) (ob : Addr) (yy : Int64) (na : Addr) (ka : ClassId) (xa : Int64) (xb : Int64) (xc : Int64) (xd : Int64) (h0 : Heap) (n0 : Nat) (v : Option Value) (h : Heap) (L : List Loc) : Prop := v = none ∧ Fr n0 L ∧ Keep h0 h [ob, na] ∧ Fld Z h ob "com/example/spillway/spillway/runtime/Latencies" "nanos" "[J" (.ref na) ∧ Fld Z h ob "com/example/spillway/spillway/runtime/Latencies" "count" "I" (.int (1 : Int32)) ∧ Arv Z h na ka .long (256 : Int32) [(.long yy), (.long xb), (.long xc), (.long xd)] (.long (0 : Int64))
set_option maxRecDepth 65536 in
set_option maxHeartbeats 40000000 in
theorem rm3_0 (l : Launch) (Z : State) (a0 : Array Value) (hw : ∀ d ∈ tables_1, d.before a0 Z = true) (ws : List Jvm.Cond) (ob : Addr) (yy : Int64) (na : Addr) (ka : ClassId) (xa : Int64) (xb : Int64) (xc : Int64) (xd : Int64) (h0 : Heap) (n0 : Nat) (O0 : Old Z n0 h0) (E_o : Exa Z h0 ob "com/example/spillway/spillway/runtime/Latencies") (Fa : Fld Z h0 ob "com/example/spillway/spillway/runtime/Latencies" "nanos" "[J" (.ref na)) (Fb : Fld Z h0 ob "com/example/spillway/spillway/runtime/Latencies" "count" "I" (.int (0 : Int32))) (Va : Arv Z h0 na ka .long (256 : Int32) [(.long xa), (.long xb), (.long xc), (.long xd)] (.long (0 : Int64))) (g_o : n0 ≤ ob) (g_n : n0 ≤ na) (ne_on : ob ≠ na) :
    MetFree l (⟨"com/example/spillway/spillway/runtime/Latencies", "add", "(J)V"⟩ : MethodName) (head1 (Jvm.Cond.code (⟨"com/example/spillway/spillway/runtime/Latencies", "add", "(J)V"⟩ : MethodName) prog_18_method_2_code 3 none :: ws) ({ frames := 0, cells := 0, slots := 0, locals := 0 } : Room)) (fun ay U => ay = #[(.ref ob), (.long yy)] ∧ Z.Warmed39 U.vm ∧ U.heap = h0) (fun _ _ _ _ _ => True) (fun _ U o U' => ∃ v L, o = .returned v ∧ Q3_0 Z ob yy na ka xa xb xc xd h0 n0 v U'.heap L ∧ FrameEnd U o U' L ({ frames := 0, cells := 0, slots := 0, locals := 0 } : Room).cells ({ frames := 0, cells := 0, slots := 0, locals := 0 } : Room).slots) := by
  refine MetFree.of_bodySF (plainFor_of_name pn_com_example_spillway_spillway_runtime_Latencies) hisR ?_
  intro p e s m args below meth c s₁ Bd hml0 hP hK
  obtain ⟨rfl, hZ, hh⟩ := hP
  have hx := Bd.exec
  have hby := Bd.bytes
  have hlk : meth.locks = false := BodyLoose.notSynchronized Bd
  have hml : c.maxLocals = 3 := hml0
  have hown : s.vm.findClass "com/example/spillway/spillway/runtime/Latencies" = some m.cls := findClass_of_methodNamed Bd.named
  have hnm := (name_of_methodNamed Bd.named Bd.method).1
  have X0 : Stand p l e ({ frames := 0, cells := 0, slots := 0, locals := 0 } : Room) s m #[(.ref ob), (.long yy)] below meth c s₁ [] 0 0 := Stand.of_body Bd
  have e0 : s₁.heap = h0 := by rw [← hh, Bd.state]; rfl
  have N0 := Fr.nil n0
  suffices hgo : Go p e below s 0 0 (Q3_0 Z ob yy na ka xa xb xc xd h0 n0) (s₁.setTop (mkF m 0 #[.val (.ref ob), .val (.long yy), .second] [])) by
    obtain ⟨t, o, h1, h2⟩ := hgo; exact ⟨t, o, castTop (ef_rm3_0 m ob yy) h1, h2⟩
  show Go p e below s _ _ _ (s₁.setTop (mkF m 0 #[.val (.ref ob), .val (.long yy), .second] []))
  refine Go.st (fun _ k' => XS.aloadN X0.here hx rfl (hb hby d3_0) rfl rfl k') ?_
  show Go p e below s _ _ _ (s₁.setTop (mkF m 1 #[.val (.ref ob), .val (.long yy), .second] [(.ref ob)]))
  obtain ⟨T1, X1, e1, st1⟩ := getF X0 hx hZ hown (host := "") (Or.inl (wdx hw 17 rfl)) Via.refl e0 Fb (g := (mkF m 1 #[.val (.ref ob), .val (.long yy), .second] [(.ref ob)])) rfl rfl (hb hby d3_1)
  refine Go.st st1 ?_
  show Go p e below s _ _ _ (T1.setTop (mkF m 4 #[.val (.ref ob), .val (.long yy), .second] [(.int (0 : Int32))]))
  refine Go.st (fun _ k' => XS.aloadN X1.here hx rfl (hb hby d3_4) rfl rfl k') ?_
  show Go p e below s _ _ _ (T1.setTop (mkF m 5 #[.val (.ref ob), .val (.long yy), .second] [(.ref ob), (.int (0 : Int32))]))
  obtain ⟨T2, X2, e2, st2⟩ := getF X1 hx hZ hown (host := "") (Or.inl (wdx hw 10 rfl)) Via.refl e1 Fa (g := (mkF m 5 #[.val (.ref ob), .val (.long yy), .second] [(.ref ob), (.int (0 : Int32))])) rfl rfl (hb hby d3_5)
  refine Go.st st2 ?_
  show Go p e below s _ _ _ (T2.setTop (mkF m 8 #[.val (.ref ob), .val (.long yy), .second] [(.ref na), (.int (0 : Int32))]))
  obtain ⟨cl3, Ar3, qc3, Sz3, Nn3, Ha3, Gf3⟩ := id Va
  refine Go.st (fun _ k' => X2.arraylength hx (by rw [e2]; exact Ar3.1) (State.isArrayOf_alike hZ.alike Ar3.2.1) (g := (mkF m 8 #[.val (.ref ob), .val (.long yy), .second] [(.ref na), (.int (0 : Int32))])) rfl rfl (hb hby d3_8) _ k') ?_
  rw [len_of Sz3 Nn3]
  show Go p e below s _ _ _ (T2.setTop (mkF m 9 #[.val (.ref ob), .val (.long yy), .second] [(.int (256 : Int32)), (.int (0 : Int32))]))
  refine Go.st (fun _ k' => XS.icmpYes X2.here hx rfl (pc0 := 9) (pc' := 29) rfl (hb hby d3_9) rfl (XT.ii_ne_t (by decide)) (by decide) (by decide) k') ?_
  show Go p e below s _ _ _ (T2.setTop (mkF m 29 #[.val (.ref ob), .val (.long yy), .second] []))
  refine Go.st (fun _ k' => XS.aloadN X2.here hx rfl (hb hby d3_29) rfl rfl k') ?_
  show Go p e below s _ _ _ (T2.setTop (mkF m 30 #[.val (.ref ob), .val (.long yy), .second] [(.ref ob)]))
  obtain ⟨T4, X4, e4, st4⟩ := getF X2 hx hZ hown (host := "") (Or.inl (wdx hw 10 rfl)) Via.refl e2 Fa (g := (mkF m 30 #[.val (.ref ob), .val (.long yy), .second] [(.ref ob)])) rfl rfl (hb hby d3_30)
  refine Go.st st4 ?_
  show Go p e below s _ _ _ (T4.setTop (mkF m 33 #[.val (.ref ob), .val (.long yy), .second] [(.ref na)]))
  refine Go.st (fun _ k' => XS.aloadN X4.here hx rfl (hb hby d3_33) rfl rfl k') ?_
  show Go p e below s _ _ _ (T4.setTop (mkF m 34 #[.val (.ref ob), .val (.long yy), .second] [(.ref ob), (.ref na)]))
  obtain ⟨T5, X5, e5, st5⟩ := getF X4 hx hZ hown (host := "") (Or.inl (wdx hw 17 rfl)) Via.refl e4 Fb (g := (mkF m 34 #[.val (.ref ob), .val (.long yy), .second] [(.ref ob), (.ref na)])) rfl rfl (hb hby d3_34)
  refine Go.st st5 ?_
  show Go p e below s _ _ _ (T5.setTop (mkF m 37 #[.val (.ref ob), .val (.long yy), .second] [(.int (0 : Int32)), (.ref na)]))
  refine Go.st (fun _ k' => XS.lloadN X5.here hx rfl (hb hby d3_37) rfl k') ?_
  show Go p e below s _ _ _ (T5.setTop (mkF m 38 #[.val (.ref ob), .val (.long yy), .second] [(.long yy), (.int (0 : Int32)), (.ref na)]))
  obtain ⟨cl6, Ar6, qc6, Sz6, Nn6, Ha6, Gf6⟩ := id Va
  obtain ⟨T6, h6, X6, e6, W6, st6⟩ := stJ X5 hx hZ e5 Ar6 (j := (0 : Int32)) (inb_of Sz6 ⟨by decide, by decide⟩) (g := (mkF m 38 #[.val (.ref ob), .val (.long yy), .second] [(.long yy), (.int (0 : Int32)), (.ref na)])) rfl rfl (hb hby d3_38)
  refine Go.st st6 ?_
  have f8 : Exa Z h6 ob "com/example/spillway/spillway/runtime/Latencies" := E_o.wr W6
  have f9 : Fld Z h6 ob "com/example/spillway/spillway/runtime/Latencies" "nanos" "[J" (.ref na) := Fa.other W6 (Or.inl ne_on)
  have f10 : Fld Z h6 ob "com/example/spillway/spillway/runtime/Latencies" "count" "I" (.int (0 : Int32)) := Fb.other W6 (Or.inl ne_on)
  have O6 : Old Z n0 h6 := O0.wr W6 g_n
  have N6 := Fr.snoc X6 N0 g_n
  have K6 : Keep h0 h6 [ob, na] := (Keep.refl h0 [ob, na]).wr W6 (Or.inl (by simp))
  have f7 : Arv Z h6 na ka .long (256 : Int32) [(.long yy), (.long xb), (.long xc), (.long xd)] (.long (0 : Int64)) := Arv.set Ar6 qc6 Sz6 Nn6 Ha6 Gf6 rfl W6 0 rfl (Nat.le_of_ble_eq_true rfl)
  show Go p e below s _ _ _ (T6.setTop (mkF m 39 #[.val (.ref ob), .val (.long yy), .second] []))
  refine Go.st (fun _ k' => XS.aloadN X6.here hx rfl (hb hby d3_39) rfl rfl k') ?_
  show Go p e below s _ _ _ (T6.setTop (mkF m 40 #[.val (.ref ob), .val (.long yy), .second] [(.ref ob)]))
  refine Go.st (fun _ k' => XS.dup X6.here hx rfl (hb hby d3_40) rfl rfl k') ?_
  show Go p e below s _ _ _ (T6.setTop (mkF m 41 #[.val (.ref ob), .val (.long yy), .second] [(.ref ob), (.ref ob)]))
  obtain ⟨T11, X11, e11, st11⟩ := getF X6 hx hZ hown (host := "") (Or.inl (wdx hw 17 rfl)) Via.refl e6 f10 (g := (mkF m 41 #[.val (.ref ob), .val (.long yy), .second] [(.ref ob), (.ref ob)])) rfl rfl (hb hby d3_41)
  refine Go.st st11 ?_
  show Go p e below s _ _ _ (T11.setTop (mkF m 44 #[.val (.ref ob), .val (.long yy), .second] [(.int (0 : Int32)), (.ref ob)]))
  refine Go.st (fun _ k' => XS.iconst X11.here hx rfl (hb hby d3_44) k') ?_
  show Go p e below s _ _ _ (T11.setTop (mkF m 45 #[.val (.ref ob), .val (.long yy), .second] [(.int (1 : Int32)), (.int (0 : Int32)), (.ref ob)]))
  refine Go.st (fun _ k' => XS.iadd X11.here hx rfl (hb hby d3_45) rfl k') ?_
  show Go p e below s _ _ _ (T11.setTop (mkF m 46 #[.val (.ref ob), .val (.long yy), .second] [(.int (1 : Int32)), (.ref ob)]))
  obtain ⟨T12, h12, X12, e12, W12, st12⟩ := putF X11 hx hZ hown (host := "") (Or.inl (wdx hw 17 rfl)) Via.refl e11 f10 f8 (Or.inl (wdx hw 18 rfl)) (wdx hw 1 rfl) (ty := .int) (by decide) rfl rfl (g := (mkF m 46 #[.val (.ref ob), .val (.long yy), .second] [(.int (1 : Int32)), (.ref ob)])) rfl rfl (hb hby d3_46)
  refine Go.st st12 ?_
  have f13 : Exa Z h12 ob "com/example/spillway/spillway/runtime/Latencies" := f8.wr W12
  have f14 : Fld Z h12 ob "com/example/spillway/spillway/runtime/Latencies" "nanos" "[J" (.ref na) := f9.other W12 (Or.inr (slot_ne (Or.inl (wdx hw 11 rfl)) (Or.inl (wdx hw 18 rfl)) (by decide) (t := (.array .long)) (t' := .int) (by decide) (by decide)))
  have f15 : Fld Z h12 ob "com/example/spillway/spillway/runtime/Latencies" "count" "I" (.int (1 : Int32)) := f10.same W12
  have f16 : Arv Z h12 na ka .long (256 : Int32) [(.long yy), (.long xb), (.long xc), (.long xd)] (.long (0 : Int64)) := f7.other W12 (Ne.symm ne_on)
  have O12 : Old Z n0 h12 := O6.wr W12 g_o
  have N12 := Fr.snoc X12 N6 g_o
  have K12 : Keep h0 h12 [ob, na] := K6.wr W12 (Or.inl (by simp))
  show Go p e below s _ _ _ (T12.setTop (mkF m 49 #[.val (.ref ob), .val (.long yy), .second] []))
  refine Go.retV X12 hx hlk Bd.returns (hb hby d3_49) (by decide) (by decide) e12 ?_
  exact ⟨rfl, N12, K12, f14, f15, f16⟩
theorem ef_rm3_1 (m : MethodId) (ob : Addr) (yy : Int64) : entryFrame m #[(.ref ob), (.long yy)] 3 = mkF m 0 #[.val (.ref ob), .val (.long yy), .second] [] := by first | (simp [entryFrame, mkF, argsToLocals, Value.category]; done) | rfl
def Q3_1 (Z : State) (ob : Addr) (yy : Int64) (na : Addr) (ka : ClassId) (xa : Int64) (xb : Int64) (xc : Int64) (xd : Int64) (h0 : Heap) (n0 : Nat) (v : Option Value) (h : Heap) (L : List Loc) : Prop := v = none ∧ Fr n0 L ∧ Keep h0 h [ob, na] ∧ Fld Z h ob "com/example/spillway/spillway/runtime/Latencies" "nanos" "[J" (.ref na) ∧ Fld Z h ob "com/example/spillway/spillway/runtime/Latencies" "count" "I" (.int (2 : Int32)) ∧ Arv Z h na ka .long (256 : Int32) [(.long xa), (.long yy), (.long xc), (.long xd)] (.long (0 : Int64))
set_option maxRecDepth 65536 in
set_option maxHeartbeats 40000000 in
theorem rm3_1 (l : Launch) (Z : State) (a0 : Array Value) (hw : ∀ d ∈ tables_1, d.before a0 Z = true) (ws : List Jvm.Cond) (ob : Addr) (yy : Int64) (na : Addr) (ka : ClassId) (xa : Int64) (xb : Int64) (xc : Int64) (xd : Int64) (h0 : Heap) (n0 : Nat) (O0 : Old Z n0 h0) (E_o : Exa Z h0 ob "com/example/spillway/spillway/runtime/Latencies") (Fa : Fld Z h0 ob "com/example/spillway/spillway/runtime/Latencies" "nanos" "[J" (.ref na)) (Fb : Fld Z h0 ob "com/example/spillway/spillway/runtime/Latencies" "count" "I" (.int (1 : Int32))) (Va : Arv Z h0 na ka .long (256 : Int32) [(.long xa), (.long xb), (.long xc), (.long xd)] (.long (0 : Int64))) (g_o : n0 ≤ ob) (g_n : n0 ≤ na) (ne_on : ob ≠ na) :
    MetFree l (⟨"com/example/spillway/spillway/runtime/Latencies", "add", "(J)V"⟩ : MethodName) (head1 (Jvm.Cond.code (⟨"com/example/spillway/spillway/runtime/Latencies", "add", "(J)V"⟩ : MethodName) prog_18_method_2_code 3 none :: ws) ({ frames := 0, cells := 0, slots := 0, locals := 0 } : Room)) (fun ay U => ay = #[(.ref ob), (.long yy)] ∧ Z.Warmed39 U.vm ∧ U.heap = h0) (fun _ _ _ _ _ => True) (fun _ U o U' => ∃ v L, o = .returned v ∧ Q3_1 Z ob yy na ka xa xb xc xd h0 n0 v U'.heap L ∧ FrameEnd U o U' L ({ frames := 0, cells := 0, slots := 0, locals := 0 } : Room).cells ({ frames := 0, cells := 0, slots := 0, locals := 0 } : Room).slots) := by
  refine MetFree.of_bodySF (plainFor_of_name pn_com_example_spillway_spillway_runtime_Latencies) hisR ?_
  intro p e s m args below meth c s₁ Bd hml0 hP hK
  obtain ⟨rfl, hZ, hh⟩ := hP
  have hx := Bd.exec
  have hby := Bd.bytes
  have hlk : meth.locks = false := BodyLoose.notSynchronized Bd
  have hml : c.maxLocals = 3 := hml0
  have hown : s.vm.findClass "com/example/spillway/spillway/runtime/Latencies" = some m.cls := findClass_of_methodNamed Bd.named
  have hnm := (name_of_methodNamed Bd.named Bd.method).1
  have X0 : Stand p l e ({ frames := 0, cells := 0, slots := 0, locals := 0 } : Room) s m #[(.ref ob), (.long yy)] below meth c s₁ [] 0 0 := Stand.of_body Bd
  have e0 : s₁.heap = h0 := by rw [← hh, Bd.state]; rfl
  have N0 := Fr.nil n0
  suffices hgo : Go p e below s 0 0 (Q3_1 Z ob yy na ka xa xb xc xd h0 n0) (s₁.setTop (mkF m 0 #[.val (.ref ob), .val (.long yy), .second] [])) by
    obtain ⟨t, o, h1, h2⟩ := hgo; exact ⟨t, o, castTop (ef_rm3_1 m ob yy) h1, h2⟩
  show Go p e below s _ _ _ (s₁.setTop (mkF m 0 #[.val (.ref ob), .val (.long yy), .second] []))
  refine Go.st (fun _ k' => XS.aloadN X0.here hx rfl (hb hby d3_0) rfl rfl k') ?_
  show Go p e below s _ _ _ (s₁.setTop (mkF m 1 #[.val (.ref ob), .val (.long yy), .second] [(.ref ob)]))
  obtain ⟨T1, X1, e1, st1⟩ := getF X0 hx hZ hown (host := "") (Or.inl (wdx hw 17 rfl)) Via.refl e0 Fb (g := (mkF m 1 #[.val (.ref ob), .val (.long yy), .second] [(.ref ob)])) rfl rfl (hb hby d3_1)
  refine Go.st st1 ?_
  show Go p e below s _ _ _ (T1.setTop (mkF m 4 #[.val (.ref ob), .val (.long yy), .second] [(.int (1 : Int32))]))
  refine Go.st (fun _ k' => XS.aloadN X1.here hx rfl (hb hby d3_4) rfl rfl k') ?_
  show Go p e below s _ _ _ (T1.setTop (mkF m 5 #[.val (.ref ob), .val (.long yy), .second] [(.ref ob), (.int (1 : Int32))]))
  obtain ⟨T2, X2, e2, st2⟩ := getF X1 hx hZ hown (host := "") (Or.inl (wdx hw 10 rfl)) Via.refl e1 Fa (g := (mkF m 5 #[.val (.ref ob), .val (.long yy), .second] [(.ref ob), (.int (1 : Int32))])) rfl rfl (hb hby d3_5)
  refine Go.st st2 ?_
  show Go p e below s _ _ _ (T2.setTop (mkF m 8 #[.val (.ref ob), .val (.long yy), .second] [(.ref na), (.int (1 : Int32))]))
  obtain ⟨cl3, Ar3, qc3, Sz3, Nn3, Ha3, Gf3⟩ := id Va
  refine Go.st (fun _ k' => X2.arraylength hx (by rw [e2]; exact Ar3.1) (State.isArrayOf_alike hZ.alike Ar3.2.1) (g := (mkF m 8 #[.val (.ref ob), .val (.long yy), .second] [(.ref na), (.int (1 : Int32))])) rfl rfl (hb hby d3_8) _ k') ?_
  rw [len_of Sz3 Nn3]
  show Go p e below s _ _ _ (T2.setTop (mkF m 9 #[.val (.ref ob), .val (.long yy), .second] [(.int (256 : Int32)), (.int (1 : Int32))]))
  refine Go.st (fun _ k' => XS.icmpYes X2.here hx rfl (pc0 := 9) (pc' := 29) rfl (hb hby d3_9) rfl (XT.ii_ne_t (by decide)) (by decide) (by decide) k') ?_
  show Go p e below s _ _ _ (T2.setTop (mkF m 29 #[.val (.ref ob), .val (.long yy), .second] []))
  refine Go.st (fun _ k' => XS.aloadN X2.here hx rfl (hb hby d3_29) rfl rfl k') ?_
  show Go p e below s _ _ _ (T2.setTop (mkF m 30 #[.val (.ref ob), .val (.long yy), .second] [(.ref ob)]))
  obtain ⟨T4, X4, e4, st4⟩ := getF X2 hx hZ hown (host := "") (Or.inl (wdx hw 10 rfl)) Via.refl e2 Fa (g := (mkF m 30 #[.val (.ref ob), .val (.long yy), .second] [(.ref ob)])) rfl rfl (hb hby d3_30)
  refine Go.st st4 ?_
  show Go p e below s _ _ _ (T4.setTop (mkF m 33 #[.val (.ref ob), .val (.long yy), .second] [(.ref na)]))
  refine Go.st (fun _ k' => XS.aloadN X4.here hx rfl (hb hby d3_33) rfl rfl k') ?_
  show Go p e below s _ _ _ (T4.setTop (mkF m 34 #[.val (.ref ob), .val (.long yy), .second] [(.ref ob), (.ref na)]))
  obtain ⟨T5, X5, e5, st5⟩ := getF X4 hx hZ hown (host := "") (Or.inl (wdx hw 17 rfl)) Via.refl e4 Fb (g := (mkF m 34 #[.val (.ref ob), .val (.long yy), .second] [(.ref ob), (.ref na)])) rfl rfl (hb hby d3_34)
  refine Go.st st5 ?_
  show Go p e below s _ _ _ (T5.setTop (mkF m 37 #[.val (.ref ob), .val (.long yy), .second] [(.int (1 : Int32)), (.ref na)]))
  refine Go.st (fun _ k' => XS.lloadN X5.here hx rfl (hb hby d3_37) rfl k') ?_
  show Go p e below s _ _ _ (T5.setTop (mkF m 38 #[.val (.ref ob), .val (.long yy), .second] [(.long yy), (.int (1 : Int32)), (.ref na)]))
  obtain ⟨cl6, Ar6, qc6, Sz6, Nn6, Ha6, Gf6⟩ := id Va
  obtain ⟨T6, h6, X6, e6, W6, st6⟩ := stJ X5 hx hZ e5 Ar6 (j := (1 : Int32)) (inb_of Sz6 ⟨by decide, by decide⟩) (g := (mkF m 38 #[.val (.ref ob), .val (.long yy), .second] [(.long yy), (.int (1 : Int32)), (.ref na)])) rfl rfl (hb hby d3_38)
  refine Go.st st6 ?_
  have f8 : Exa Z h6 ob "com/example/spillway/spillway/runtime/Latencies" := E_o.wr W6
  have f9 : Fld Z h6 ob "com/example/spillway/spillway/runtime/Latencies" "nanos" "[J" (.ref na) := Fa.other W6 (Or.inl ne_on)
  have f10 : Fld Z h6 ob "com/example/spillway/spillway/runtime/Latencies" "count" "I" (.int (1 : Int32)) := Fb.other W6 (Or.inl ne_on)
  have O6 : Old Z n0 h6 := O0.wr W6 g_n
  have N6 := Fr.snoc X6 N0 g_n
  have K6 : Keep h0 h6 [ob, na] := (Keep.refl h0 [ob, na]).wr W6 (Or.inl (by simp))
  have f7 : Arv Z h6 na ka .long (256 : Int32) [(.long xa), (.long yy), (.long xc), (.long xd)] (.long (0 : Int64)) := Arv.set Ar6 qc6 Sz6 Nn6 Ha6 Gf6 rfl W6 1 rfl (Nat.le_of_ble_eq_true rfl)
  show Go p e below s _ _ _ (T6.setTop (mkF m 39 #[.val (.ref ob), .val (.long yy), .second] []))
  refine Go.st (fun _ k' => XS.aloadN X6.here hx rfl (hb hby d3_39) rfl rfl k') ?_
  show Go p e below s _ _ _ (T6.setTop (mkF m 40 #[.val (.ref ob), .val (.long yy), .second] [(.ref ob)]))
  refine Go.st (fun _ k' => XS.dup X6.here hx rfl (hb hby d3_40) rfl rfl k') ?_
  show Go p e below s _ _ _ (T6.setTop (mkF m 41 #[.val (.ref ob), .val (.long yy), .second] [(.ref ob), (.ref ob)]))
  obtain ⟨T11, X11, e11, st11⟩ := getF X6 hx hZ hown (host := "") (Or.inl (wdx hw 17 rfl)) Via.refl e6 f10 (g := (mkF m 41 #[.val (.ref ob), .val (.long yy), .second] [(.ref ob), (.ref ob)])) rfl rfl (hb hby d3_41)
  refine Go.st st11 ?_
  show Go p e below s _ _ _ (T11.setTop (mkF m 44 #[.val (.ref ob), .val (.long yy), .second] [(.int (1 : Int32)), (.ref ob)]))
  refine Go.st (fun _ k' => XS.iconst X11.here hx rfl (hb hby d3_44) k') ?_
  show Go p e below s _ _ _ (T11.setTop (mkF m 45 #[.val (.ref ob), .val (.long yy), .second] [(.int (1 : Int32)), (.int (1 : Int32)), (.ref ob)]))
  refine Go.st (fun _ k' => XS.iadd X11.here hx rfl (hb hby d3_45) rfl k') ?_
  show Go p e below s _ _ _ (T11.setTop (mkF m 46 #[.val (.ref ob), .val (.long yy), .second] [(.int (2 : Int32)), (.ref ob)]))
  obtain ⟨T12, h12, X12, e12, W12, st12⟩ := putF X11 hx hZ hown (host := "") (Or.inl (wdx hw 17 rfl)) Via.refl e11 f10 f8 (Or.inl (wdx hw 18 rfl)) (wdx hw 1 rfl) (ty := .int) (by decide) rfl rfl (g := (mkF m 46 #[.val (.ref ob), .val (.long yy), .second] [(.int (2 : Int32)), (.ref ob)])) rfl rfl (hb hby d3_46)
  refine Go.st st12 ?_
  have f13 : Exa Z h12 ob "com/example/spillway/spillway/runtime/Latencies" := f8.wr W12
  have f14 : Fld Z h12 ob "com/example/spillway/spillway/runtime/Latencies" "nanos" "[J" (.ref na) := f9.other W12 (Or.inr (slot_ne (Or.inl (wdx hw 11 rfl)) (Or.inl (wdx hw 18 rfl)) (by decide) (t := (.array .long)) (t' := .int) (by decide) (by decide)))
  have f15 : Fld Z h12 ob "com/example/spillway/spillway/runtime/Latencies" "count" "I" (.int (2 : Int32)) := f10.same W12
  have f16 : Arv Z h12 na ka .long (256 : Int32) [(.long xa), (.long yy), (.long xc), (.long xd)] (.long (0 : Int64)) := f7.other W12 (Ne.symm ne_on)
  have O12 : Old Z n0 h12 := O6.wr W12 g_o
  have N12 := Fr.snoc X12 N6 g_o
  have K12 : Keep h0 h12 [ob, na] := K6.wr W12 (Or.inl (by simp))
  show Go p e below s _ _ _ (T12.setTop (mkF m 49 #[.val (.ref ob), .val (.long yy), .second] []))
  refine Go.retV X12 hx hlk Bd.returns (hb hby d3_49) (by decide) (by decide) e12 ?_
  exact ⟨rfl, N12, K12, f14, f15, f16⟩
theorem ef_rm3_2 (m : MethodId) (ob : Addr) (yy : Int64) : entryFrame m #[(.ref ob), (.long yy)] 3 = mkF m 0 #[.val (.ref ob), .val (.long yy), .second] [] := by first | (simp [entryFrame, mkF, argsToLocals, Value.category]; done) | rfl
def Q3_2 (Z : State) (ob : Addr) (yy : Int64) (na : Addr) (ka : ClassId) (xa : Int64) (xb : Int64) (xc : Int64) (xd : Int64) (h0 : Heap) (n0 : Nat) (v : Option Value) (h : Heap) (L : List Loc) : Prop := v = none ∧ Fr n0 L ∧ Keep h0 h [ob, na] ∧ Fld Z h ob "com/example/spillway/spillway/runtime/Latencies" "nanos" "[J" (.ref na) ∧ Fld Z h ob "com/example/spillway/spillway/runtime/Latencies" "count" "I" (.int (3 : Int32)) ∧ Arv Z h na ka .long (256 : Int32) [(.long xa), (.long xb), (.long yy), (.long xd)] (.long (0 : Int64))
set_option maxRecDepth 65536 in
set_option maxHeartbeats 40000000 in
theorem rm3_2 (l : Launch) (Z : State) (a0 : Array Value) (hw : ∀ d ∈ tables_1, d.before a0 Z = true) (ws : List Jvm.Cond) (ob : Addr) (yy : Int64) (na : Addr) (ka : ClassId) (xa : Int64) (xb : Int64) (xc : Int64) (xd : Int64) (h0 : Heap) (n0 : Nat) (O0 : Old Z n0 h0) (E_o : Exa Z h0 ob "com/example/spillway/spillway/runtime/Latencies") (Fa : Fld Z h0 ob "com/example/spillway/spillway/runtime/Latencies" "nanos" "[J" (.ref na)) (Fb : Fld Z h0 ob "com/example/spillway/spillway/runtime/Latencies" "count" "I" (.int (2 : Int32))) (Va : Arv Z h0 na ka .long (256 : Int32) [(.long xa), (.long xb), (.long xc), (.long xd)] (.long (0 : Int64))) (g_o : n0 ≤ ob) (g_n : n0 ≤ na) (ne_on : ob ≠ na) :
    MetFree l (⟨"com/example/spillway/spillway/runtime/Latencies", "add", "(J)V"⟩ : MethodName) (head1 (Jvm.Cond.code (⟨"com/example/spillway/spillway/runtime/Latencies", "add", "(J)V"⟩ : MethodName) prog_18_method_2_code 3 none :: ws) ({ frames := 0, cells := 0, slots := 0, locals := 0 } : Room)) (fun ay U => ay = #[(.ref ob), (.long yy)] ∧ Z.Warmed39 U.vm ∧ U.heap = h0) (fun _ _ _ _ _ => True) (fun _ U o U' => ∃ v L, o = .returned v ∧ Q3_2 Z ob yy na ka xa xb xc xd h0 n0 v U'.heap L ∧ FrameEnd U o U' L ({ frames := 0, cells := 0, slots := 0, locals := 0 } : Room).cells ({ frames := 0, cells := 0, slots := 0, locals := 0 } : Room).slots) := by
  refine MetFree.of_bodySF (plainFor_of_name pn_com_example_spillway_spillway_runtime_Latencies) hisR ?_
  intro p e s m args below meth c s₁ Bd hml0 hP hK
  obtain ⟨rfl, hZ, hh⟩ := hP
  have hx := Bd.exec
  have hby := Bd.bytes
  have hlk : meth.locks = false := BodyLoose.notSynchronized Bd
  have hml : c.maxLocals = 3 := hml0
  have hown : s.vm.findClass "com/example/spillway/spillway/runtime/Latencies" = some m.cls := findClass_of_methodNamed Bd.named
  have hnm := (name_of_methodNamed Bd.named Bd.method).1
  have X0 : Stand p l e ({ frames := 0, cells := 0, slots := 0, locals := 0 } : Room) s m #[(.ref ob), (.long yy)] below meth c s₁ [] 0 0 := Stand.of_body Bd
  have e0 : s₁.heap = h0 := by rw [← hh, Bd.state]; rfl
  have N0 := Fr.nil n0
  suffices hgo : Go p e below s 0 0 (Q3_2 Z ob yy na ka xa xb xc xd h0 n0) (s₁.setTop (mkF m 0 #[.val (.ref ob), .val (.long yy), .second] [])) by
    obtain ⟨t, o, h1, h2⟩ := hgo; exact ⟨t, o, castTop (ef_rm3_2 m ob yy) h1, h2⟩
  show Go p e below s _ _ _ (s₁.setTop (mkF m 0 #[.val (.ref ob), .val (.long yy), .second] []))
  refine Go.st (fun _ k' => XS.aloadN X0.here hx rfl (hb hby d3_0) rfl rfl k') ?_
  show Go p e below s _ _ _ (s₁.setTop (mkF m 1 #[.val (.ref ob), .val (.long yy), .second] [(.ref ob)]))
  obtain ⟨T1, X1, e1, st1⟩ := getF X0 hx hZ hown (host := "") (Or.inl (wdx hw 17 rfl)) Via.refl e0 Fb (g := (mkF m 1 #[.val (.ref ob), .val (.long yy), .second] [(.ref ob)])) rfl rfl (hb hby d3_1)
  refine Go.st st1 ?_
  show Go p e below s _ _ _ (T1.setTop (mkF m 4 #[.val (.ref ob), .val (.long yy), .second] [(.int (2 : Int32))]))
  refine Go.st (fun _ k' => XS.aloadN X1.here hx rfl (hb hby d3_4) rfl rfl k') ?_
  show Go p e below s _ _ _ (T1.setTop (mkF m 5 #[.val (.ref ob), .val (.long yy), .second] [(.ref ob), (.int (2 : Int32))]))
  obtain ⟨T2, X2, e2, st2⟩ := getF X1 hx hZ hown (host := "") (Or.inl (wdx hw 10 rfl)) Via.refl e1 Fa (g := (mkF m 5 #[.val (.ref ob), .val (.long yy), .second] [(.ref ob), (.int (2 : Int32))])) rfl rfl (hb hby d3_5)
  refine Go.st st2 ?_
  show Go p e below s _ _ _ (T2.setTop (mkF m 8 #[.val (.ref ob), .val (.long yy), .second] [(.ref na), (.int (2 : Int32))]))
  obtain ⟨cl3, Ar3, qc3, Sz3, Nn3, Ha3, Gf3⟩ := id Va
  refine Go.st (fun _ k' => X2.arraylength hx (by rw [e2]; exact Ar3.1) (State.isArrayOf_alike hZ.alike Ar3.2.1) (g := (mkF m 8 #[.val (.ref ob), .val (.long yy), .second] [(.ref na), (.int (2 : Int32))])) rfl rfl (hb hby d3_8) _ k') ?_
  rw [len_of Sz3 Nn3]
  show Go p e below s _ _ _ (T2.setTop (mkF m 9 #[.val (.ref ob), .val (.long yy), .second] [(.int (256 : Int32)), (.int (2 : Int32))]))
  refine Go.st (fun _ k' => XS.icmpYes X2.here hx rfl (pc0 := 9) (pc' := 29) rfl (hb hby d3_9) rfl (XT.ii_ne_t (by decide)) (by decide) (by decide) k') ?_
  show Go p e below s _ _ _ (T2.setTop (mkF m 29 #[.val (.ref ob), .val (.long yy), .second] []))
  refine Go.st (fun _ k' => XS.aloadN X2.here hx rfl (hb hby d3_29) rfl rfl k') ?_
  show Go p e below s _ _ _ (T2.setTop (mkF m 30 #[.val (.ref ob), .val (.long yy), .second] [(.ref ob)]))
  obtain ⟨T4, X4, e4, st4⟩ := getF X2 hx hZ hown (host := "") (Or.inl (wdx hw 10 rfl)) Via.refl e2 Fa (g := (mkF m 30 #[.val (.ref ob), .val (.long yy), .second] [(.ref ob)])) rfl rfl (hb hby d3_30)
  refine Go.st st4 ?_
  show Go p e below s _ _ _ (T4.setTop (mkF m 33 #[.val (.ref ob), .val (.long yy), .second] [(.ref na)]))
  refine Go.st (fun _ k' => XS.aloadN X4.here hx rfl (hb hby d3_33) rfl rfl k') ?_
  show Go p e below s _ _ _ (T4.setTop (mkF m 34 #[.val (.ref ob), .val (.long yy), .second] [(.ref ob), (.ref na)]))
  obtain ⟨T5, X5, e5, st5⟩ := getF X4 hx hZ hown (host := "") (Or.inl (wdx hw 17 rfl)) Via.refl e4 Fb (g := (mkF m 34 #[.val (.ref ob), .val (.long yy), .second] [(.ref ob), (.ref na)])) rfl rfl (hb hby d3_34)
  refine Go.st st5 ?_
  show Go p e below s _ _ _ (T5.setTop (mkF m 37 #[.val (.ref ob), .val (.long yy), .second] [(.int (2 : Int32)), (.ref na)]))
  refine Go.st (fun _ k' => XS.lloadN X5.here hx rfl (hb hby d3_37) rfl k') ?_
  show Go p e below s _ _ _ (T5.setTop (mkF m 38 #[.val (.ref ob), .val (.long yy), .second] [(.long yy), (.int (2 : Int32)), (.ref na)]))
  obtain ⟨cl6, Ar6, qc6, Sz6, Nn6, Ha6, Gf6⟩ := id Va
  obtain ⟨T6, h6, X6, e6, W6, st6⟩ := stJ X5 hx hZ e5 Ar6 (j := (2 : Int32)) (inb_of Sz6 ⟨by decide, by decide⟩) (g := (mkF m 38 #[.val (.ref ob), .val (.long yy), .second] [(.long yy), (.int (2 : Int32)), (.ref na)])) rfl rfl (hb hby d3_38)
  refine Go.st st6 ?_
  have f8 : Exa Z h6 ob "com/example/spillway/spillway/runtime/Latencies" := E_o.wr W6
  have f9 : Fld Z h6 ob "com/example/spillway/spillway/runtime/Latencies" "nanos" "[J" (.ref na) := Fa.other W6 (Or.inl ne_on)
  have f10 : Fld Z h6 ob "com/example/spillway/spillway/runtime/Latencies" "count" "I" (.int (2 : Int32)) := Fb.other W6 (Or.inl ne_on)
  have O6 : Old Z n0 h6 := O0.wr W6 g_n
  have N6 := Fr.snoc X6 N0 g_n
  have K6 : Keep h0 h6 [ob, na] := (Keep.refl h0 [ob, na]).wr W6 (Or.inl (by simp))
  have f7 : Arv Z h6 na ka .long (256 : Int32) [(.long xa), (.long xb), (.long yy), (.long xd)] (.long (0 : Int64)) := Arv.set Ar6 qc6 Sz6 Nn6 Ha6 Gf6 rfl W6 2 rfl (Nat.le_of_ble_eq_true rfl)
  show Go p e below s _ _ _ (T6.setTop (mkF m 39 #[.val (.ref ob), .val (.long yy), .second] []))
  refine Go.st (fun _ k' => XS.aloadN X6.here hx rfl (hb hby d3_39) rfl rfl k') ?_
  show Go p e below s _ _ _ (T6.setTop (mkF m 40 #[.val (.ref ob), .val (.long yy), .second] [(.ref ob)]))
  refine Go.st (fun _ k' => XS.dup X6.here hx rfl (hb hby d3_40) rfl rfl k') ?_
  show Go p e below s _ _ _ (T6.setTop (mkF m 41 #[.val (.ref ob), .val (.long yy), .second] [(.ref ob), (.ref ob)]))
  obtain ⟨T11, X11, e11, st11⟩ := getF X6 hx hZ hown (host := "") (Or.inl (wdx hw 17 rfl)) Via.refl e6 f10 (g := (mkF m 41 #[.val (.ref ob), .val (.long yy), .second] [(.ref ob), (.ref ob)])) rfl rfl (hb hby d3_41)
  refine Go.st st11 ?_
  show Go p e below s _ _ _ (T11.setTop (mkF m 44 #[.val (.ref ob), .val (.long yy), .second] [(.int (2 : Int32)), (.ref ob)]))
  refine Go.st (fun _ k' => XS.iconst X11.here hx rfl (hb hby d3_44) k') ?_
  show Go p e below s _ _ _ (T11.setTop (mkF m 45 #[.val (.ref ob), .val (.long yy), .second] [(.int (1 : Int32)), (.int (2 : Int32)), (.ref ob)]))
  refine Go.st (fun _ k' => XS.iadd X11.here hx rfl (hb hby d3_45) rfl k') ?_
  show Go p e below s _ _ _ (T11.setTop (mkF m 46 #[.val (.ref ob), .val (.long yy), .second] [(.int (3 : Int32)), (.ref ob)]))
  obtain ⟨T12, h12, X12, e12, W12, st12⟩ := putF X11 hx hZ hown (host := "") (Or.inl (wdx hw 17 rfl)) Via.refl e11 f10 f8 (Or.inl (wdx hw 18 rfl)) (wdx hw 1 rfl) (ty := .int) (by decide) rfl rfl (g := (mkF m 46 #[.val (.ref ob), .val (.long yy), .second] [(.int (3 : Int32)), (.ref ob)])) rfl rfl (hb hby d3_46)
  refine Go.st st12 ?_
  have f13 : Exa Z h12 ob "com/example/spillway/spillway/runtime/Latencies" := f8.wr W12
  have f14 : Fld Z h12 ob "com/example/spillway/spillway/runtime/Latencies" "nanos" "[J" (.ref na) := f9.other W12 (Or.inr (slot_ne (Or.inl (wdx hw 11 rfl)) (Or.inl (wdx hw 18 rfl)) (by decide) (t := (.array .long)) (t' := .int) (by decide) (by decide)))
  have f15 : Fld Z h12 ob "com/example/spillway/spillway/runtime/Latencies" "count" "I" (.int (3 : Int32)) := f10.same W12
  have f16 : Arv Z h12 na ka .long (256 : Int32) [(.long xa), (.long xb), (.long yy), (.long xd)] (.long (0 : Int64)) := f7.other W12 (Ne.symm ne_on)
  have O12 : Old Z n0 h12 := O6.wr W12 g_o
  have N12 := Fr.snoc X12 N6 g_o
  have K12 : Keep h0 h12 [ob, na] := K6.wr W12 (Or.inl (by simp))
  show Go p e below s _ _ _ (T12.setTop (mkF m 49 #[.val (.ref ob), .val (.long yy), .second] []))
  refine Go.retV X12 hx hlk Bd.returns (hb hby d3_49) (by decide) (by decide) e12 ?_
  exact ⟨rfl, N12, K12, f14, f15, f16⟩
theorem ef_rm3_3 (m : MethodId) (ob : Addr) (yy : Int64) : entryFrame m #[(.ref ob), (.long yy)] 3 = mkF m 0 #[.val (.ref ob), .val (.long yy), .second] [] := by first | (simp [entryFrame, mkF, argsToLocals, Value.category]; done) | rfl
def Q3_3 (Z : State) (ob : Addr) (yy : Int64) (na : Addr) (ka : ClassId) (xa : Int64) (xb : Int64) (xc : Int64) (xd : Int64) (h0 : Heap) (n0 : Nat) (v : Option Value) (h : Heap) (L : List Loc) : Prop := v = none ∧ Fr n0 L ∧ Keep h0 h [ob, na] ∧ Fld Z h ob "com/example/spillway/spillway/runtime/Latencies" "nanos" "[J" (.ref na) ∧ Fld Z h ob "com/example/spillway/spillway/runtime/Latencies" "count" "I" (.int (4 : Int32)) ∧ Arv Z h na ka .long (256 : Int32) [(.long xa), (.long xb), (.long xc), (.long yy)] (.long (0 : Int64))
set_option maxRecDepth 65536 in
set_option maxHeartbeats 40000000 in
theorem rm3_3 (l : Launch) (Z : State) (a0 : Array Value) (hw : ∀ d ∈ tables_1, d.before a0 Z = true) (ws : List Jvm.Cond) (ob : Addr) (yy : Int64) (na : Addr) (ka : ClassId) (xa : Int64) (xb : Int64) (xc : Int64) (xd : Int64) (h0 : Heap) (n0 : Nat) (O0 : Old Z n0 h0) (E_o : Exa Z h0 ob "com/example/spillway/spillway/runtime/Latencies") (Fa : Fld Z h0 ob "com/example/spillway/spillway/runtime/Latencies" "nanos" "[J" (.ref na)) (Fb : Fld Z h0 ob "com/example/spillway/spillway/runtime/Latencies" "count" "I" (.int (3 : Int32))) (Va : Arv Z h0 na ka .long (256 : Int32) [(.long xa), (.long xb), (.long xc), (.long xd)] (.long (0 : Int64))) (g_o : n0 ≤ ob) (g_n : n0 ≤ na) (ne_on : ob ≠ na) :
    MetFree l (⟨"com/example/spillway/spillway/runtime/Latencies", "add", "(J)V"⟩ : MethodName) (head1 (Jvm.Cond.code (⟨"com/example/spillway/spillway/runtime/Latencies", "add", "(J)V"⟩ : MethodName) prog_18_method_2_code 3 none :: ws) ({ frames := 0, cells := 0, slots := 0, locals := 0 } : Room)) (fun ay U => ay = #[(.ref ob), (.long yy)] ∧ Z.Warmed39 U.vm ∧ U.heap = h0) (fun _ _ _ _ _ => True) (fun _ U o U' => ∃ v L, o = .returned v ∧ Q3_3 Z ob yy na ka xa xb xc xd h0 n0 v U'.heap L ∧ FrameEnd U o U' L ({ frames := 0, cells := 0, slots := 0, locals := 0 } : Room).cells ({ frames := 0, cells := 0, slots := 0, locals := 0 } : Room).slots) := by
  refine MetFree.of_bodySF (plainFor_of_name pn_com_example_spillway_spillway_runtime_Latencies) hisR ?_
  intro p e s m args below meth c s₁ Bd hml0 hP hK
  obtain ⟨rfl, hZ, hh⟩ := hP
  have hx := Bd.exec
  have hby := Bd.bytes
  have hlk : meth.locks = false := BodyLoose.notSynchronized Bd
  have hml : c.maxLocals = 3 := hml0
  have hown : s.vm.findClass "com/example/spillway/spillway/runtime/Latencies" = some m.cls := findClass_of_methodNamed Bd.named
  have hnm := (name_of_methodNamed Bd.named Bd.method).1
  have X0 : Stand p l e ({ frames := 0, cells := 0, slots := 0, locals := 0 } : Room) s m #[(.ref ob), (.long yy)] below meth c s₁ [] 0 0 := Stand.of_body Bd
  have e0 : s₁.heap = h0 := by rw [← hh, Bd.state]; rfl
  have N0 := Fr.nil n0
  suffices hgo : Go p e below s 0 0 (Q3_3 Z ob yy na ka xa xb xc xd h0 n0) (s₁.setTop (mkF m 0 #[.val (.ref ob), .val (.long yy), .second] [])) by
    obtain ⟨t, o, h1, h2⟩ := hgo; exact ⟨t, o, castTop (ef_rm3_3 m ob yy) h1, h2⟩
  show Go p e below s _ _ _ (s₁.setTop (mkF m 0 #[.val (.ref ob), .val (.long yy), .second] []))
  refine Go.st (fun _ k' => XS.aloadN X0.here hx rfl (hb hby d3_0) rfl rfl k') ?_
  show Go p e below s _ _ _ (s₁.setTop (mkF m 1 #[.val (.ref ob), .val (.long yy), .second] [(.ref ob)]))
  obtain ⟨T1, X1, e1, st1⟩ := getF X0 hx hZ hown (host := "") (Or.inl (wdx hw 17 rfl)) Via.refl e0 Fb (g := (mkF m 1 #[.val (.ref ob), .val (.long yy), .second] [(.ref ob)])) rfl rfl (hb hby d3_1)
  refine Go.st st1 ?_
  show Go p e below s _ _ _ (T1.setTop (mkF m 4 #[.val (.ref ob), .val (.long yy), .second] [(.int (3 : Int32))]))
  refine Go.st (fun _ k' => XS.aloadN X1.here hx rfl (hb hby d3_4) rfl rfl k') ?_
  show Go p e below s _ _ _ (T1.setTop (mkF m 5 #[.val (.ref ob), .val (.long yy), .second] [(.ref ob), (.int (3 : Int32))]))
  obtain ⟨T2, X2, e2, st2⟩ := getF X1 hx hZ hown (host := "") (Or.inl (wdx hw 10 rfl)) Via.refl e1 Fa (g := (mkF m 5 #[.val (.ref ob), .val (.long yy), .second] [(.ref ob), (.int (3 : Int32))])) rfl rfl (hb hby d3_5)
  refine Go.st st2 ?_
  show Go p e below s _ _ _ (T2.setTop (mkF m 8 #[.val (.ref ob), .val (.long yy), .second] [(.ref na), (.int (3 : Int32))]))
  obtain ⟨cl3, Ar3, qc3, Sz3, Nn3, Ha3, Gf3⟩ := id Va
  refine Go.st (fun _ k' => X2.arraylength hx (by rw [e2]; exact Ar3.1) (State.isArrayOf_alike hZ.alike Ar3.2.1) (g := (mkF m 8 #[.val (.ref ob), .val (.long yy), .second] [(.ref na), (.int (3 : Int32))])) rfl rfl (hb hby d3_8) _ k') ?_
  rw [len_of Sz3 Nn3]
  show Go p e below s _ _ _ (T2.setTop (mkF m 9 #[.val (.ref ob), .val (.long yy), .second] [(.int (256 : Int32)), (.int (3 : Int32))]))
  refine Go.st (fun _ k' => XS.icmpYes X2.here hx rfl (pc0 := 9) (pc' := 29) rfl (hb hby d3_9) rfl (XT.ii_ne_t (by decide)) (by decide) (by decide) k') ?_
  show Go p e below s _ _ _ (T2.setTop (mkF m 29 #[.val (.ref ob), .val (.long yy), .second] []))
  refine Go.st (fun _ k' => XS.aloadN X2.here hx rfl (hb hby d3_29) rfl rfl k') ?_
  show Go p e below s _ _ _ (T2.setTop (mkF m 30 #[.val (.ref ob), .val (.long yy), .second] [(.ref ob)]))
  obtain ⟨T4, X4, e4, st4⟩ := getF X2 hx hZ hown (host := "") (Or.inl (wdx hw 10 rfl)) Via.refl e2 Fa (g := (mkF m 30 #[.val (.ref ob), .val (.long yy), .second] [(.ref ob)])) rfl rfl (hb hby d3_30)
  refine Go.st st4 ?_
  show Go p e below s _ _ _ (T4.setTop (mkF m 33 #[.val (.ref ob), .val (.long yy), .second] [(.ref na)]))
  refine Go.st (fun _ k' => XS.aloadN X4.here hx rfl (hb hby d3_33) rfl rfl k') ?_
  show Go p e below s _ _ _ (T4.setTop (mkF m 34 #[.val (.ref ob), .val (.long yy), .second] [(.ref ob), (.ref na)]))
  obtain ⟨T5, X5, e5, st5⟩ := getF X4 hx hZ hown (host := "") (Or.inl (wdx hw 17 rfl)) Via.refl e4 Fb (g := (mkF m 34 #[.val (.ref ob), .val (.long yy), .second] [(.ref ob), (.ref na)])) rfl rfl (hb hby d3_34)
  refine Go.st st5 ?_
  show Go p e below s _ _ _ (T5.setTop (mkF m 37 #[.val (.ref ob), .val (.long yy), .second] [(.int (3 : Int32)), (.ref na)]))
  refine Go.st (fun _ k' => XS.lloadN X5.here hx rfl (hb hby d3_37) rfl k') ?_
  show Go p e below s _ _ _ (T5.setTop (mkF m 38 #[.val (.ref ob), .val (.long yy), .second] [(.long yy), (.int (3 : Int32)), (.ref na)]))
  obtain ⟨cl6, Ar6, qc6, Sz6, Nn6, Ha6, Gf6⟩ := id Va
  obtain ⟨T6, h6, X6, e6, W6, st6⟩ := stJ X5 hx hZ e5 Ar6 (j := (3 : Int32)) (inb_of Sz6 ⟨by decide, by decide⟩) (g := (mkF m 38 #[.val (.ref ob), .val (.long yy), .second] [(.long yy), (.int (3 : Int32)), (.ref na)])) rfl rfl (hb hby d3_38)
  refine Go.st st6 ?_
  have f8 : Exa Z h6 ob "com/example/spillway/spillway/runtime/Latencies" := E_o.wr W6
  have f9 : Fld Z h6 ob "com/example/spillway/spillway/runtime/Latencies" "nanos" "[J" (.ref na) := Fa.other W6 (Or.inl ne_on)
  have f10 : Fld Z h6 ob "com/example/spillway/spillway/runtime/Latencies" "count" "I" (.int (3 : Int32)) := Fb.other W6 (Or.inl ne_on)
  have O6 : Old Z n0 h6 := O0.wr W6 g_n
  have N6 := Fr.snoc X6 N0 g_n
  have K6 : Keep h0 h6 [ob, na] := (Keep.refl h0 [ob, na]).wr W6 (Or.inl (by simp))
  have f7 : Arv Z h6 na ka .long (256 : Int32) [(.long xa), (.long xb), (.long xc), (.long yy)] (.long (0 : Int64)) := Arv.set Ar6 qc6 Sz6 Nn6 Ha6 Gf6 rfl W6 3 rfl (Nat.le_of_ble_eq_true rfl)
  show Go p e below s _ _ _ (T6.setTop (mkF m 39 #[.val (.ref ob), .val (.long yy), .second] []))
  refine Go.st (fun _ k' => XS.aloadN X6.here hx rfl (hb hby d3_39) rfl rfl k') ?_
  show Go p e below s _ _ _ (T6.setTop (mkF m 40 #[.val (.ref ob), .val (.long yy), .second] [(.ref ob)]))
  refine Go.st (fun _ k' => XS.dup X6.here hx rfl (hb hby d3_40) rfl rfl k') ?_
  show Go p e below s _ _ _ (T6.setTop (mkF m 41 #[.val (.ref ob), .val (.long yy), .second] [(.ref ob), (.ref ob)]))
  obtain ⟨T11, X11, e11, st11⟩ := getF X6 hx hZ hown (host := "") (Or.inl (wdx hw 17 rfl)) Via.refl e6 f10 (g := (mkF m 41 #[.val (.ref ob), .val (.long yy), .second] [(.ref ob), (.ref ob)])) rfl rfl (hb hby d3_41)
  refine Go.st st11 ?_
  show Go p e below s _ _ _ (T11.setTop (mkF m 44 #[.val (.ref ob), .val (.long yy), .second] [(.int (3 : Int32)), (.ref ob)]))
  refine Go.st (fun _ k' => XS.iconst X11.here hx rfl (hb hby d3_44) k') ?_
  show Go p e below s _ _ _ (T11.setTop (mkF m 45 #[.val (.ref ob), .val (.long yy), .second] [(.int (1 : Int32)), (.int (3 : Int32)), (.ref ob)]))
  refine Go.st (fun _ k' => XS.iadd X11.here hx rfl (hb hby d3_45) rfl k') ?_
  show Go p e below s _ _ _ (T11.setTop (mkF m 46 #[.val (.ref ob), .val (.long yy), .second] [(.int (4 : Int32)), (.ref ob)]))
  obtain ⟨T12, h12, X12, e12, W12, st12⟩ := putF X11 hx hZ hown (host := "") (Or.inl (wdx hw 17 rfl)) Via.refl e11 f10 f8 (Or.inl (wdx hw 18 rfl)) (wdx hw 1 rfl) (ty := .int) (by decide) rfl rfl (g := (mkF m 46 #[.val (.ref ob), .val (.long yy), .second] [(.int (4 : Int32)), (.ref ob)])) rfl rfl (hb hby d3_46)
  refine Go.st st12 ?_
  have f13 : Exa Z h12 ob "com/example/spillway/spillway/runtime/Latencies" := f8.wr W12
  have f14 : Fld Z h12 ob "com/example/spillway/spillway/runtime/Latencies" "nanos" "[J" (.ref na) := f9.other W12 (Or.inr (slot_ne (Or.inl (wdx hw 11 rfl)) (Or.inl (wdx hw 18 rfl)) (by decide) (t := (.array .long)) (t' := .int) (by decide) (by decide)))
  have f15 : Fld Z h12 ob "com/example/spillway/spillway/runtime/Latencies" "count" "I" (.int (4 : Int32)) := f10.same W12
  have f16 : Arv Z h12 na ka .long (256 : Int32) [(.long xa), (.long xb), (.long xc), (.long yy)] (.long (0 : Int64)) := f7.other W12 (Ne.symm ne_on)
  have O12 : Old Z n0 h12 := O6.wr W12 g_o
  have N12 := Fr.snoc X12 N6 g_o
  have K12 : Keep h0 h12 [ob, na] := K6.wr W12 (Or.inl (by simp))
  show Go p e below s _ _ _ (T12.setTop (mkF m 49 #[.val (.ref ob), .val (.long yy), .second] []))
  refine Go.retV X12 hx hlk Bd.returns (hb hby d3_49) (by decide) (by decide) e12 ?_
  exact ⟨rfl, N12, K12, f14, f15, f16⟩
theorem pd___V : parseMethodDescriptor "()V" = some ⟨[], none⟩ := by decide +kernel
theorem pd____J : parseMethodDescriptor "()[J" = some ⟨[], some (.array .long)⟩ := by decide +kernel
theorem pd__J_V : parseMethodDescriptor "(J)V" = some ⟨[.long], none⟩ := by decide +kernel
theorem pn_com_example_spillway_spillway_runtime_LatenciesAddPinLaw : plainName "com/example/spillway/spillway/runtime/LatenciesAddPinLaw" = true := by first | (simp [plainName, overriddenIn]; done) | decide +kernel
theorem ef_rm0 (m : MethodId) (ya : Int64) (yb : Int64) (yc : Int64) (yd : Int64) (kk : Int32) : entryFrame m #[(.long ya), (.long yb), (.long yc), (.long yd), (.int kk)] maxLocals = mkF m 0 #[.val (.long ya), .second, .val (.long yb), .second, .val (.long yc), .second, .val (.long yd), .second, .val (.int kk), .unset, .unset, .unset, .unset] [] := by first | (simp [entryFrame, mkF, argsToLocals, Value.category, maxLocals]; done) | rfl
def Q0 (Z : State) (ya : Int64) (yb : Int64) (yc : Int64) (yd : Int64) (kk : Int32) (h0 : Heap) (n0 : Nat) (v : Option Value) (h : Heap) (L : List Loc) : Prop := v = some (.int (1 : Int32)) ∧ Fr n0 L ∧ True
set_option maxRecDepth 65536 in
set_option maxHeartbeats 40000000 in
theorem rm0 (l : Launch) (Z : State) (a0 : Array Value) (hw : ∀ d ∈ tables_1, d.before a0 Z = true) (ws : List Jvm.Cond) (ya : Int64) (yb : Int64) (yc : Int64) (yd : Int64) (kk : Int32) (h0 : Heap) (n0 : Nat) (O0 : Old Z n0 h0) :
    MetFree l x (head1 (Jvm.Cond.code x code maxLocals ret :: ws) room_1) (fun ay U => ay = #[(.long ya), (.long yb), (.long yc), (.long yd), (.int kk)] ∧ Z.Warmed39 U.vm ∧ U.heap = h0) (fun _ _ _ _ _ => True) (fun _ U o U' => ∃ v L, o = .returned v ∧ Q0 Z ya yb yc yd kk h0 n0 v U'.heap L ∧ FrameEnd U o U' L room_1.cells room_1.slots) := by
  refine MetFree.of_bodySF (plainFor_of_name pn_com_example_spillway_spillway_runtime_LatenciesAddPinLaw) hisR ?_
  intro p e s m args below meth c s₁ Bd hml0 hP hK
  obtain ⟨rfl, hZ, hh⟩ := hP
  have hx := Bd.exec
  have hby := Bd.bytes
  have hlk : meth.locks = false := BodyLoose.notSynchronized Bd
  have hml : c.maxLocals = 13 := hml0
  have hown : s.vm.findClass "com/example/spillway/spillway/runtime/LatenciesAddPinLaw" = some m.cls := findClass_of_methodNamed Bd.named
  have hnm := (name_of_methodNamed Bd.named Bd.method).1
  have X0 : Stand p l e room_1 s m #[(.long ya), (.long yb), (.long yc), (.long yd), (.int kk)] below meth c s₁ [] 0 0 := Stand.of_body Bd
  have e0 : s₁.heap = h0 := by rw [← hh, Bd.state]; rfl
  have N0 := Fr.nil n0
  suffices hgo : Go p e below s 16 640 (Q0 Z ya yb yc yd kk h0 n0) (s₁.setTop (mkF m 0 #[.val (.long ya), .second, .val (.long yb), .second, .val (.long yc), .second, .val (.long yd), .second, .val (.int kk), .unset, .unset, .unset, .unset] [])) by
    obtain ⟨t, o, h1, h2⟩ := hgo; exact ⟨t, o, castTop (ef_rm0 m ya yb yc yd kk) h1, h2⟩
  show Go p e below s _ _ _ (s₁.setTop (mkF m 0 #[.val (.long ya), .second, .val (.long yb), .second, .val (.long yc), .second, .val (.long yd), .second, .val (.int kk), .unset, .unset, .unset, .unset] []))
  refine Go.st (fun _ k' => XS.iload X0.here hx rfl (hb hby at_0) rfl k') ?_
  show Go p e below s _ _ _ (s₁.setTop (mkF m 2 #[.val (.long ya), .second, .val (.long yb), .second, .val (.long yc), .second, .val (.long yd), .second, .val (.int kk), .unset, .unset, .unset, .unset] [(.int kk)]))
  refine Go.st (fun _ k' => XS.iconst X0.here hx rfl (hb hby at_2) k') ?_
  show Go p e below s _ _ _ (s₁.setTop (mkF m 3 #[.val (.long ya), .second, .val (.long yb), .second, .val (.long yc), .second, .val (.long yd), .second, .val (.int kk), .unset, .unset, .unset, .unset] [(.int (3 : Int32)), (.int kk)]))
  refine Go.st (fun _ k' => XS.iand X0.here hx rfl (hb hby at_3) rfl k') ?_
  show Go p e below s _ _ _ (s₁.setTop (mkF m 4 #[.val (.long ya), .second, .val (.long yb), .second, .val (.long yc), .second, .val (.long yd), .second, .val (.int kk), .unset, .unset, .unset, .unset] [(.int (kk &&& (3 : Int32)))]))
  refine Go.st (fun _ k' => XS.istore X0.here hx rfl (hb hby at_4) rfl (l' := #[.val (.long ya), .second, .val (.long yb), .second, .val (.long yc), .second, .val (.long yd), .second, .val (.int kk), .val (.int (kk &&& (3 : Int32))), .unset, .unset, .unset]) rfl k') ?_
  show Go p e below s _ _ _ (s₁.setTop (mkF m 6 #[.val (.long ya), .second, .val (.long yb), .second, .val (.long yc), .second, .val (.long yd), .second, .val (.int kk), .val (.int (kk &&& (3 : Int32))), .unset, .unset, .unset] []))
  rcases own_c4 kk with hi | hi | hi | hi
  · rw [hi]
    show Go p e below s _ _ _ (s₁.setTop (mkF m 6 #[.val (.long ya), .second, .val (.long yb), .second, .val (.long yc), .second, .val (.long yd), .second, .val (.int kk), .val (.int (0 : Int32)), .unset, .unset, .unset] []))
    obtain ⟨T1, h1, X1, e1, E1, A1, D1, -, st1⟩ := newO X0 hx hZ hown (wdx hw 0 rfl) (wdx hw 1 rfl) (wdx hw 2 rfl) e0 (g := (mkF m 6 #[.val (.long ya), .second, .val (.long yb), .second, .val (.long yc), .second, .val (.long yd), .second, .val (.int kk), .val (.int (0 : Int32)), .unset, .unset, .unset] [])) rfl (hb hby at_6) (by decide) (by decide)
    obtain ⟨b1, g1⟩ : ∃ z, z = h0.size := ⟨_, rfl⟩
    rw [← g1] at A1 D1 st1
    refine Go.st st1 ?_
    have g_b1 : n0 ≤ b1 := Nat.le_trans (own_le O0) (Nat.le_of_eq g1.symm)
    have O1 : Old Z n0 h1 := O0.ext E1
    have f2 : Fld Z h1 b1 "com/example/spillway/spillway/runtime/Latencies" "nanos" "[J" .null := D1 (Or.inl (wdx hw 11 rfl)) (ty := (.array .long)) (by decide)
    have f3 : Fld Z h1 b1 "com/example/spillway/spillway/runtime/Latencies" "count" "I" (.int (0 : Int32)) := D1 (Or.inl (wdx hw 18 rfl)) (ty := .int) (by decide)
    show Go p e below s _ _ _ (T1.setTop (mkF m 9 #[.val (.long ya), .second, .val (.long yb), .second, .val (.long yc), .second, .val (.long yd), .second, .val (.int kk), .val (.int (0 : Int32)), .unset, .unset, .unset] [(.ref b1)]))
    refine Go.st (fun _ k' => XS.dup X1.here hx rfl (hb hby at_9) rfl rfl k') ?_
    show Go p e below s _ _ _ (T1.setTop (mkF m 10 #[.val (.long ya), .second, .val (.long yb), .second, .val (.long yc), .second, .val (.long yd), .second, .val (.int kk), .val (.int (0 : Int32)), .unset, .unset, .unset] [(.ref b1), (.ref b1)]))
    obtain ⟨_, _, ⟨T4, L4, k4, n4⟩, -, X4, ⟨Lc4, hQ4, l4, y4, z4⟩, st4⟩ := X1.specialBack hx (y := (⟨"com/example/spillway/spillway/runtime/Latencies", "<init>", "()V"⟩ : MethodName)) rfl hown (mvT hZ (wdx hw 3 rfl)) (mvT hZ (wdx hw 4 rfl)) (mvT hZ (wdx hw 5 rfl)) (by decide) (backOf (W := 1) (rm1 l Z a0 hw [] b1 h1 n0 O1 A1 f2 f3 g_b1) hZ (wdx hw 5 rfl) (wdx hw 2 rfl) (by decide) (by decide)) (g := (mkF m 10 #[.val (.long ya), .second, .val (.long yb), .second, .val (.long yc), .second, .val (.long yd), .second, .val (.int kk), .val (.int (0 : Int32)), .unset, .unset, .unset] [(.ref b1), (.ref b1)])) rfl (by rw [hml]; rfl) (Steps.refl _) (a := b1) (argsL := []) (rest := [(.ref b1)]) (lenOf pd___V rfl) rfl (by show 2 * 0 + _ ≤ _; exact Nat.le_of_eq rfl) (hb hby at_10) (fun _ _ => ⟨rfl, e1, (by exact Nat.le_of_ble_eq_true rfl), (by exact Nat.le_of_ble_eq_true rfl)⟩)
    dsimp only [Pt.U, Pt.locs, Pt.cells, Pt.slots] at X4 l4 y4 z4 st4 hQ4
    subst l4 y4 z4
    obtain ⟨na_4, kn_4, rfl, Nq4, Kq4, f5, f6, f7, szn_4⟩ := hQ4
    have N4 := Fr.app N0 Nq4
    refine Go.tr st4 ?_
    have f8 : Exa Z T4.heap b1 "com/example/spillway/spillway/runtime/Latencies" := A1.keep Kq4
    have O4 : Old Z n0 T4.heap := O1.keep Kq4 (allS g_b1 all0)
    have g_na_4 : n0 ≤ na_4 := Nat.le_trans (own_le O1) szn_4
    have ne9 : b1 ≠ na_4 := Nat.ne_of_lt (Nat.lt_of_lt_of_le A1.lt szn_4)
    show Go p e below s _ _ _ (T4.setTop (mkF m 13 #[.val (.long ya), .second, .val (.long yb), .second, .val (.long yc), .second, .val (.long yd), .second, .val (.int kk), .val (.int (0 : Int32)), .unset, .unset, .unset] [(.ref b1)]))
    refine Go.st (fun _ k' => XS.astore X4.here hx rfl (hb hby at_13) rfl rfl (l' := #[.val (.long ya), .second, .val (.long yb), .second, .val (.long yc), .second, .val (.long yd), .second, .val (.int kk), .val (.int (0 : Int32)), .val (.ref b1), .unset, .unset]) rfl k') ?_
    show Go p e below s _ _ _ (T4.setTop (mkF m 15 #[.val (.long ya), .second, .val (.long yb), .second, .val (.long yc), .second, .val (.long yd), .second, .val (.int kk), .val (.int (0 : Int32)), .val (.ref b1), .unset, .unset] []))
    refine Go.st (fun _ k' => XS.iload X4.here hx rfl (hb hby at_15) rfl k') ?_
    show Go p e below s _ _ _ (T4.setTop (mkF m 17 #[.val (.long ya), .second, .val (.long yb), .second, .val (.long yc), .second, .val (.long yd), .second, .val (.int kk), .val (.int (0 : Int32)), .val (.ref b1), .unset, .unset] [(.int (0 : Int32))]))
    refine Go.st (fun _ k' => XS.iconst X4.here hx rfl (hb hby at_17) k') ?_
    show Go p e below s _ _ _ (T4.setTop (mkF m 18 #[.val (.long ya), .second, .val (.long yb), .second, .val (.long yc), .second, .val (.long yd), .second, .val (.int kk), .val (.int (0 : Int32)), .val (.ref b1), .unset, .unset] [(.int (1 : Int32)), (.int (0 : Int32))]))
    refine Go.st (fun _ k' => XS.icmpYes X4.here hx rfl (pc0 := 18) (pc' := 27) rfl (hb hby at_18) rfl (XT.ii_lt_t (by decide)) (by decide) (by decide) k') ?_
    show Go p e below s _ _ _ (T4.setTop (mkF m 27 #[.val (.long ya), .second, .val (.long yb), .second, .val (.long yc), .second, .val (.long yd), .second, .val (.int kk), .val (.int (0 : Int32)), .val (.ref b1), .unset, .unset] []))
    refine Go.st (fun _ k' => XS.iload X4.here hx rfl (hb hby at_27) rfl k') ?_
    show Go p e below s _ _ _ (T4.setTop (mkF m 29 #[.val (.long ya), .second, .val (.long yb), .second, .val (.long yc), .second, .val (.long yd), .second, .val (.int kk), .val (.int (0 : Int32)), .val (.ref b1), .unset, .unset] [(.int (0 : Int32))]))
    refine Go.st (fun _ k' => XS.iconst X4.here hx rfl (hb hby at_29) k') ?_
    show Go p e below s _ _ _ (T4.setTop (mkF m 30 #[.val (.long ya), .second, .val (.long yb), .second, .val (.long yc), .second, .val (.long yd), .second, .val (.int kk), .val (.int (0 : Int32)), .val (.ref b1), .unset, .unset] [(.int (2 : Int32)), (.int (0 : Int32))]))
    refine Go.st (fun _ k' => XS.icmpYes X4.here hx rfl (pc0 := 30) (pc' := 39) rfl (hb hby at_30) rfl (XT.ii_lt_t (by decide)) (by decide) (by decide) k') ?_
    show Go p e below s _ _ _ (T4.setTop (mkF m 39 #[.val (.long ya), .second, .val (.long yb), .second, .val (.long yc), .second, .val (.long yd), .second, .val (.int kk), .val (.int (0 : Int32)), .val (.ref b1), .unset, .unset] []))
    refine Go.st (fun _ k' => XS.iload X4.here hx rfl (hb hby at_39) rfl k') ?_
    show Go p e below s _ _ _ (T4.setTop (mkF m 41 #[.val (.long ya), .second, .val (.long yb), .second, .val (.long yc), .second, .val (.long yd), .second, .val (.int kk), .val (.int (0 : Int32)), .val (.ref b1), .unset, .unset] [(.int (0 : Int32))]))
    refine Go.st (fun _ k' => XS.iconst X4.here hx rfl (hb hby at_41) k') ?_
    show Go p e below s _ _ _ (T4.setTop (mkF m 42 #[.val (.long ya), .second, .val (.long yb), .second, .val (.long yc), .second, .val (.long yd), .second, .val (.int kk), .val (.int (0 : Int32)), .val (.ref b1), .unset, .unset] [(.int (3 : Int32)), (.int (0 : Int32))]))
    refine Go.st (fun _ k' => XS.icmpYes X4.here hx rfl (pc0 := 42) (pc' := 52) rfl (hb hby at_42) rfl (XT.ii_lt_t (by decide)) (by decide) (by decide) k') ?_
    show Go p e below s _ _ _ (T4.setTop (mkF m 52 #[.val (.long ya), .second, .val (.long yb), .second, .val (.long yc), .second, .val (.long yd), .second, .val (.int kk), .val (.int (0 : Int32)), .val (.ref b1), .unset, .unset] []))
    refine Go.st (fun _ k' => XS.aload X4.here hx rfl (hb hby at_52) rfl rfl k') ?_
    show Go p e below s _ _ _ (T4.setTop (mkF m 54 #[.val (.long ya), .second, .val (.long yb), .second, .val (.long yc), .second, .val (.long yd), .second, .val (.int kk), .val (.int (0 : Int32)), .val (.ref b1), .unset, .unset] [(.ref b1)]))
    obtain ⟨cq10, kq10, q10a, q10b, q10c⟩ := isOf hZ rfl f8
    obtain ⟨_, _, ⟨T10, L10, k10, n10⟩, -, X10, ⟨Lc10, hQ10, l10, y10, z10⟩, st10⟩ := X4.virtualBack hx (y := (⟨"com/example/spillway/spillway/runtime/Latencies", "toArray", "()[J"⟩ : MethodName)) (z := (⟨"com/example/spillway/spillway/runtime/Latencies", "toArray", "()[J"⟩ : MethodName)) hown (mvT hZ (wdx hw 19 rfl)) (mvT hZ (wdx hw 20 rfl)) (notFace_of_selects (args := #[]) (mvT hZ (wdx hw 22 rfl))) (mvT hZ (wdx hw 22 rfl)) (mvT hZ (wdx hw 21 rfl)) (by decide) (backOf (W := 0) (rm4_0 l Z a0 hw [] b1 na_4 kn_4 (0 : Int64) (0 : Int64) (0 : Int64) (0 : Int64) T4.heap n0 O4 f5 f6 f7) hZ (wdx hw 23 rfl) (wdx hw 2 rfl) (by decide) (by decide)) q10a q10c (g := (mkF m 54 #[.val (.long ya), .second, .val (.long yb), .second, .val (.long yc), .second, .val (.long yd), .second, .val (.int kk), .val (.int (0 : Int32)), .val (.ref b1), .unset, .unset] [(.ref b1)])) rfl (by rw [hml]; rfl) (Steps.refl _) (argsL := []) (rest := []) (lenOf pd____J rfl) rfl (by show 2 * 0 + _ ≤ _; exact Nat.le_of_eq rfl) (hb hby at_54) (fun _ _ => ⟨rfl, rfl, (by exact Nat.le_of_ble_eq_true rfl), (by exact Nat.le_of_ble_eq_true rfl)⟩)
    dsimp only [Pt.U, Pt.locs, Pt.cells, Pt.slots] at X10 l10 y10 z10 st10 hQ10
    subst l10 y10 z10
    obtain ⟨rr_10, kr_10, rfl, Nq10, Kq10, f11, szr_10⟩ := hQ10
    have N10 := Fr.app N4 Nq10
    refine Go.tr st10 ?_
    have f12 : Exa Z T10.heap b1 "com/example/spillway/spillway/runtime/Latencies" := f8.keep Kq10
    have f13 : Fld Z T10.heap b1 "com/example/spillway/spillway/runtime/Latencies" "nanos" "[J" (.ref na_4) := f5.keep Kq10 nin0
    have f14 : Fld Z T10.heap b1 "com/example/spillway/spillway/runtime/Latencies" "count" "I" (.int (0 : Int32)) := f6.keep Kq10 nin0
    have f15 : Arv Z T10.heap na_4 kn_4 .long (256 : Int32) [(.long (0 : Int64)), (.long (0 : Int64)), (.long (0 : Int64)), (.long (0 : Int64))] (.long (0 : Int64)) := f7.keep Kq10 nin0
    have O10 : Old Z n0 T10.heap := O4.keep Kq10 all0
    have g_rr_10 : n0 ≤ rr_10 := Nat.le_trans (own_le O4) szr_10
    have ne16 : b1 ≠ rr_10 := Nat.ne_of_lt (Nat.lt_of_lt_of_le f8.lt szr_10)
    have ne17 : na_4 ≠ rr_10 := Nat.ne_of_lt (Nat.lt_of_lt_of_le f7.lt szr_10)
    show Go p e below s _ _ _ (T10.setTop (mkF m 57 #[.val (.long ya), .second, .val (.long yb), .second, .val (.long yc), .second, .val (.long yd), .second, .val (.int kk), .val (.int (0 : Int32)), .val (.ref b1), .unset, .unset] [(.ref rr_10)]))
    refine Go.st (fun _ k' => XS.astore X10.here hx rfl (hb hby at_57) rfl rfl (l' := #[.val (.long ya), .second, .val (.long yb), .second, .val (.long yc), .second, .val (.long yd), .second, .val (.int kk), .val (.int (0 : Int32)), .val (.ref b1), .val (.ref rr_10), .unset]) rfl k') ?_
    show Go p e below s _ _ _ (T10.setTop (mkF m 59 #[.val (.long ya), .second, .val (.long yb), .second, .val (.long yc), .second, .val (.long yd), .second, .val (.int kk), .val (.int (0 : Int32)), .val (.ref b1), .val (.ref rr_10), .unset] []))
    refine Go.st (fun _ k' => XS.aload X10.here hx rfl (hb hby at_59) rfl rfl k') ?_
    show Go p e below s _ _ _ (T10.setTop (mkF m 61 #[.val (.long ya), .second, .val (.long yb), .second, .val (.long yc), .second, .val (.long yd), .second, .val (.int kk), .val (.int (0 : Int32)), .val (.ref b1), .val (.ref rr_10), .unset] [(.ref rr_10)]))
    obtain ⟨cl18, Ar18, qc18, Sz18, Nn18, Ha18, Gf18⟩ := id f11
    refine Go.st (fun _ k' => X10.arraylength hx Ar18.1 (State.isArrayOf_alike hZ.alike Ar18.2.1) (g := (mkF m 61 #[.val (.long ya), .second, .val (.long yb), .second, .val (.long yc), .second, .val (.long yd), .second, .val (.int kk), .val (.int (0 : Int32)), .val (.ref b1), .val (.ref rr_10), .unset] [(.ref rr_10)])) rfl rfl (hb hby at_61) _ k') ?_
    rw [len_of Sz18 Nn18]
    show Go p e below s _ _ _ (T10.setTop (mkF m 62 #[.val (.long ya), .second, .val (.long yb), .second, .val (.long yc), .second, .val (.long yd), .second, .val (.int kk), .val (.int (0 : Int32)), .val (.ref b1), .val (.ref rr_10), .unset] [(.int (0 : Int32))]))
    refine Go.st (fun _ k' => XS.iload X10.here hx rfl (hb hby at_62) rfl k') ?_
    show Go p e below s _ _ _ (T10.setTop (mkF m 64 #[.val (.long ya), .second, .val (.long yb), .second, .val (.long yc), .second, .val (.long yd), .second, .val (.int kk), .val (.int (0 : Int32)), .val (.ref b1), .val (.ref rr_10), .unset] [(.int (0 : Int32)), (.int (0 : Int32))]))
    refine Go.st (fun _ k' => XS.icmpYes X10.here hx rfl (pc0 := 64) (pc' := 69) rfl (hb hby at_64) rfl (XT.ii_eq_t (by decide)) (by decide) (by decide) k') ?_
    show Go p e below s _ _ _ (T10.setTop (mkF m 69 #[.val (.long ya), .second, .val (.long yb), .second, .val (.long yc), .second, .val (.long yd), .second, .val (.int kk), .val (.int (0 : Int32)), .val (.ref b1), .val (.ref rr_10), .unset] []))
    refine Go.st (fun _ k' => XS.iload X10.here hx rfl (hb hby at_69) rfl k') ?_
    show Go p e below s _ _ _ (T10.setTop (mkF m 71 #[.val (.long ya), .second, .val (.long yb), .second, .val (.long yc), .second, .val (.long yd), .second, .val (.int kk), .val (.int (0 : Int32)), .val (.ref b1), .val (.ref rr_10), .unset] [(.int (0 : Int32))]))
    refine Go.st (fun _ k' => XS.iconst X10.here hx rfl (hb hby at_71) k') ?_
    show Go p e below s _ _ _ (T10.setTop (mkF m 72 #[.val (.long ya), .second, .val (.long yb), .second, .val (.long yc), .second, .val (.long yd), .second, .val (.int kk), .val (.int (0 : Int32)), .val (.ref b1), .val (.ref rr_10), .unset] [(.int (1 : Int32)), (.int (0 : Int32))]))
    refine Go.st (fun _ k' => XS.icmpYes X10.here hx rfl (pc0 := 72) (pc' := 86) rfl (hb hby at_72) rfl (XT.ii_lt_t (by decide)) (by decide) (by decide) k') ?_
    show Go p e below s _ _ _ (T10.setTop (mkF m 86 #[.val (.long ya), .second, .val (.long yb), .second, .val (.long yc), .second, .val (.long yd), .second, .val (.int kk), .val (.int (0 : Int32)), .val (.ref b1), .val (.ref rr_10), .unset] []))
    refine Go.st (fun _ k' => XS.iload X10.here hx rfl (hb hby at_86) rfl k') ?_
    show Go p e below s _ _ _ (T10.setTop (mkF m 88 #[.val (.long ya), .second, .val (.long yb), .second, .val (.long yc), .second, .val (.long yd), .second, .val (.int kk), .val (.int (0 : Int32)), .val (.ref b1), .val (.ref rr_10), .unset] [(.int (0 : Int32))]))
    refine Go.st (fun _ k' => XS.iconst X10.here hx rfl (hb hby at_88) k') ?_
    show Go p e below s _ _ _ (T10.setTop (mkF m 89 #[.val (.long ya), .second, .val (.long yb), .second, .val (.long yc), .second, .val (.long yd), .second, .val (.int kk), .val (.int (0 : Int32)), .val (.ref b1), .val (.ref rr_10), .unset] [(.int (2 : Int32)), (.int (0 : Int32))]))
    refine Go.st (fun _ k' => XS.icmpYes X10.here hx rfl (pc0 := 89) (pc' := 103) rfl (hb hby at_89) rfl (XT.ii_lt_t (by decide)) (by decide) (by decide) k') ?_
    show Go p e below s _ _ _ (T10.setTop (mkF m 103 #[.val (.long ya), .second, .val (.long yb), .second, .val (.long yc), .second, .val (.long yd), .second, .val (.int kk), .val (.int (0 : Int32)), .val (.ref b1), .val (.ref rr_10), .unset] []))
    refine Go.st (fun _ k' => XS.iload X10.here hx rfl (hb hby at_103) rfl k') ?_
    show Go p e below s _ _ _ (T10.setTop (mkF m 105 #[.val (.long ya), .second, .val (.long yb), .second, .val (.long yc), .second, .val (.long yd), .second, .val (.int kk), .val (.int (0 : Int32)), .val (.ref b1), .val (.ref rr_10), .unset] [(.int (0 : Int32))]))
    refine Go.st (fun _ k' => XS.iconst X10.here hx rfl (hb hby at_105) k') ?_
    show Go p e below s _ _ _ (T10.setTop (mkF m 106 #[.val (.long ya), .second, .val (.long yb), .second, .val (.long yc), .second, .val (.long yd), .second, .val (.int kk), .val (.int (0 : Int32)), .val (.ref b1), .val (.ref rr_10), .unset] [(.int (3 : Int32)), (.int (0 : Int32))]))
    refine Go.st (fun _ k' => XS.icmpYes X10.here hx rfl (pc0 := 106) (pc' := 121) rfl (hb hby at_106) rfl (XT.ii_lt_t (by decide)) (by decide) (by decide) k') ?_
    show Go p e below s _ _ _ (T10.setTop (mkF m 121 #[.val (.long ya), .second, .val (.long yb), .second, .val (.long yc), .second, .val (.long yd), .second, .val (.int kk), .val (.int (0 : Int32)), .val (.ref b1), .val (.ref rr_10), .unset] []))
    refine Go.st (fun _ k' => XS.aload X10.here hx rfl (hb hby at_121) rfl rfl k') ?_
    show Go p e below s _ _ _ (T10.setTop (mkF m 123 #[.val (.long ya), .second, .val (.long yb), .second, .val (.long yc), .second, .val (.long yd), .second, .val (.int kk), .val (.int (0 : Int32)), .val (.ref b1), .val (.ref rr_10), .unset] [(.ref b1)]))
    refine Go.st (fun _ k' => XS.lload X10.here hx rfl (hb hby at_123) rfl k') ?_
    show Go p e below s _ _ _ (T10.setTop (mkF m 125 #[.val (.long ya), .second, .val (.long yb), .second, .val (.long yc), .second, .val (.long yd), .second, .val (.int kk), .val (.int (0 : Int32)), .val (.ref b1), .val (.ref rr_10), .unset] [(.long yd), (.ref b1)]))
    obtain ⟨cq19, kq19, q19a, q19b, q19c⟩ := isOf hZ rfl f12
    obtain ⟨_, _, ⟨T19, L19, k19, n19⟩, -, X19, ⟨Lc19, hQ19, l19, y19, z19⟩, st19⟩ := X10.virtualBack hx (y := (⟨"com/example/spillway/spillway/runtime/Latencies", "add", "(J)V"⟩ : MethodName)) (z := (⟨"com/example/spillway/spillway/runtime/Latencies", "add", "(J)V"⟩ : MethodName)) hown (mvT hZ (wdx hw 12 rfl)) (mvT hZ (wdx hw 13 rfl)) (notFace_of_selects (args := #[]) (mvT hZ (wdx hw 15 rfl))) (mvT hZ (wdx hw 15 rfl)) (mvT hZ (wdx hw 14 rfl)) (by decide) (backOf (W := 0) (rm3_0 l Z a0 hw [] b1 yd na_4 kn_4 (0 : Int64) (0 : Int64) (0 : Int64) (0 : Int64) T10.heap n0 O10 f12 f13 f14 f15 g_b1 g_na_4 ne9) hZ (wdx hw 16 rfl) (wdx hw 2 rfl) (by decide) (by decide)) q19a q19c (g := (mkF m 125 #[.val (.long ya), .second, .val (.long yb), .second, .val (.long yc), .second, .val (.long yd), .second, .val (.int kk), .val (.int (0 : Int32)), .val (.ref b1), .val (.ref rr_10), .unset] [(.long yd), (.ref b1)])) rfl (by rw [hml]; rfl) (Steps.refl _) (argsL := [(.long yd)]) (rest := []) (lenOf pd__J_V rfl) rfl (by show 2 * 0 + _ ≤ _; exact Nat.le_of_eq rfl) (hb hby at_125) (fun _ _ => ⟨rfl, rfl, (by exact Nat.le_of_ble_eq_true rfl), (by exact Nat.le_of_ble_eq_true rfl)⟩)
    dsimp only [Pt.U, Pt.locs, Pt.cells, Pt.slots] at X19 l19 y19 z19 st19 hQ19
    subst l19 y19 z19
    obtain ⟨rfl, Nq19, Kq19, f20, f21, f22⟩ := hQ19
    have N19 := Fr.app N10 Nq19
    refine Go.tr st19 ?_
    have f23 : Exa Z T19.heap b1 "com/example/spillway/spillway/runtime/Latencies" := f12.keep Kq19
    have f24 : Arv Z T19.heap rr_10 kr_10 .long (0 : Int32) [] (.long (0 : Int64)) := f11.keep Kq19 (ninS (Ne.symm ne16) (ninS (Ne.symm ne17) nin0))
    have O19 : Old Z n0 T19.heap := O10.keep Kq19 (allS g_b1 (allS g_na_4 all0))
    show Go p e below s _ _ _ (T19.setTop (mkF m 128 #[.val (.long ya), .second, .val (.long yb), .second, .val (.long yc), .second, .val (.long yd), .second, .val (.int kk), .val (.int (0 : Int32)), .val (.ref b1), .val (.ref rr_10), .unset] []))
    refine Go.st (fun _ k' => XS.aload X19.here hx rfl (hb hby at_128) rfl rfl k') ?_
    show Go p e below s _ _ _ (T19.setTop (mkF m 130 #[.val (.long ya), .second, .val (.long yb), .second, .val (.long yc), .second, .val (.long yd), .second, .val (.int kk), .val (.int (0 : Int32)), .val (.ref b1), .val (.ref rr_10), .unset] [(.ref b1)]))
    obtain ⟨cq25, kq25, q25a, q25b, q25c⟩ := isOf hZ rfl f23
    obtain ⟨_, _, ⟨T25, L25, k25, n25⟩, -, X25, ⟨Lc25, hQ25, l25, y25, z25⟩, st25⟩ := X19.virtualBack hx (y := (⟨"com/example/spillway/spillway/runtime/Latencies", "toArray", "()[J"⟩ : MethodName)) (z := (⟨"com/example/spillway/spillway/runtime/Latencies", "toArray", "()[J"⟩ : MethodName)) hown (mvT hZ (wdx hw 19 rfl)) (mvT hZ (wdx hw 20 rfl)) (notFace_of_selects (args := #[]) (mvT hZ (wdx hw 22 rfl))) (mvT hZ (wdx hw 22 rfl)) (mvT hZ (wdx hw 21 rfl)) (by decide) (backOf (W := 0) (rm4_1 l Z a0 hw [] b1 na_4 kn_4 yd (0 : Int64) (0 : Int64) (0 : Int64) T19.heap n0 O19 f20 f21 f22) hZ (wdx hw 23 rfl) (wdx hw 2 rfl) (by decide) (by decide)) q25a q25c (g := (mkF m 130 #[.val (.long ya), .second, .val (.long yb), .second, .val (.long yc), .second, .val (.long yd), .second, .val (.int kk), .val (.int (0 : Int32)), .val (.ref b1), .val (.ref rr_10), .unset] [(.ref b1)])) rfl (by rw [hml]; rfl) (Steps.refl _) (argsL := []) (rest := []) (lenOf pd____J rfl) rfl (by show 2 * 0 + _ ≤ _; exact Nat.le_of_eq rfl) (hb hby at_130) (fun _ _ => ⟨rfl, rfl, (by exact Nat.le_of_ble_eq_true rfl), (by exact Nat.le_of_ble_eq_true rfl)⟩)
    dsimp only [Pt.U, Pt.locs, Pt.cells, Pt.slots] at X25 l25 y25 z25 st25 hQ25
    subst l25 y25 z25
    obtain ⟨rr_25, kr_25, rfl, Nq25, Kq25, f26, szr_25⟩ := hQ25
    have N25 := Fr.app N19 Nq25
    refine Go.tr st25 ?_
    have f27 : Exa Z T25.heap b1 "com/example/spillway/spillway/runtime/Latencies" := f23.keep Kq25
    have f28 : Arv Z T25.heap rr_10 kr_10 .long (0 : Int32) [] (.long (0 : Int64)) := f24.keep Kq25 nin0
    have f29 : Fld Z T25.heap b1 "com/example/spillway/spillway/runtime/Latencies" "nanos" "[J" (.ref na_4) := f20.keep Kq25 nin0
    have f30 : Fld Z T25.heap b1 "com/example/spillway/spillway/runtime/Latencies" "count" "I" (.int (1 : Int32)) := f21.keep Kq25 nin0
    have f31 : Arv Z T25.heap na_4 kn_4 .long (256 : Int32) [(.long yd), (.long (0 : Int64)), (.long (0 : Int64)), (.long (0 : Int64))] (.long (0 : Int64)) := f22.keep Kq25 nin0
    have O25 : Old Z n0 T25.heap := O19.keep Kq25 all0
    have g_rr_25 : n0 ≤ rr_25 := Nat.le_trans (own_le O19) szr_25
    have ne32 : b1 ≠ rr_25 := Nat.ne_of_lt (Nat.lt_of_lt_of_le f23.lt szr_25)
    have ne33 : rr_10 ≠ rr_25 := Nat.ne_of_lt (Nat.lt_of_lt_of_le f24.lt szr_25)
    have ne34 : na_4 ≠ rr_25 := Nat.ne_of_lt (Nat.lt_of_lt_of_le f22.lt szr_25)
    show Go p e below s _ _ _ (T25.setTop (mkF m 133 #[.val (.long ya), .second, .val (.long yb), .second, .val (.long yc), .second, .val (.long yd), .second, .val (.int kk), .val (.int (0 : Int32)), .val (.ref b1), .val (.ref rr_10), .unset] [(.ref rr_25)]))
    refine Go.st (fun _ k' => XS.astore X25.here hx rfl (hb hby at_133) rfl rfl (l' := #[.val (.long ya), .second, .val (.long yb), .second, .val (.long yc), .second, .val (.long yd), .second, .val (.int kk), .val (.int (0 : Int32)), .val (.ref b1), .val (.ref rr_10), .val (.ref rr_25)]) rfl k') ?_
    show Go p e below s _ _ _ (T25.setTop (mkF m 135 #[.val (.long ya), .second, .val (.long yb), .second, .val (.long yc), .second, .val (.long yd), .second, .val (.int kk), .val (.int (0 : Int32)), .val (.ref b1), .val (.ref rr_10), .val (.ref rr_25)] []))
    refine Go.st (fun _ k' => XS.aload X25.here hx rfl (hb hby at_135) rfl rfl k') ?_
    show Go p e below s _ _ _ (T25.setTop (mkF m 137 #[.val (.long ya), .second, .val (.long yb), .second, .val (.long yc), .second, .val (.long yd), .second, .val (.int kk), .val (.int (0 : Int32)), .val (.ref b1), .val (.ref rr_10), .val (.ref rr_25)] [(.ref rr_25)]))
    obtain ⟨cl35, Ar35, qc35, Sz35, Nn35, Ha35, Gf35⟩ := id f26
    refine Go.st (fun _ k' => X25.arraylength hx Ar35.1 (State.isArrayOf_alike hZ.alike Ar35.2.1) (g := (mkF m 137 #[.val (.long ya), .second, .val (.long yb), .second, .val (.long yc), .second, .val (.long yd), .second, .val (.int kk), .val (.int (0 : Int32)), .val (.ref b1), .val (.ref rr_10), .val (.ref rr_25)] [(.ref rr_25)])) rfl rfl (hb hby at_137) _ k') ?_
    rw [len_of Sz35 Nn35]
    show Go p e below s _ _ _ (T25.setTop (mkF m 138 #[.val (.long ya), .second, .val (.long yb), .second, .val (.long yc), .second, .val (.long yd), .second, .val (.int kk), .val (.int (0 : Int32)), .val (.ref b1), .val (.ref rr_10), .val (.ref rr_25)] [(.int (1 : Int32))]))
    refine Go.st (fun _ k' => XS.iload X25.here hx rfl (hb hby at_138) rfl k') ?_
    show Go p e below s _ _ _ (T25.setTop (mkF m 140 #[.val (.long ya), .second, .val (.long yb), .second, .val (.long yc), .second, .val (.long yd), .second, .val (.int kk), .val (.int (0 : Int32)), .val (.ref b1), .val (.ref rr_10), .val (.ref rr_25)] [(.int (0 : Int32)), (.int (1 : Int32))]))
    refine Go.st (fun _ k' => XS.iconst X25.here hx rfl (hb hby at_140) k') ?_
    show Go p e below s _ _ _ (T25.setTop (mkF m 141 #[.val (.long ya), .second, .val (.long yb), .second, .val (.long yc), .second, .val (.long yd), .second, .val (.int kk), .val (.int (0 : Int32)), .val (.ref b1), .val (.ref rr_10), .val (.ref rr_25)] [(.int (1 : Int32)), (.int (0 : Int32)), (.int (1 : Int32))]))
    refine Go.st (fun _ k' => XS.iadd X25.here hx rfl (hb hby at_141) rfl k') ?_
    show Go p e below s _ _ _ (T25.setTop (mkF m 142 #[.val (.long ya), .second, .val (.long yb), .second, .val (.long yc), .second, .val (.long yd), .second, .val (.int kk), .val (.int (0 : Int32)), .val (.ref b1), .val (.ref rr_10), .val (.ref rr_25)] [(.int (1 : Int32)), (.int (1 : Int32))]))
    refine Go.st (fun _ k' => XS.icmpYes X25.here hx rfl (pc0 := 142) (pc' := 147) rfl (hb hby at_142) rfl (XT.ii_eq_t (by decide)) (by decide) (by decide) k') ?_
    show Go p e below s _ _ _ (T25.setTop (mkF m 147 #[.val (.long ya), .second, .val (.long yb), .second, .val (.long yc), .second, .val (.long yd), .second, .val (.int kk), .val (.int (0 : Int32)), .val (.ref b1), .val (.ref rr_10), .val (.ref rr_25)] []))
    refine Go.st (fun _ k' => XS.aload X25.here hx rfl (hb hby at_147) rfl rfl k') ?_
    show Go p e below s _ _ _ (T25.setTop (mkF m 149 #[.val (.long ya), .second, .val (.long yb), .second, .val (.long yc), .second, .val (.long yd), .second, .val (.int kk), .val (.int (0 : Int32)), .val (.ref b1), .val (.ref rr_10), .val (.ref rr_25)] [(.ref rr_25)]))
    refine Go.st (fun _ k' => XS.iload X25.here hx rfl (hb hby at_149) rfl k') ?_
    show Go p e below s _ _ _ (T25.setTop (mkF m 151 #[.val (.long ya), .second, .val (.long yb), .second, .val (.long yc), .second, .val (.long yd), .second, .val (.int kk), .val (.int (0 : Int32)), .val (.ref b1), .val (.ref rr_10), .val (.ref rr_25)] [(.int (0 : Int32)), (.ref rr_25)]))
    obtain ⟨cl36, Ar36, qc36, Sz36, Nn36, Ha36, Gf36⟩ := id f26
    refine Go.st (fun _ k' => X25.laload hx (j := (0 : Int32)) (v := (.long yd)) Ar36.1 (State.isArrayOf_alike hZ.alike Ar36.2.1) Ar36.2.2 (inb_of Sz36 ⟨by decide, by decide⟩) (Ha36.at (inb_of Sz36 ⟨by decide, by decide⟩) rfl) (g := (mkF m 151 #[.val (.long ya), .second, .val (.long yb), .second, .val (.long yc), .second, .val (.long yd), .second, .val (.int kk), .val (.int (0 : Int32)), .val (.ref b1), .val (.ref rr_10), .val (.ref rr_25)] [(.int (0 : Int32)), (.ref rr_25)])) rfl rfl (hb hby at_151) _ k') ?_
    show Go p e below s _ _ _ (T25.setTop (mkF m 152 #[.val (.long ya), .second, .val (.long yb), .second, .val (.long yc), .second, .val (.long yd), .second, .val (.int kk), .val (.int (0 : Int32)), .val (.ref b1), .val (.ref rr_10), .val (.ref rr_25)] [(.long yd)]))
    refine Go.st (fun _ k' => XS.lload X25.here hx rfl (hb hby at_152) rfl k') ?_
    show Go p e below s _ _ _ (T25.setTop (mkF m 154 #[.val (.long ya), .second, .val (.long yb), .second, .val (.long yc), .second, .val (.long yd), .second, .val (.int kk), .val (.int (0 : Int32)), .val (.ref b1), .val (.ref rr_10), .val (.ref rr_25)] [(.long yd), (.long yd)]))
    refine Go.st (fun _ k' => XT.lcmp X25.here hx rfl (hb hby at_154) rfl k') ?_
    show Go p e below s _ _ _ (T25.setTop (mkF m 155 #[.val (.long ya), .second, .val (.long yb), .second, .val (.long yc), .second, .val (.long yd), .second, .val (.int kk), .val (.int (0 : Int32)), .val (.ref b1), .val (.ref rr_10), .val (.ref rr_25)] [(.int (XT.cmpL yd yd))]))
    refine Go.st (fun _ k' => XS.ifYes X25.here hx rfl (pc0 := 155) (pc' := 160) rfl (hb hby at_155) rfl (XT.ll_eq_t rfl) (by decide) (by decide) k') ?_
    show Go p e below s _ _ _ (T25.setTop (mkF m 160 #[.val (.long ya), .second, .val (.long yb), .second, .val (.long yc), .second, .val (.long yd), .second, .val (.int kk), .val (.int (0 : Int32)), .val (.ref b1), .val (.ref rr_10), .val (.ref rr_25)] []))
    refine Go.st (fun _ k' => XS.iload X25.here hx rfl (hb hby at_160) rfl k') ?_
    show Go p e below s _ _ _ (T25.setTop (mkF m 162 #[.val (.long ya), .second, .val (.long yb), .second, .val (.long yc), .second, .val (.long yd), .second, .val (.int kk), .val (.int (0 : Int32)), .val (.ref b1), .val (.ref rr_10), .val (.ref rr_25)] [(.int (0 : Int32))]))
    refine Go.st (fun _ k' => XS.iconst X25.here hx rfl (hb hby at_162) k') ?_
    show Go p e below s _ _ _ (T25.setTop (mkF m 163 #[.val (.long ya), .second, .val (.long yb), .second, .val (.long yc), .second, .val (.long yd), .second, .val (.int kk), .val (.int (0 : Int32)), .val (.ref b1), .val (.ref rr_10), .val (.ref rr_25)] [(.int (1 : Int32)), (.int (0 : Int32))]))
    refine Go.st (fun _ k' => XS.icmpYes X25.here hx rfl (pc0 := 163) (pc' := 177) rfl (hb hby at_163) rfl (XT.ii_lt_t (by decide)) (by decide) (by decide) k') ?_
    show Go p e below s _ _ _ (T25.setTop (mkF m 177 #[.val (.long ya), .second, .val (.long yb), .second, .val (.long yc), .second, .val (.long yd), .second, .val (.int kk), .val (.int (0 : Int32)), .val (.ref b1), .val (.ref rr_10), .val (.ref rr_25)] []))
    refine Go.st (fun _ k' => XS.iload X25.here hx rfl (hb hby at_177) rfl k') ?_
    show Go p e below s _ _ _ (T25.setTop (mkF m 179 #[.val (.long ya), .second, .val (.long yb), .second, .val (.long yc), .second, .val (.long yd), .second, .val (.int kk), .val (.int (0 : Int32)), .val (.ref b1), .val (.ref rr_10), .val (.ref rr_25)] [(.int (0 : Int32))]))
    refine Go.st (fun _ k' => XS.iconst X25.here hx rfl (hb hby at_179) k') ?_
    show Go p e below s _ _ _ (T25.setTop (mkF m 180 #[.val (.long ya), .second, .val (.long yb), .second, .val (.long yc), .second, .val (.long yd), .second, .val (.int kk), .val (.int (0 : Int32)), .val (.ref b1), .val (.ref rr_10), .val (.ref rr_25)] [(.int (2 : Int32)), (.int (0 : Int32))]))
    refine Go.st (fun _ k' => XS.icmpYes X25.here hx rfl (pc0 := 180) (pc' := 194) rfl (hb hby at_180) rfl (XT.ii_lt_t (by decide)) (by decide) (by decide) k') ?_
    show Go p e below s _ _ _ (T25.setTop (mkF m 194 #[.val (.long ya), .second, .val (.long yb), .second, .val (.long yc), .second, .val (.long yd), .second, .val (.int kk), .val (.int (0 : Int32)), .val (.ref b1), .val (.ref rr_10), .val (.ref rr_25)] []))
    refine Go.st (fun _ k' => XS.iload X25.here hx rfl (hb hby at_194) rfl k') ?_
    show Go p e below s _ _ _ (T25.setTop (mkF m 196 #[.val (.long ya), .second, .val (.long yb), .second, .val (.long yc), .second, .val (.long yd), .second, .val (.int kk), .val (.int (0 : Int32)), .val (.ref b1), .val (.ref rr_10), .val (.ref rr_25)] [(.int (0 : Int32))]))
    refine Go.st (fun _ k' => XS.iconst X25.here hx rfl (hb hby at_196) k') ?_
    show Go p e below s _ _ _ (T25.setTop (mkF m 197 #[.val (.long ya), .second, .val (.long yb), .second, .val (.long yc), .second, .val (.long yd), .second, .val (.int kk), .val (.int (0 : Int32)), .val (.ref b1), .val (.ref rr_10), .val (.ref rr_25)] [(.int (3 : Int32)), (.int (0 : Int32))]))
    refine Go.st (fun _ k' => XS.icmpYes X25.here hx rfl (pc0 := 197) (pc' := 212) rfl (hb hby at_197) rfl (XT.ii_lt_t (by decide)) (by decide) (by decide) k') ?_
    show Go p e below s _ _ _ (T25.setTop (mkF m 212 #[.val (.long ya), .second, .val (.long yb), .second, .val (.long yc), .second, .val (.long yd), .second, .val (.int kk), .val (.int (0 : Int32)), .val (.ref b1), .val (.ref rr_10), .val (.ref rr_25)] []))
    refine Go.st (fun _ k' => XS.iconst X25.here hx rfl (hb hby at_212) k') ?_
    show Go p e below s _ _ _ (T25.setTop (mkF m 213 #[.val (.long ya), .second, .val (.long yb), .second, .val (.long yc), .second, .val (.long yd), .second, .val (.int kk), .val (.int (0 : Int32)), .val (.ref b1), .val (.ref rr_10), .val (.ref rr_25)] [(.int (1 : Int32))]))
    refine Go.retB X25 hx hlk (t := .boolean) Bd.returns (by simp) (hb hby at_213) (by decide) (by decide) rfl ?_
    exact ⟨rfl, N25, trivial⟩
  · rw [hi]
    show Go p e below s _ _ _ (s₁.setTop (mkF m 6 #[.val (.long ya), .second, .val (.long yb), .second, .val (.long yc), .second, .val (.long yd), .second, .val (.int kk), .val (.int (1 : Int32)), .unset, .unset, .unset] []))
    obtain ⟨T37, h37, X37, e37, E37, A37, D37, -, st37⟩ := newO X0 hx hZ hown (wdx hw 0 rfl) (wdx hw 1 rfl) (wdx hw 2 rfl) e0 (g := (mkF m 6 #[.val (.long ya), .second, .val (.long yb), .second, .val (.long yc), .second, .val (.long yd), .second, .val (.int kk), .val (.int (1 : Int32)), .unset, .unset, .unset] [])) rfl (hb hby at_6) (by decide) (by decide)
    obtain ⟨b37, g37⟩ : ∃ z, z = h0.size := ⟨_, rfl⟩
    rw [← g37] at A37 D37 st37
    refine Go.st st37 ?_
    have g_b37 : n0 ≤ b37 := Nat.le_trans (own_le O0) (Nat.le_of_eq g37.symm)
    have O37 : Old Z n0 h37 := O0.ext E37
    have f38 : Fld Z h37 b37 "com/example/spillway/spillway/runtime/Latencies" "nanos" "[J" .null := D37 (Or.inl (wdx hw 11 rfl)) (ty := (.array .long)) (by decide)
    have f39 : Fld Z h37 b37 "com/example/spillway/spillway/runtime/Latencies" "count" "I" (.int (0 : Int32)) := D37 (Or.inl (wdx hw 18 rfl)) (ty := .int) (by decide)
    show Go p e below s _ _ _ (T37.setTop (mkF m 9 #[.val (.long ya), .second, .val (.long yb), .second, .val (.long yc), .second, .val (.long yd), .second, .val (.int kk), .val (.int (1 : Int32)), .unset, .unset, .unset] [(.ref b37)]))
    refine Go.st (fun _ k' => XS.dup X37.here hx rfl (hb hby at_9) rfl rfl k') ?_
    show Go p e below s _ _ _ (T37.setTop (mkF m 10 #[.val (.long ya), .second, .val (.long yb), .second, .val (.long yc), .second, .val (.long yd), .second, .val (.int kk), .val (.int (1 : Int32)), .unset, .unset, .unset] [(.ref b37), (.ref b37)]))
    obtain ⟨_, _, ⟨T40, L40, k40, n40⟩, -, X40, ⟨Lc40, hQ40, l40, y40, z40⟩, st40⟩ := X37.specialBack hx (y := (⟨"com/example/spillway/spillway/runtime/Latencies", "<init>", "()V"⟩ : MethodName)) rfl hown (mvT hZ (wdx hw 3 rfl)) (mvT hZ (wdx hw 4 rfl)) (mvT hZ (wdx hw 5 rfl)) (by decide) (backOf (W := 1) (rm1 l Z a0 hw [] b37 h37 n0 O37 A37 f38 f39 g_b37) hZ (wdx hw 5 rfl) (wdx hw 2 rfl) (by decide) (by decide)) (g := (mkF m 10 #[.val (.long ya), .second, .val (.long yb), .second, .val (.long yc), .second, .val (.long yd), .second, .val (.int kk), .val (.int (1 : Int32)), .unset, .unset, .unset] [(.ref b37), (.ref b37)])) rfl (by rw [hml]; rfl) (Steps.refl _) (a := b37) (argsL := []) (rest := [(.ref b37)]) (lenOf pd___V rfl) rfl (by show 2 * 0 + _ ≤ _; exact Nat.le_of_eq rfl) (hb hby at_10) (fun _ _ => ⟨rfl, e37, (by exact Nat.le_of_ble_eq_true rfl), (by exact Nat.le_of_ble_eq_true rfl)⟩)
    dsimp only [Pt.U, Pt.locs, Pt.cells, Pt.slots] at X40 l40 y40 z40 st40 hQ40
    subst l40 y40 z40
    obtain ⟨na_40, kn_40, rfl, Nq40, Kq40, f41, f42, f43, szn_40⟩ := hQ40
    have N40 := Fr.app N0 Nq40
    refine Go.tr st40 ?_
    have f44 : Exa Z T40.heap b37 "com/example/spillway/spillway/runtime/Latencies" := A37.keep Kq40
    have O40 : Old Z n0 T40.heap := O37.keep Kq40 (allS g_b37 all0)
    have g_na_40 : n0 ≤ na_40 := Nat.le_trans (own_le O37) szn_40
    have ne45 : b37 ≠ na_40 := Nat.ne_of_lt (Nat.lt_of_lt_of_le A37.lt szn_40)
    show Go p e below s _ _ _ (T40.setTop (mkF m 13 #[.val (.long ya), .second, .val (.long yb), .second, .val (.long yc), .second, .val (.long yd), .second, .val (.int kk), .val (.int (1 : Int32)), .unset, .unset, .unset] [(.ref b37)]))
    refine Go.st (fun _ k' => XS.astore X40.here hx rfl (hb hby at_13) rfl rfl (l' := #[.val (.long ya), .second, .val (.long yb), .second, .val (.long yc), .second, .val (.long yd), .second, .val (.int kk), .val (.int (1 : Int32)), .val (.ref b37), .unset, .unset]) rfl k') ?_
    show Go p e below s _ _ _ (T40.setTop (mkF m 15 #[.val (.long ya), .second, .val (.long yb), .second, .val (.long yc), .second, .val (.long yd), .second, .val (.int kk), .val (.int (1 : Int32)), .val (.ref b37), .unset, .unset] []))
    refine Go.st (fun _ k' => XS.iload X40.here hx rfl (hb hby at_15) rfl k') ?_
    show Go p e below s _ _ _ (T40.setTop (mkF m 17 #[.val (.long ya), .second, .val (.long yb), .second, .val (.long yc), .second, .val (.long yd), .second, .val (.int kk), .val (.int (1 : Int32)), .val (.ref b37), .unset, .unset] [(.int (1 : Int32))]))
    refine Go.st (fun _ k' => XS.iconst X40.here hx rfl (hb hby at_17) k') ?_
    show Go p e below s _ _ _ (T40.setTop (mkF m 18 #[.val (.long ya), .second, .val (.long yb), .second, .val (.long yc), .second, .val (.long yd), .second, .val (.int kk), .val (.int (1 : Int32)), .val (.ref b37), .unset, .unset] [(.int (1 : Int32)), (.int (1 : Int32))]))
    refine Go.st (fun _ k' => XS.icmpNo X40.here hx rfl (hb hby at_18) rfl (XT.ii_lt_f (by decide)) k') ?_
    show Go p e below s _ _ _ (T40.setTop (mkF m 21 #[.val (.long ya), .second, .val (.long yb), .second, .val (.long yc), .second, .val (.long yd), .second, .val (.int kk), .val (.int (1 : Int32)), .val (.ref b37), .unset, .unset] []))
    refine Go.st (fun _ k' => XS.aload X40.here hx rfl (hb hby at_21) rfl rfl k') ?_
    show Go p e below s _ _ _ (T40.setTop (mkF m 23 #[.val (.long ya), .second, .val (.long yb), .second, .val (.long yc), .second, .val (.long yd), .second, .val (.int kk), .val (.int (1 : Int32)), .val (.ref b37), .unset, .unset] [(.ref b37)]))
    refine Go.st (fun _ k' => XS.lloadN X40.here hx rfl (hb hby at_23) rfl k') ?_
    show Go p e below s _ _ _ (T40.setTop (mkF m 24 #[.val (.long ya), .second, .val (.long yb), .second, .val (.long yc), .second, .val (.long yd), .second, .val (.int kk), .val (.int (1 : Int32)), .val (.ref b37), .unset, .unset] [(.long ya), (.ref b37)]))
    obtain ⟨cq46, kq46, q46a, q46b, q46c⟩ := isOf hZ rfl f44
    obtain ⟨_, _, ⟨T46, L46, k46, n46⟩, -, X46, ⟨Lc46, hQ46, l46, y46, z46⟩, st46⟩ := X40.virtualBack hx (y := (⟨"com/example/spillway/spillway/runtime/Latencies", "add", "(J)V"⟩ : MethodName)) (z := (⟨"com/example/spillway/spillway/runtime/Latencies", "add", "(J)V"⟩ : MethodName)) hown (mvT hZ (wdx hw 12 rfl)) (mvT hZ (wdx hw 13 rfl)) (notFace_of_selects (args := #[]) (mvT hZ (wdx hw 15 rfl))) (mvT hZ (wdx hw 15 rfl)) (mvT hZ (wdx hw 14 rfl)) (by decide) (backOf (W := 0) (rm3_0 l Z a0 hw [] b37 ya na_40 kn_40 (0 : Int64) (0 : Int64) (0 : Int64) (0 : Int64) T40.heap n0 O40 f44 f41 f42 f43 g_b37 g_na_40 ne45) hZ (wdx hw 16 rfl) (wdx hw 2 rfl) (by decide) (by decide)) q46a q46c (g := (mkF m 24 #[.val (.long ya), .second, .val (.long yb), .second, .val (.long yc), .second, .val (.long yd), .second, .val (.int kk), .val (.int (1 : Int32)), .val (.ref b37), .unset, .unset] [(.long ya), (.ref b37)])) rfl (by rw [hml]; rfl) (Steps.refl _) (argsL := [(.long ya)]) (rest := []) (lenOf pd__J_V rfl) rfl (by show 2 * 0 + _ ≤ _; exact Nat.le_of_eq rfl) (hb hby at_24) (fun _ _ => ⟨rfl, rfl, (by exact Nat.le_of_ble_eq_true rfl), (by exact Nat.le_of_ble_eq_true rfl)⟩)
    dsimp only [Pt.U, Pt.locs, Pt.cells, Pt.slots] at X46 l46 y46 z46 st46 hQ46
    subst l46 y46 z46
    obtain ⟨rfl, Nq46, Kq46, f47, f48, f49⟩ := hQ46
    have N46 := Fr.app N40 Nq46
    refine Go.tr st46 ?_
    have f50 : Exa Z T46.heap b37 "com/example/spillway/spillway/runtime/Latencies" := f44.keep Kq46
    have O46 : Old Z n0 T46.heap := O40.keep Kq46 (allS g_b37 (allS g_na_40 all0))
    show Go p e below s _ _ _ (T46.setTop (mkF m 27 #[.val (.long ya), .second, .val (.long yb), .second, .val (.long yc), .second, .val (.long yd), .second, .val (.int kk), .val (.int (1 : Int32)), .val (.ref b37), .unset, .unset] []))
    refine Go.st (fun _ k' => XS.iload X46.here hx rfl (hb hby at_27) rfl k') ?_
    show Go p e below s _ _ _ (T46.setTop (mkF m 29 #[.val (.long ya), .second, .val (.long yb), .second, .val (.long yc), .second, .val (.long yd), .second, .val (.int kk), .val (.int (1 : Int32)), .val (.ref b37), .unset, .unset] [(.int (1 : Int32))]))
    refine Go.st (fun _ k' => XS.iconst X46.here hx rfl (hb hby at_29) k') ?_
    show Go p e below s _ _ _ (T46.setTop (mkF m 30 #[.val (.long ya), .second, .val (.long yb), .second, .val (.long yc), .second, .val (.long yd), .second, .val (.int kk), .val (.int (1 : Int32)), .val (.ref b37), .unset, .unset] [(.int (2 : Int32)), (.int (1 : Int32))]))
    refine Go.st (fun _ k' => XS.icmpYes X46.here hx rfl (pc0 := 30) (pc' := 39) rfl (hb hby at_30) rfl (XT.ii_lt_t (by decide)) (by decide) (by decide) k') ?_
    show Go p e below s _ _ _ (T46.setTop (mkF m 39 #[.val (.long ya), .second, .val (.long yb), .second, .val (.long yc), .second, .val (.long yd), .second, .val (.int kk), .val (.int (1 : Int32)), .val (.ref b37), .unset, .unset] []))
    refine Go.st (fun _ k' => XS.iload X46.here hx rfl (hb hby at_39) rfl k') ?_
    show Go p e below s _ _ _ (T46.setTop (mkF m 41 #[.val (.long ya), .second, .val (.long yb), .second, .val (.long yc), .second, .val (.long yd), .second, .val (.int kk), .val (.int (1 : Int32)), .val (.ref b37), .unset, .unset] [(.int (1 : Int32))]))
    refine Go.st (fun _ k' => XS.iconst X46.here hx rfl (hb hby at_41) k') ?_
    show Go p e below s _ _ _ (T46.setTop (mkF m 42 #[.val (.long ya), .second, .val (.long yb), .second, .val (.long yc), .second, .val (.long yd), .second, .val (.int kk), .val (.int (1 : Int32)), .val (.ref b37), .unset, .unset] [(.int (3 : Int32)), (.int (1 : Int32))]))
    refine Go.st (fun _ k' => XS.icmpYes X46.here hx rfl (pc0 := 42) (pc' := 52) rfl (hb hby at_42) rfl (XT.ii_lt_t (by decide)) (by decide) (by decide) k') ?_
    show Go p e below s _ _ _ (T46.setTop (mkF m 52 #[.val (.long ya), .second, .val (.long yb), .second, .val (.long yc), .second, .val (.long yd), .second, .val (.int kk), .val (.int (1 : Int32)), .val (.ref b37), .unset, .unset] []))
    refine Go.st (fun _ k' => XS.aload X46.here hx rfl (hb hby at_52) rfl rfl k') ?_
    show Go p e below s _ _ _ (T46.setTop (mkF m 54 #[.val (.long ya), .second, .val (.long yb), .second, .val (.long yc), .second, .val (.long yd), .second, .val (.int kk), .val (.int (1 : Int32)), .val (.ref b37), .unset, .unset] [(.ref b37)]))
    obtain ⟨cq51, kq51, q51a, q51b, q51c⟩ := isOf hZ rfl f50
    obtain ⟨_, _, ⟨T51, L51, k51, n51⟩, -, X51, ⟨Lc51, hQ51, l51, y51, z51⟩, st51⟩ := X46.virtualBack hx (y := (⟨"com/example/spillway/spillway/runtime/Latencies", "toArray", "()[J"⟩ : MethodName)) (z := (⟨"com/example/spillway/spillway/runtime/Latencies", "toArray", "()[J"⟩ : MethodName)) hown (mvT hZ (wdx hw 19 rfl)) (mvT hZ (wdx hw 20 rfl)) (notFace_of_selects (args := #[]) (mvT hZ (wdx hw 22 rfl))) (mvT hZ (wdx hw 22 rfl)) (mvT hZ (wdx hw 21 rfl)) (by decide) (backOf (W := 0) (rm4_1 l Z a0 hw [] b37 na_40 kn_40 ya (0 : Int64) (0 : Int64) (0 : Int64) T46.heap n0 O46 f47 f48 f49) hZ (wdx hw 23 rfl) (wdx hw 2 rfl) (by decide) (by decide)) q51a q51c (g := (mkF m 54 #[.val (.long ya), .second, .val (.long yb), .second, .val (.long yc), .second, .val (.long yd), .second, .val (.int kk), .val (.int (1 : Int32)), .val (.ref b37), .unset, .unset] [(.ref b37)])) rfl (by rw [hml]; rfl) (Steps.refl _) (argsL := []) (rest := []) (lenOf pd____J rfl) rfl (by show 2 * 0 + _ ≤ _; exact Nat.le_of_eq rfl) (hb hby at_54) (fun _ _ => ⟨rfl, rfl, (by exact Nat.le_of_ble_eq_true rfl), (by exact Nat.le_of_ble_eq_true rfl)⟩)
    dsimp only [Pt.U, Pt.locs, Pt.cells, Pt.slots] at X51 l51 y51 z51 st51 hQ51
    subst l51 y51 z51
    obtain ⟨rr_51, kr_51, rfl, Nq51, Kq51, f52, szr_51⟩ := hQ51
    have N51 := Fr.app N46 Nq51
    refine Go.tr st51 ?_
    have f53 : Exa Z T51.heap b37 "com/example/spillway/spillway/runtime/Latencies" := f50.keep Kq51
    have f54 : Fld Z T51.heap b37 "com/example/spillway/spillway/runtime/Latencies" "nanos" "[J" (.ref na_40) := f47.keep Kq51 nin0
    have f55 : Fld Z T51.heap b37 "com/example/spillway/spillway/runtime/Latencies" "count" "I" (.int (1 : Int32)) := f48.keep Kq51 nin0
    have f56 : Arv Z T51.heap na_40 kn_40 .long (256 : Int32) [(.long ya), (.long (0 : Int64)), (.long (0 : Int64)), (.long (0 : Int64))] (.long (0 : Int64)) := f49.keep Kq51 nin0
    have O51 : Old Z n0 T51.heap := O46.keep Kq51 all0
    have g_rr_51 : n0 ≤ rr_51 := Nat.le_trans (own_le O46) szr_51
    have ne57 : b37 ≠ rr_51 := Nat.ne_of_lt (Nat.lt_of_lt_of_le f50.lt szr_51)
    have ne58 : na_40 ≠ rr_51 := Nat.ne_of_lt (Nat.lt_of_lt_of_le f49.lt szr_51)
    show Go p e below s _ _ _ (T51.setTop (mkF m 57 #[.val (.long ya), .second, .val (.long yb), .second, .val (.long yc), .second, .val (.long yd), .second, .val (.int kk), .val (.int (1 : Int32)), .val (.ref b37), .unset, .unset] [(.ref rr_51)]))
    refine Go.st (fun _ k' => XS.astore X51.here hx rfl (hb hby at_57) rfl rfl (l' := #[.val (.long ya), .second, .val (.long yb), .second, .val (.long yc), .second, .val (.long yd), .second, .val (.int kk), .val (.int (1 : Int32)), .val (.ref b37), .val (.ref rr_51), .unset]) rfl k') ?_
    show Go p e below s _ _ _ (T51.setTop (mkF m 59 #[.val (.long ya), .second, .val (.long yb), .second, .val (.long yc), .second, .val (.long yd), .second, .val (.int kk), .val (.int (1 : Int32)), .val (.ref b37), .val (.ref rr_51), .unset] []))
    refine Go.st (fun _ k' => XS.aload X51.here hx rfl (hb hby at_59) rfl rfl k') ?_
    show Go p e below s _ _ _ (T51.setTop (mkF m 61 #[.val (.long ya), .second, .val (.long yb), .second, .val (.long yc), .second, .val (.long yd), .second, .val (.int kk), .val (.int (1 : Int32)), .val (.ref b37), .val (.ref rr_51), .unset] [(.ref rr_51)]))
    obtain ⟨cl59, Ar59, qc59, Sz59, Nn59, Ha59, Gf59⟩ := id f52
    refine Go.st (fun _ k' => X51.arraylength hx Ar59.1 (State.isArrayOf_alike hZ.alike Ar59.2.1) (g := (mkF m 61 #[.val (.long ya), .second, .val (.long yb), .second, .val (.long yc), .second, .val (.long yd), .second, .val (.int kk), .val (.int (1 : Int32)), .val (.ref b37), .val (.ref rr_51), .unset] [(.ref rr_51)])) rfl rfl (hb hby at_61) _ k') ?_
    rw [len_of Sz59 Nn59]
    show Go p e below s _ _ _ (T51.setTop (mkF m 62 #[.val (.long ya), .second, .val (.long yb), .second, .val (.long yc), .second, .val (.long yd), .second, .val (.int kk), .val (.int (1 : Int32)), .val (.ref b37), .val (.ref rr_51), .unset] [(.int (1 : Int32))]))
    refine Go.st (fun _ k' => XS.iload X51.here hx rfl (hb hby at_62) rfl k') ?_
    show Go p e below s _ _ _ (T51.setTop (mkF m 64 #[.val (.long ya), .second, .val (.long yb), .second, .val (.long yc), .second, .val (.long yd), .second, .val (.int kk), .val (.int (1 : Int32)), .val (.ref b37), .val (.ref rr_51), .unset] [(.int (1 : Int32)), (.int (1 : Int32))]))
    refine Go.st (fun _ k' => XS.icmpYes X51.here hx rfl (pc0 := 64) (pc' := 69) rfl (hb hby at_64) rfl (XT.ii_eq_t (by decide)) (by decide) (by decide) k') ?_
    show Go p e below s _ _ _ (T51.setTop (mkF m 69 #[.val (.long ya), .second, .val (.long yb), .second, .val (.long yc), .second, .val (.long yd), .second, .val (.int kk), .val (.int (1 : Int32)), .val (.ref b37), .val (.ref rr_51), .unset] []))
    refine Go.st (fun _ k' => XS.iload X51.here hx rfl (hb hby at_69) rfl k') ?_
    show Go p e below s _ _ _ (T51.setTop (mkF m 71 #[.val (.long ya), .second, .val (.long yb), .second, .val (.long yc), .second, .val (.long yd), .second, .val (.int kk), .val (.int (1 : Int32)), .val (.ref b37), .val (.ref rr_51), .unset] [(.int (1 : Int32))]))
    refine Go.st (fun _ k' => XS.iconst X51.here hx rfl (hb hby at_71) k') ?_
    show Go p e below s _ _ _ (T51.setTop (mkF m 72 #[.val (.long ya), .second, .val (.long yb), .second, .val (.long yc), .second, .val (.long yd), .second, .val (.int kk), .val (.int (1 : Int32)), .val (.ref b37), .val (.ref rr_51), .unset] [(.int (1 : Int32)), (.int (1 : Int32))]))
    refine Go.st (fun _ k' => XS.icmpNo X51.here hx rfl (hb hby at_72) rfl (XT.ii_lt_f (by decide)) k') ?_
    show Go p e below s _ _ _ (T51.setTop (mkF m 75 #[.val (.long ya), .second, .val (.long yb), .second, .val (.long yc), .second, .val (.long yd), .second, .val (.int kk), .val (.int (1 : Int32)), .val (.ref b37), .val (.ref rr_51), .unset] []))
    refine Go.st (fun _ k' => XS.aload X51.here hx rfl (hb hby at_75) rfl rfl k') ?_
    show Go p e below s _ _ _ (T51.setTop (mkF m 77 #[.val (.long ya), .second, .val (.long yb), .second, .val (.long yc), .second, .val (.long yd), .second, .val (.int kk), .val (.int (1 : Int32)), .val (.ref b37), .val (.ref rr_51), .unset] [(.ref rr_51)]))
    refine Go.st (fun _ k' => XS.iconst X51.here hx rfl (hb hby at_77) k') ?_
    show Go p e below s _ _ _ (T51.setTop (mkF m 78 #[.val (.long ya), .second, .val (.long yb), .second, .val (.long yc), .second, .val (.long yd), .second, .val (.int kk), .val (.int (1 : Int32)), .val (.ref b37), .val (.ref rr_51), .unset] [(.int (0 : Int32)), (.ref rr_51)]))
    obtain ⟨cl60, Ar60, qc60, Sz60, Nn60, Ha60, Gf60⟩ := id f52
    refine Go.st (fun _ k' => X51.laload hx (j := (0 : Int32)) (v := (.long ya)) Ar60.1 (State.isArrayOf_alike hZ.alike Ar60.2.1) Ar60.2.2 (inb_of Sz60 ⟨by decide, by decide⟩) (Ha60.at (inb_of Sz60 ⟨by decide, by decide⟩) rfl) (g := (mkF m 78 #[.val (.long ya), .second, .val (.long yb), .second, .val (.long yc), .second, .val (.long yd), .second, .val (.int kk), .val (.int (1 : Int32)), .val (.ref b37), .val (.ref rr_51), .unset] [(.int (0 : Int32)), (.ref rr_51)])) rfl rfl (hb hby at_78) _ k') ?_
    show Go p e below s _ _ _ (T51.setTop (mkF m 79 #[.val (.long ya), .second, .val (.long yb), .second, .val (.long yc), .second, .val (.long yd), .second, .val (.int kk), .val (.int (1 : Int32)), .val (.ref b37), .val (.ref rr_51), .unset] [(.long ya)]))
    refine Go.st (fun _ k' => XS.lloadN X51.here hx rfl (hb hby at_79) rfl k') ?_
    show Go p e below s _ _ _ (T51.setTop (mkF m 80 #[.val (.long ya), .second, .val (.long yb), .second, .val (.long yc), .second, .val (.long yd), .second, .val (.int kk), .val (.int (1 : Int32)), .val (.ref b37), .val (.ref rr_51), .unset] [(.long ya), (.long ya)]))
    refine Go.st (fun _ k' => XT.lcmp X51.here hx rfl (hb hby at_80) rfl k') ?_
    show Go p e below s _ _ _ (T51.setTop (mkF m 81 #[.val (.long ya), .second, .val (.long yb), .second, .val (.long yc), .second, .val (.long yd), .second, .val (.int kk), .val (.int (1 : Int32)), .val (.ref b37), .val (.ref rr_51), .unset] [(.int (XT.cmpL ya ya))]))
    refine Go.st (fun _ k' => XS.ifYes X51.here hx rfl (pc0 := 81) (pc' := 86) rfl (hb hby at_81) rfl (XT.ll_eq_t rfl) (by decide) (by decide) k') ?_
    show Go p e below s _ _ _ (T51.setTop (mkF m 86 #[.val (.long ya), .second, .val (.long yb), .second, .val (.long yc), .second, .val (.long yd), .second, .val (.int kk), .val (.int (1 : Int32)), .val (.ref b37), .val (.ref rr_51), .unset] []))
    refine Go.st (fun _ k' => XS.iload X51.here hx rfl (hb hby at_86) rfl k') ?_
    show Go p e below s _ _ _ (T51.setTop (mkF m 88 #[.val (.long ya), .second, .val (.long yb), .second, .val (.long yc), .second, .val (.long yd), .second, .val (.int kk), .val (.int (1 : Int32)), .val (.ref b37), .val (.ref rr_51), .unset] [(.int (1 : Int32))]))
    refine Go.st (fun _ k' => XS.iconst X51.here hx rfl (hb hby at_88) k') ?_
    show Go p e below s _ _ _ (T51.setTop (mkF m 89 #[.val (.long ya), .second, .val (.long yb), .second, .val (.long yc), .second, .val (.long yd), .second, .val (.int kk), .val (.int (1 : Int32)), .val (.ref b37), .val (.ref rr_51), .unset] [(.int (2 : Int32)), (.int (1 : Int32))]))
    refine Go.st (fun _ k' => XS.icmpYes X51.here hx rfl (pc0 := 89) (pc' := 103) rfl (hb hby at_89) rfl (XT.ii_lt_t (by decide)) (by decide) (by decide) k') ?_
    show Go p e below s _ _ _ (T51.setTop (mkF m 103 #[.val (.long ya), .second, .val (.long yb), .second, .val (.long yc), .second, .val (.long yd), .second, .val (.int kk), .val (.int (1 : Int32)), .val (.ref b37), .val (.ref rr_51), .unset] []))
    refine Go.st (fun _ k' => XS.iload X51.here hx rfl (hb hby at_103) rfl k') ?_
    show Go p e below s _ _ _ (T51.setTop (mkF m 105 #[.val (.long ya), .second, .val (.long yb), .second, .val (.long yc), .second, .val (.long yd), .second, .val (.int kk), .val (.int (1 : Int32)), .val (.ref b37), .val (.ref rr_51), .unset] [(.int (1 : Int32))]))
    refine Go.st (fun _ k' => XS.iconst X51.here hx rfl (hb hby at_105) k') ?_
    show Go p e below s _ _ _ (T51.setTop (mkF m 106 #[.val (.long ya), .second, .val (.long yb), .second, .val (.long yc), .second, .val (.long yd), .second, .val (.int kk), .val (.int (1 : Int32)), .val (.ref b37), .val (.ref rr_51), .unset] [(.int (3 : Int32)), (.int (1 : Int32))]))
    refine Go.st (fun _ k' => XS.icmpYes X51.here hx rfl (pc0 := 106) (pc' := 121) rfl (hb hby at_106) rfl (XT.ii_lt_t (by decide)) (by decide) (by decide) k') ?_
    show Go p e below s _ _ _ (T51.setTop (mkF m 121 #[.val (.long ya), .second, .val (.long yb), .second, .val (.long yc), .second, .val (.long yd), .second, .val (.int kk), .val (.int (1 : Int32)), .val (.ref b37), .val (.ref rr_51), .unset] []))
    refine Go.st (fun _ k' => XS.aload X51.here hx rfl (hb hby at_121) rfl rfl k') ?_
    show Go p e below s _ _ _ (T51.setTop (mkF m 123 #[.val (.long ya), .second, .val (.long yb), .second, .val (.long yc), .second, .val (.long yd), .second, .val (.int kk), .val (.int (1 : Int32)), .val (.ref b37), .val (.ref rr_51), .unset] [(.ref b37)]))
    refine Go.st (fun _ k' => XS.lload X51.here hx rfl (hb hby at_123) rfl k') ?_
    show Go p e below s _ _ _ (T51.setTop (mkF m 125 #[.val (.long ya), .second, .val (.long yb), .second, .val (.long yc), .second, .val (.long yd), .second, .val (.int kk), .val (.int (1 : Int32)), .val (.ref b37), .val (.ref rr_51), .unset] [(.long yd), (.ref b37)]))
    obtain ⟨cq61, kq61, q61a, q61b, q61c⟩ := isOf hZ rfl f53
    obtain ⟨_, _, ⟨T61, L61, k61, n61⟩, -, X61, ⟨Lc61, hQ61, l61, y61, z61⟩, st61⟩ := X51.virtualBack hx (y := (⟨"com/example/spillway/spillway/runtime/Latencies", "add", "(J)V"⟩ : MethodName)) (z := (⟨"com/example/spillway/spillway/runtime/Latencies", "add", "(J)V"⟩ : MethodName)) hown (mvT hZ (wdx hw 12 rfl)) (mvT hZ (wdx hw 13 rfl)) (notFace_of_selects (args := #[]) (mvT hZ (wdx hw 15 rfl))) (mvT hZ (wdx hw 15 rfl)) (mvT hZ (wdx hw 14 rfl)) (by decide) (backOf (W := 0) (rm3_1 l Z a0 hw [] b37 yd na_40 kn_40 ya (0 : Int64) (0 : Int64) (0 : Int64) T51.heap n0 O51 f53 f54 f55 f56 g_b37 g_na_40 ne45) hZ (wdx hw 16 rfl) (wdx hw 2 rfl) (by decide) (by decide)) q61a q61c (g := (mkF m 125 #[.val (.long ya), .second, .val (.long yb), .second, .val (.long yc), .second, .val (.long yd), .second, .val (.int kk), .val (.int (1 : Int32)), .val (.ref b37), .val (.ref rr_51), .unset] [(.long yd), (.ref b37)])) rfl (by rw [hml]; rfl) (Steps.refl _) (argsL := [(.long yd)]) (rest := []) (lenOf pd__J_V rfl) rfl (by show 2 * 0 + _ ≤ _; exact Nat.le_of_eq rfl) (hb hby at_125) (fun _ _ => ⟨rfl, rfl, (by exact Nat.le_of_ble_eq_true rfl), (by exact Nat.le_of_ble_eq_true rfl)⟩)
    dsimp only [Pt.U, Pt.locs, Pt.cells, Pt.slots] at X61 l61 y61 z61 st61 hQ61
    subst l61 y61 z61
    obtain ⟨rfl, Nq61, Kq61, f62, f63, f64⟩ := hQ61
    have N61 := Fr.app N51 Nq61
    refine Go.tr st61 ?_
    have f65 : Exa Z T61.heap b37 "com/example/spillway/spillway/runtime/Latencies" := f53.keep Kq61
    have f66 : Arv Z T61.heap rr_51 kr_51 .long (1 : Int32) [(.long ya)] (.long (0 : Int64)) := f52.keep Kq61 (ninS (Ne.symm ne57) (ninS (Ne.symm ne58) nin0))
    have O61 : Old Z n0 T61.heap := O51.keep Kq61 (allS g_b37 (allS g_na_40 all0))
    show Go p e below s _ _ _ (T61.setTop (mkF m 128 #[.val (.long ya), .second, .val (.long yb), .second, .val (.long yc), .second, .val (.long yd), .second, .val (.int kk), .val (.int (1 : Int32)), .val (.ref b37), .val (.ref rr_51), .unset] []))
    refine Go.st (fun _ k' => XS.aload X61.here hx rfl (hb hby at_128) rfl rfl k') ?_
    show Go p e below s _ _ _ (T61.setTop (mkF m 130 #[.val (.long ya), .second, .val (.long yb), .second, .val (.long yc), .second, .val (.long yd), .second, .val (.int kk), .val (.int (1 : Int32)), .val (.ref b37), .val (.ref rr_51), .unset] [(.ref b37)]))
    obtain ⟨cq67, kq67, q67a, q67b, q67c⟩ := isOf hZ rfl f65
    obtain ⟨_, _, ⟨T67, L67, k67, n67⟩, -, X67, ⟨Lc67, hQ67, l67, y67, z67⟩, st67⟩ := X61.virtualBack hx (y := (⟨"com/example/spillway/spillway/runtime/Latencies", "toArray", "()[J"⟩ : MethodName)) (z := (⟨"com/example/spillway/spillway/runtime/Latencies", "toArray", "()[J"⟩ : MethodName)) hown (mvT hZ (wdx hw 19 rfl)) (mvT hZ (wdx hw 20 rfl)) (notFace_of_selects (args := #[]) (mvT hZ (wdx hw 22 rfl))) (mvT hZ (wdx hw 22 rfl)) (mvT hZ (wdx hw 21 rfl)) (by decide) (backOf (W := 0) (rm4_2 l Z a0 hw [] b37 na_40 kn_40 ya yd (0 : Int64) (0 : Int64) T61.heap n0 O61 f62 f63 f64) hZ (wdx hw 23 rfl) (wdx hw 2 rfl) (by decide) (by decide)) q67a q67c (g := (mkF m 130 #[.val (.long ya), .second, .val (.long yb), .second, .val (.long yc), .second, .val (.long yd), .second, .val (.int kk), .val (.int (1 : Int32)), .val (.ref b37), .val (.ref rr_51), .unset] [(.ref b37)])) rfl (by rw [hml]; rfl) (Steps.refl _) (argsL := []) (rest := []) (lenOf pd____J rfl) rfl (by show 2 * 0 + _ ≤ _; exact Nat.le_of_eq rfl) (hb hby at_130) (fun _ _ => ⟨rfl, rfl, (by exact Nat.le_of_ble_eq_true rfl), (by exact Nat.le_of_ble_eq_true rfl)⟩)
    dsimp only [Pt.U, Pt.locs, Pt.cells, Pt.slots] at X67 l67 y67 z67 st67 hQ67
    subst l67 y67 z67
    obtain ⟨rr_67, kr_67, rfl, Nq67, Kq67, f68, szr_67⟩ := hQ67
    have N67 := Fr.app N61 Nq67
    refine Go.tr st67 ?_
    have f69 : Exa Z T67.heap b37 "com/example/spillway/spillway/runtime/Latencies" := f65.keep Kq67
    have f70 : Arv Z T67.heap rr_51 kr_51 .long (1 : Int32) [(.long ya)] (.long (0 : Int64)) := f66.keep Kq67 nin0
    have f71 : Fld Z T67.heap b37 "com/example/spillway/spillway/runtime/Latencies" "nanos" "[J" (.ref na_40) := f62.keep Kq67 nin0
    have f72 : Fld Z T67.heap b37 "com/example/spillway/spillway/runtime/Latencies" "count" "I" (.int (2 : Int32)) := f63.keep Kq67 nin0
    have f73 : Arv Z T67.heap na_40 kn_40 .long (256 : Int32) [(.long ya), (.long yd), (.long (0 : Int64)), (.long (0 : Int64))] (.long (0 : Int64)) := f64.keep Kq67 nin0
    have O67 : Old Z n0 T67.heap := O61.keep Kq67 all0
    have g_rr_67 : n0 ≤ rr_67 := Nat.le_trans (own_le O61) szr_67
    have ne74 : b37 ≠ rr_67 := Nat.ne_of_lt (Nat.lt_of_lt_of_le f65.lt szr_67)
    have ne75 : rr_51 ≠ rr_67 := Nat.ne_of_lt (Nat.lt_of_lt_of_le f66.lt szr_67)
    have ne76 : na_40 ≠ rr_67 := Nat.ne_of_lt (Nat.lt_of_lt_of_le f64.lt szr_67)
    show Go p e below s _ _ _ (T67.setTop (mkF m 133 #[.val (.long ya), .second, .val (.long yb), .second, .val (.long yc), .second, .val (.long yd), .second, .val (.int kk), .val (.int (1 : Int32)), .val (.ref b37), .val (.ref rr_51), .unset] [(.ref rr_67)]))
    refine Go.st (fun _ k' => XS.astore X67.here hx rfl (hb hby at_133) rfl rfl (l' := #[.val (.long ya), .second, .val (.long yb), .second, .val (.long yc), .second, .val (.long yd), .second, .val (.int kk), .val (.int (1 : Int32)), .val (.ref b37), .val (.ref rr_51), .val (.ref rr_67)]) rfl k') ?_
    show Go p e below s _ _ _ (T67.setTop (mkF m 135 #[.val (.long ya), .second, .val (.long yb), .second, .val (.long yc), .second, .val (.long yd), .second, .val (.int kk), .val (.int (1 : Int32)), .val (.ref b37), .val (.ref rr_51), .val (.ref rr_67)] []))
    refine Go.st (fun _ k' => XS.aload X67.here hx rfl (hb hby at_135) rfl rfl k') ?_
    show Go p e below s _ _ _ (T67.setTop (mkF m 137 #[.val (.long ya), .second, .val (.long yb), .second, .val (.long yc), .second, .val (.long yd), .second, .val (.int kk), .val (.int (1 : Int32)), .val (.ref b37), .val (.ref rr_51), .val (.ref rr_67)] [(.ref rr_67)]))
    obtain ⟨cl77, Ar77, qc77, Sz77, Nn77, Ha77, Gf77⟩ := id f68
    refine Go.st (fun _ k' => X67.arraylength hx Ar77.1 (State.isArrayOf_alike hZ.alike Ar77.2.1) (g := (mkF m 137 #[.val (.long ya), .second, .val (.long yb), .second, .val (.long yc), .second, .val (.long yd), .second, .val (.int kk), .val (.int (1 : Int32)), .val (.ref b37), .val (.ref rr_51), .val (.ref rr_67)] [(.ref rr_67)])) rfl rfl (hb hby at_137) _ k') ?_
    rw [len_of Sz77 Nn77]
    show Go p e below s _ _ _ (T67.setTop (mkF m 138 #[.val (.long ya), .second, .val (.long yb), .second, .val (.long yc), .second, .val (.long yd), .second, .val (.int kk), .val (.int (1 : Int32)), .val (.ref b37), .val (.ref rr_51), .val (.ref rr_67)] [(.int (2 : Int32))]))
    refine Go.st (fun _ k' => XS.iload X67.here hx rfl (hb hby at_138) rfl k') ?_
    show Go p e below s _ _ _ (T67.setTop (mkF m 140 #[.val (.long ya), .second, .val (.long yb), .second, .val (.long yc), .second, .val (.long yd), .second, .val (.int kk), .val (.int (1 : Int32)), .val (.ref b37), .val (.ref rr_51), .val (.ref rr_67)] [(.int (1 : Int32)), (.int (2 : Int32))]))
    refine Go.st (fun _ k' => XS.iconst X67.here hx rfl (hb hby at_140) k') ?_
    show Go p e below s _ _ _ (T67.setTop (mkF m 141 #[.val (.long ya), .second, .val (.long yb), .second, .val (.long yc), .second, .val (.long yd), .second, .val (.int kk), .val (.int (1 : Int32)), .val (.ref b37), .val (.ref rr_51), .val (.ref rr_67)] [(.int (1 : Int32)), (.int (1 : Int32)), (.int (2 : Int32))]))
    refine Go.st (fun _ k' => XS.iadd X67.here hx rfl (hb hby at_141) rfl k') ?_
    show Go p e below s _ _ _ (T67.setTop (mkF m 142 #[.val (.long ya), .second, .val (.long yb), .second, .val (.long yc), .second, .val (.long yd), .second, .val (.int kk), .val (.int (1 : Int32)), .val (.ref b37), .val (.ref rr_51), .val (.ref rr_67)] [(.int (2 : Int32)), (.int (2 : Int32))]))
    refine Go.st (fun _ k' => XS.icmpYes X67.here hx rfl (pc0 := 142) (pc' := 147) rfl (hb hby at_142) rfl (XT.ii_eq_t (by decide)) (by decide) (by decide) k') ?_
    show Go p e below s _ _ _ (T67.setTop (mkF m 147 #[.val (.long ya), .second, .val (.long yb), .second, .val (.long yc), .second, .val (.long yd), .second, .val (.int kk), .val (.int (1 : Int32)), .val (.ref b37), .val (.ref rr_51), .val (.ref rr_67)] []))
    refine Go.st (fun _ k' => XS.aload X67.here hx rfl (hb hby at_147) rfl rfl k') ?_
    show Go p e below s _ _ _ (T67.setTop (mkF m 149 #[.val (.long ya), .second, .val (.long yb), .second, .val (.long yc), .second, .val (.long yd), .second, .val (.int kk), .val (.int (1 : Int32)), .val (.ref b37), .val (.ref rr_51), .val (.ref rr_67)] [(.ref rr_67)]))
    refine Go.st (fun _ k' => XS.iload X67.here hx rfl (hb hby at_149) rfl k') ?_
    show Go p e below s _ _ _ (T67.setTop (mkF m 151 #[.val (.long ya), .second, .val (.long yb), .second, .val (.long yc), .second, .val (.long yd), .second, .val (.int kk), .val (.int (1 : Int32)), .val (.ref b37), .val (.ref rr_51), .val (.ref rr_67)] [(.int (1 : Int32)), (.ref rr_67)]))
    obtain ⟨cl78, Ar78, qc78, Sz78, Nn78, Ha78, Gf78⟩ := id f68
    refine Go.st (fun _ k' => X67.laload hx (j := (1 : Int32)) (v := (.long yd)) Ar78.1 (State.isArrayOf_alike hZ.alike Ar78.2.1) Ar78.2.2 (inb_of Sz78 ⟨by decide, by decide⟩) (Ha78.at (inb_of Sz78 ⟨by decide, by decide⟩) rfl) (g := (mkF m 151 #[.val (.long ya), .second, .val (.long yb), .second, .val (.long yc), .second, .val (.long yd), .second, .val (.int kk), .val (.int (1 : Int32)), .val (.ref b37), .val (.ref rr_51), .val (.ref rr_67)] [(.int (1 : Int32)), (.ref rr_67)])) rfl rfl (hb hby at_151) _ k') ?_
    show Go p e below s _ _ _ (T67.setTop (mkF m 152 #[.val (.long ya), .second, .val (.long yb), .second, .val (.long yc), .second, .val (.long yd), .second, .val (.int kk), .val (.int (1 : Int32)), .val (.ref b37), .val (.ref rr_51), .val (.ref rr_67)] [(.long yd)]))
    refine Go.st (fun _ k' => XS.lload X67.here hx rfl (hb hby at_152) rfl k') ?_
    show Go p e below s _ _ _ (T67.setTop (mkF m 154 #[.val (.long ya), .second, .val (.long yb), .second, .val (.long yc), .second, .val (.long yd), .second, .val (.int kk), .val (.int (1 : Int32)), .val (.ref b37), .val (.ref rr_51), .val (.ref rr_67)] [(.long yd), (.long yd)]))
    refine Go.st (fun _ k' => XT.lcmp X67.here hx rfl (hb hby at_154) rfl k') ?_
    show Go p e below s _ _ _ (T67.setTop (mkF m 155 #[.val (.long ya), .second, .val (.long yb), .second, .val (.long yc), .second, .val (.long yd), .second, .val (.int kk), .val (.int (1 : Int32)), .val (.ref b37), .val (.ref rr_51), .val (.ref rr_67)] [(.int (XT.cmpL yd yd))]))
    refine Go.st (fun _ k' => XS.ifYes X67.here hx rfl (pc0 := 155) (pc' := 160) rfl (hb hby at_155) rfl (XT.ll_eq_t rfl) (by decide) (by decide) k') ?_
    show Go p e below s _ _ _ (T67.setTop (mkF m 160 #[.val (.long ya), .second, .val (.long yb), .second, .val (.long yc), .second, .val (.long yd), .second, .val (.int kk), .val (.int (1 : Int32)), .val (.ref b37), .val (.ref rr_51), .val (.ref rr_67)] []))
    refine Go.st (fun _ k' => XS.iload X67.here hx rfl (hb hby at_160) rfl k') ?_
    show Go p e below s _ _ _ (T67.setTop (mkF m 162 #[.val (.long ya), .second, .val (.long yb), .second, .val (.long yc), .second, .val (.long yd), .second, .val (.int kk), .val (.int (1 : Int32)), .val (.ref b37), .val (.ref rr_51), .val (.ref rr_67)] [(.int (1 : Int32))]))
    refine Go.st (fun _ k' => XS.iconst X67.here hx rfl (hb hby at_162) k') ?_
    show Go p e below s _ _ _ (T67.setTop (mkF m 163 #[.val (.long ya), .second, .val (.long yb), .second, .val (.long yc), .second, .val (.long yd), .second, .val (.int kk), .val (.int (1 : Int32)), .val (.ref b37), .val (.ref rr_51), .val (.ref rr_67)] [(.int (1 : Int32)), (.int (1 : Int32))]))
    refine Go.st (fun _ k' => XS.icmpNo X67.here hx rfl (hb hby at_163) rfl (XT.ii_lt_f (by decide)) k') ?_
    show Go p e below s _ _ _ (T67.setTop (mkF m 166 #[.val (.long ya), .second, .val (.long yb), .second, .val (.long yc), .second, .val (.long yd), .second, .val (.int kk), .val (.int (1 : Int32)), .val (.ref b37), .val (.ref rr_51), .val (.ref rr_67)] []))
    refine Go.st (fun _ k' => XS.aload X67.here hx rfl (hb hby at_166) rfl rfl k') ?_
    show Go p e below s _ _ _ (T67.setTop (mkF m 168 #[.val (.long ya), .second, .val (.long yb), .second, .val (.long yc), .second, .val (.long yd), .second, .val (.int kk), .val (.int (1 : Int32)), .val (.ref b37), .val (.ref rr_51), .val (.ref rr_67)] [(.ref rr_67)]))
    refine Go.st (fun _ k' => XS.iconst X67.here hx rfl (hb hby at_168) k') ?_
    show Go p e below s _ _ _ (T67.setTop (mkF m 169 #[.val (.long ya), .second, .val (.long yb), .second, .val (.long yc), .second, .val (.long yd), .second, .val (.int kk), .val (.int (1 : Int32)), .val (.ref b37), .val (.ref rr_51), .val (.ref rr_67)] [(.int (0 : Int32)), (.ref rr_67)]))
    obtain ⟨cl79, Ar79, qc79, Sz79, Nn79, Ha79, Gf79⟩ := id f68
    refine Go.st (fun _ k' => X67.laload hx (j := (0 : Int32)) (v := (.long ya)) Ar79.1 (State.isArrayOf_alike hZ.alike Ar79.2.1) Ar79.2.2 (inb_of Sz79 ⟨by decide, by decide⟩) (Ha79.at (inb_of Sz79 ⟨by decide, by decide⟩) rfl) (g := (mkF m 169 #[.val (.long ya), .second, .val (.long yb), .second, .val (.long yc), .second, .val (.long yd), .second, .val (.int kk), .val (.int (1 : Int32)), .val (.ref b37), .val (.ref rr_51), .val (.ref rr_67)] [(.int (0 : Int32)), (.ref rr_67)])) rfl rfl (hb hby at_169) _ k') ?_
    show Go p e below s _ _ _ (T67.setTop (mkF m 170 #[.val (.long ya), .second, .val (.long yb), .second, .val (.long yc), .second, .val (.long yd), .second, .val (.int kk), .val (.int (1 : Int32)), .val (.ref b37), .val (.ref rr_51), .val (.ref rr_67)] [(.long ya)]))
    refine Go.st (fun _ k' => XS.lloadN X67.here hx rfl (hb hby at_170) rfl k') ?_
    show Go p e below s _ _ _ (T67.setTop (mkF m 171 #[.val (.long ya), .second, .val (.long yb), .second, .val (.long yc), .second, .val (.long yd), .second, .val (.int kk), .val (.int (1 : Int32)), .val (.ref b37), .val (.ref rr_51), .val (.ref rr_67)] [(.long ya), (.long ya)]))
    refine Go.st (fun _ k' => XT.lcmp X67.here hx rfl (hb hby at_171) rfl k') ?_
    show Go p e below s _ _ _ (T67.setTop (mkF m 172 #[.val (.long ya), .second, .val (.long yb), .second, .val (.long yc), .second, .val (.long yd), .second, .val (.int kk), .val (.int (1 : Int32)), .val (.ref b37), .val (.ref rr_51), .val (.ref rr_67)] [(.int (XT.cmpL ya ya))]))
    refine Go.st (fun _ k' => XS.ifYes X67.here hx rfl (pc0 := 172) (pc' := 177) rfl (hb hby at_172) rfl (XT.ll_eq_t rfl) (by decide) (by decide) k') ?_
    show Go p e below s _ _ _ (T67.setTop (mkF m 177 #[.val (.long ya), .second, .val (.long yb), .second, .val (.long yc), .second, .val (.long yd), .second, .val (.int kk), .val (.int (1 : Int32)), .val (.ref b37), .val (.ref rr_51), .val (.ref rr_67)] []))
    refine Go.st (fun _ k' => XS.iload X67.here hx rfl (hb hby at_177) rfl k') ?_
    show Go p e below s _ _ _ (T67.setTop (mkF m 179 #[.val (.long ya), .second, .val (.long yb), .second, .val (.long yc), .second, .val (.long yd), .second, .val (.int kk), .val (.int (1 : Int32)), .val (.ref b37), .val (.ref rr_51), .val (.ref rr_67)] [(.int (1 : Int32))]))
    refine Go.st (fun _ k' => XS.iconst X67.here hx rfl (hb hby at_179) k') ?_
    show Go p e below s _ _ _ (T67.setTop (mkF m 180 #[.val (.long ya), .second, .val (.long yb), .second, .val (.long yc), .second, .val (.long yd), .second, .val (.int kk), .val (.int (1 : Int32)), .val (.ref b37), .val (.ref rr_51), .val (.ref rr_67)] [(.int (2 : Int32)), (.int (1 : Int32))]))
    refine Go.st (fun _ k' => XS.icmpYes X67.here hx rfl (pc0 := 180) (pc' := 194) rfl (hb hby at_180) rfl (XT.ii_lt_t (by decide)) (by decide) (by decide) k') ?_
    show Go p e below s _ _ _ (T67.setTop (mkF m 194 #[.val (.long ya), .second, .val (.long yb), .second, .val (.long yc), .second, .val (.long yd), .second, .val (.int kk), .val (.int (1 : Int32)), .val (.ref b37), .val (.ref rr_51), .val (.ref rr_67)] []))
    refine Go.st (fun _ k' => XS.iload X67.here hx rfl (hb hby at_194) rfl k') ?_
    show Go p e below s _ _ _ (T67.setTop (mkF m 196 #[.val (.long ya), .second, .val (.long yb), .second, .val (.long yc), .second, .val (.long yd), .second, .val (.int kk), .val (.int (1 : Int32)), .val (.ref b37), .val (.ref rr_51), .val (.ref rr_67)] [(.int (1 : Int32))]))
    refine Go.st (fun _ k' => XS.iconst X67.here hx rfl (hb hby at_196) k') ?_
    show Go p e below s _ _ _ (T67.setTop (mkF m 197 #[.val (.long ya), .second, .val (.long yb), .second, .val (.long yc), .second, .val (.long yd), .second, .val (.int kk), .val (.int (1 : Int32)), .val (.ref b37), .val (.ref rr_51), .val (.ref rr_67)] [(.int (3 : Int32)), (.int (1 : Int32))]))
    refine Go.st (fun _ k' => XS.icmpYes X67.here hx rfl (pc0 := 197) (pc' := 212) rfl (hb hby at_197) rfl (XT.ii_lt_t (by decide)) (by decide) (by decide) k') ?_
    show Go p e below s _ _ _ (T67.setTop (mkF m 212 #[.val (.long ya), .second, .val (.long yb), .second, .val (.long yc), .second, .val (.long yd), .second, .val (.int kk), .val (.int (1 : Int32)), .val (.ref b37), .val (.ref rr_51), .val (.ref rr_67)] []))
    refine Go.st (fun _ k' => XS.iconst X67.here hx rfl (hb hby at_212) k') ?_
    show Go p e below s _ _ _ (T67.setTop (mkF m 213 #[.val (.long ya), .second, .val (.long yb), .second, .val (.long yc), .second, .val (.long yd), .second, .val (.int kk), .val (.int (1 : Int32)), .val (.ref b37), .val (.ref rr_51), .val (.ref rr_67)] [(.int (1 : Int32))]))
    refine Go.retB X67 hx hlk (t := .boolean) Bd.returns (by simp) (hb hby at_213) (by decide) (by decide) rfl ?_
    exact ⟨rfl, N67, trivial⟩
  · rw [hi]
    show Go p e below s _ _ _ (s₁.setTop (mkF m 6 #[.val (.long ya), .second, .val (.long yb), .second, .val (.long yc), .second, .val (.long yd), .second, .val (.int kk), .val (.int (2 : Int32)), .unset, .unset, .unset] []))
    obtain ⟨T80, h80, X80, e80, E80, A80, D80, -, st80⟩ := newO X0 hx hZ hown (wdx hw 0 rfl) (wdx hw 1 rfl) (wdx hw 2 rfl) e0 (g := (mkF m 6 #[.val (.long ya), .second, .val (.long yb), .second, .val (.long yc), .second, .val (.long yd), .second, .val (.int kk), .val (.int (2 : Int32)), .unset, .unset, .unset] [])) rfl (hb hby at_6) (by decide) (by decide)
    obtain ⟨b80, g80⟩ : ∃ z, z = h0.size := ⟨_, rfl⟩
    rw [← g80] at A80 D80 st80
    refine Go.st st80 ?_
    have g_b80 : n0 ≤ b80 := Nat.le_trans (own_le O0) (Nat.le_of_eq g80.symm)
    have O80 : Old Z n0 h80 := O0.ext E80
    have f81 : Fld Z h80 b80 "com/example/spillway/spillway/runtime/Latencies" "nanos" "[J" .null := D80 (Or.inl (wdx hw 11 rfl)) (ty := (.array .long)) (by decide)
    have f82 : Fld Z h80 b80 "com/example/spillway/spillway/runtime/Latencies" "count" "I" (.int (0 : Int32)) := D80 (Or.inl (wdx hw 18 rfl)) (ty := .int) (by decide)
    show Go p e below s _ _ _ (T80.setTop (mkF m 9 #[.val (.long ya), .second, .val (.long yb), .second, .val (.long yc), .second, .val (.long yd), .second, .val (.int kk), .val (.int (2 : Int32)), .unset, .unset, .unset] [(.ref b80)]))
    refine Go.st (fun _ k' => XS.dup X80.here hx rfl (hb hby at_9) rfl rfl k') ?_
    show Go p e below s _ _ _ (T80.setTop (mkF m 10 #[.val (.long ya), .second, .val (.long yb), .second, .val (.long yc), .second, .val (.long yd), .second, .val (.int kk), .val (.int (2 : Int32)), .unset, .unset, .unset] [(.ref b80), (.ref b80)]))
    obtain ⟨_, _, ⟨T83, L83, k83, n83⟩, -, X83, ⟨Lc83, hQ83, l83, y83, z83⟩, st83⟩ := X80.specialBack hx (y := (⟨"com/example/spillway/spillway/runtime/Latencies", "<init>", "()V"⟩ : MethodName)) rfl hown (mvT hZ (wdx hw 3 rfl)) (mvT hZ (wdx hw 4 rfl)) (mvT hZ (wdx hw 5 rfl)) (by decide) (backOf (W := 1) (rm1 l Z a0 hw [] b80 h80 n0 O80 A80 f81 f82 g_b80) hZ (wdx hw 5 rfl) (wdx hw 2 rfl) (by decide) (by decide)) (g := (mkF m 10 #[.val (.long ya), .second, .val (.long yb), .second, .val (.long yc), .second, .val (.long yd), .second, .val (.int kk), .val (.int (2 : Int32)), .unset, .unset, .unset] [(.ref b80), (.ref b80)])) rfl (by rw [hml]; rfl) (Steps.refl _) (a := b80) (argsL := []) (rest := [(.ref b80)]) (lenOf pd___V rfl) rfl (by show 2 * 0 + _ ≤ _; exact Nat.le_of_eq rfl) (hb hby at_10) (fun _ _ => ⟨rfl, e80, (by exact Nat.le_of_ble_eq_true rfl), (by exact Nat.le_of_ble_eq_true rfl)⟩)
    dsimp only [Pt.U, Pt.locs, Pt.cells, Pt.slots] at X83 l83 y83 z83 st83 hQ83
    subst l83 y83 z83
    obtain ⟨na_83, kn_83, rfl, Nq83, Kq83, f84, f85, f86, szn_83⟩ := hQ83
    have N83 := Fr.app N0 Nq83
    refine Go.tr st83 ?_
    have f87 : Exa Z T83.heap b80 "com/example/spillway/spillway/runtime/Latencies" := A80.keep Kq83
    have O83 : Old Z n0 T83.heap := O80.keep Kq83 (allS g_b80 all0)
    have g_na_83 : n0 ≤ na_83 := Nat.le_trans (own_le O80) szn_83
    have ne88 : b80 ≠ na_83 := Nat.ne_of_lt (Nat.lt_of_lt_of_le A80.lt szn_83)
    show Go p e below s _ _ _ (T83.setTop (mkF m 13 #[.val (.long ya), .second, .val (.long yb), .second, .val (.long yc), .second, .val (.long yd), .second, .val (.int kk), .val (.int (2 : Int32)), .unset, .unset, .unset] [(.ref b80)]))
    refine Go.st (fun _ k' => XS.astore X83.here hx rfl (hb hby at_13) rfl rfl (l' := #[.val (.long ya), .second, .val (.long yb), .second, .val (.long yc), .second, .val (.long yd), .second, .val (.int kk), .val (.int (2 : Int32)), .val (.ref b80), .unset, .unset]) rfl k') ?_
    show Go p e below s _ _ _ (T83.setTop (mkF m 15 #[.val (.long ya), .second, .val (.long yb), .second, .val (.long yc), .second, .val (.long yd), .second, .val (.int kk), .val (.int (2 : Int32)), .val (.ref b80), .unset, .unset] []))
    refine Go.st (fun _ k' => XS.iload X83.here hx rfl (hb hby at_15) rfl k') ?_
    show Go p e below s _ _ _ (T83.setTop (mkF m 17 #[.val (.long ya), .second, .val (.long yb), .second, .val (.long yc), .second, .val (.long yd), .second, .val (.int kk), .val (.int (2 : Int32)), .val (.ref b80), .unset, .unset] [(.int (2 : Int32))]))
    refine Go.st (fun _ k' => XS.iconst X83.here hx rfl (hb hby at_17) k') ?_
    show Go p e below s _ _ _ (T83.setTop (mkF m 18 #[.val (.long ya), .second, .val (.long yb), .second, .val (.long yc), .second, .val (.long yd), .second, .val (.int kk), .val (.int (2 : Int32)), .val (.ref b80), .unset, .unset] [(.int (1 : Int32)), (.int (2 : Int32))]))
    refine Go.st (fun _ k' => XS.icmpNo X83.here hx rfl (hb hby at_18) rfl (XT.ii_lt_f (by decide)) k') ?_
    show Go p e below s _ _ _ (T83.setTop (mkF m 21 #[.val (.long ya), .second, .val (.long yb), .second, .val (.long yc), .second, .val (.long yd), .second, .val (.int kk), .val (.int (2 : Int32)), .val (.ref b80), .unset, .unset] []))
    refine Go.st (fun _ k' => XS.aload X83.here hx rfl (hb hby at_21) rfl rfl k') ?_
    show Go p e below s _ _ _ (T83.setTop (mkF m 23 #[.val (.long ya), .second, .val (.long yb), .second, .val (.long yc), .second, .val (.long yd), .second, .val (.int kk), .val (.int (2 : Int32)), .val (.ref b80), .unset, .unset] [(.ref b80)]))
    refine Go.st (fun _ k' => XS.lloadN X83.here hx rfl (hb hby at_23) rfl k') ?_
    show Go p e below s _ _ _ (T83.setTop (mkF m 24 #[.val (.long ya), .second, .val (.long yb), .second, .val (.long yc), .second, .val (.long yd), .second, .val (.int kk), .val (.int (2 : Int32)), .val (.ref b80), .unset, .unset] [(.long ya), (.ref b80)]))
    obtain ⟨cq89, kq89, q89a, q89b, q89c⟩ := isOf hZ rfl f87
    obtain ⟨_, _, ⟨T89, L89, k89, n89⟩, -, X89, ⟨Lc89, hQ89, l89, y89, z89⟩, st89⟩ := X83.virtualBack hx (y := (⟨"com/example/spillway/spillway/runtime/Latencies", "add", "(J)V"⟩ : MethodName)) (z := (⟨"com/example/spillway/spillway/runtime/Latencies", "add", "(J)V"⟩ : MethodName)) hown (mvT hZ (wdx hw 12 rfl)) (mvT hZ (wdx hw 13 rfl)) (notFace_of_selects (args := #[]) (mvT hZ (wdx hw 15 rfl))) (mvT hZ (wdx hw 15 rfl)) (mvT hZ (wdx hw 14 rfl)) (by decide) (backOf (W := 0) (rm3_0 l Z a0 hw [] b80 ya na_83 kn_83 (0 : Int64) (0 : Int64) (0 : Int64) (0 : Int64) T83.heap n0 O83 f87 f84 f85 f86 g_b80 g_na_83 ne88) hZ (wdx hw 16 rfl) (wdx hw 2 rfl) (by decide) (by decide)) q89a q89c (g := (mkF m 24 #[.val (.long ya), .second, .val (.long yb), .second, .val (.long yc), .second, .val (.long yd), .second, .val (.int kk), .val (.int (2 : Int32)), .val (.ref b80), .unset, .unset] [(.long ya), (.ref b80)])) rfl (by rw [hml]; rfl) (Steps.refl _) (argsL := [(.long ya)]) (rest := []) (lenOf pd__J_V rfl) rfl (by show 2 * 0 + _ ≤ _; exact Nat.le_of_eq rfl) (hb hby at_24) (fun _ _ => ⟨rfl, rfl, (by exact Nat.le_of_ble_eq_true rfl), (by exact Nat.le_of_ble_eq_true rfl)⟩)
    dsimp only [Pt.U, Pt.locs, Pt.cells, Pt.slots] at X89 l89 y89 z89 st89 hQ89
    subst l89 y89 z89
    obtain ⟨rfl, Nq89, Kq89, f90, f91, f92⟩ := hQ89
    have N89 := Fr.app N83 Nq89
    refine Go.tr st89 ?_
    have f93 : Exa Z T89.heap b80 "com/example/spillway/spillway/runtime/Latencies" := f87.keep Kq89
    have O89 : Old Z n0 T89.heap := O83.keep Kq89 (allS g_b80 (allS g_na_83 all0))
    show Go p e below s _ _ _ (T89.setTop (mkF m 27 #[.val (.long ya), .second, .val (.long yb), .second, .val (.long yc), .second, .val (.long yd), .second, .val (.int kk), .val (.int (2 : Int32)), .val (.ref b80), .unset, .unset] []))
    refine Go.st (fun _ k' => XS.iload X89.here hx rfl (hb hby at_27) rfl k') ?_
    show Go p e below s _ _ _ (T89.setTop (mkF m 29 #[.val (.long ya), .second, .val (.long yb), .second, .val (.long yc), .second, .val (.long yd), .second, .val (.int kk), .val (.int (2 : Int32)), .val (.ref b80), .unset, .unset] [(.int (2 : Int32))]))
    refine Go.st (fun _ k' => XS.iconst X89.here hx rfl (hb hby at_29) k') ?_
    show Go p e below s _ _ _ (T89.setTop (mkF m 30 #[.val (.long ya), .second, .val (.long yb), .second, .val (.long yc), .second, .val (.long yd), .second, .val (.int kk), .val (.int (2 : Int32)), .val (.ref b80), .unset, .unset] [(.int (2 : Int32)), (.int (2 : Int32))]))
    refine Go.st (fun _ k' => XS.icmpNo X89.here hx rfl (hb hby at_30) rfl (XT.ii_lt_f (by decide)) k') ?_
    show Go p e below s _ _ _ (T89.setTop (mkF m 33 #[.val (.long ya), .second, .val (.long yb), .second, .val (.long yc), .second, .val (.long yd), .second, .val (.int kk), .val (.int (2 : Int32)), .val (.ref b80), .unset, .unset] []))
    refine Go.st (fun _ k' => XS.aload X89.here hx rfl (hb hby at_33) rfl rfl k') ?_
    show Go p e below s _ _ _ (T89.setTop (mkF m 35 #[.val (.long ya), .second, .val (.long yb), .second, .val (.long yc), .second, .val (.long yd), .second, .val (.int kk), .val (.int (2 : Int32)), .val (.ref b80), .unset, .unset] [(.ref b80)]))
    refine Go.st (fun _ k' => XS.lloadN X89.here hx rfl (hb hby at_35) rfl k') ?_
    show Go p e below s _ _ _ (T89.setTop (mkF m 36 #[.val (.long ya), .second, .val (.long yb), .second, .val (.long yc), .second, .val (.long yd), .second, .val (.int kk), .val (.int (2 : Int32)), .val (.ref b80), .unset, .unset] [(.long yb), (.ref b80)]))
    obtain ⟨cq94, kq94, q94a, q94b, q94c⟩ := isOf hZ rfl f93
    obtain ⟨_, _, ⟨T94, L94, k94, n94⟩, -, X94, ⟨Lc94, hQ94, l94, y94, z94⟩, st94⟩ := X89.virtualBack hx (y := (⟨"com/example/spillway/spillway/runtime/Latencies", "add", "(J)V"⟩ : MethodName)) (z := (⟨"com/example/spillway/spillway/runtime/Latencies", "add", "(J)V"⟩ : MethodName)) hown (mvT hZ (wdx hw 12 rfl)) (mvT hZ (wdx hw 13 rfl)) (notFace_of_selects (args := #[]) (mvT hZ (wdx hw 15 rfl))) (mvT hZ (wdx hw 15 rfl)) (mvT hZ (wdx hw 14 rfl)) (by decide) (backOf (W := 0) (rm3_1 l Z a0 hw [] b80 yb na_83 kn_83 ya (0 : Int64) (0 : Int64) (0 : Int64) T89.heap n0 O89 f93 f90 f91 f92 g_b80 g_na_83 ne88) hZ (wdx hw 16 rfl) (wdx hw 2 rfl) (by decide) (by decide)) q94a q94c (g := (mkF m 36 #[.val (.long ya), .second, .val (.long yb), .second, .val (.long yc), .second, .val (.long yd), .second, .val (.int kk), .val (.int (2 : Int32)), .val (.ref b80), .unset, .unset] [(.long yb), (.ref b80)])) rfl (by rw [hml]; rfl) (Steps.refl _) (argsL := [(.long yb)]) (rest := []) (lenOf pd__J_V rfl) rfl (by show 2 * 0 + _ ≤ _; exact Nat.le_of_eq rfl) (hb hby at_36) (fun _ _ => ⟨rfl, rfl, (by exact Nat.le_of_ble_eq_true rfl), (by exact Nat.le_of_ble_eq_true rfl)⟩)
    dsimp only [Pt.U, Pt.locs, Pt.cells, Pt.slots] at X94 l94 y94 z94 st94 hQ94
    subst l94 y94 z94
    obtain ⟨rfl, Nq94, Kq94, f95, f96, f97⟩ := hQ94
    have N94 := Fr.app N89 Nq94
    refine Go.tr st94 ?_
    have f98 : Exa Z T94.heap b80 "com/example/spillway/spillway/runtime/Latencies" := f93.keep Kq94
    have O94 : Old Z n0 T94.heap := O89.keep Kq94 (allS g_b80 (allS g_na_83 all0))
    show Go p e below s _ _ _ (T94.setTop (mkF m 39 #[.val (.long ya), .second, .val (.long yb), .second, .val (.long yc), .second, .val (.long yd), .second, .val (.int kk), .val (.int (2 : Int32)), .val (.ref b80), .unset, .unset] []))
    refine Go.st (fun _ k' => XS.iload X94.here hx rfl (hb hby at_39) rfl k') ?_
    show Go p e below s _ _ _ (T94.setTop (mkF m 41 #[.val (.long ya), .second, .val (.long yb), .second, .val (.long yc), .second, .val (.long yd), .second, .val (.int kk), .val (.int (2 : Int32)), .val (.ref b80), .unset, .unset] [(.int (2 : Int32))]))
    refine Go.st (fun _ k' => XS.iconst X94.here hx rfl (hb hby at_41) k') ?_
    show Go p e below s _ _ _ (T94.setTop (mkF m 42 #[.val (.long ya), .second, .val (.long yb), .second, .val (.long yc), .second, .val (.long yd), .second, .val (.int kk), .val (.int (2 : Int32)), .val (.ref b80), .unset, .unset] [(.int (3 : Int32)), (.int (2 : Int32))]))
    refine Go.st (fun _ k' => XS.icmpYes X94.here hx rfl (pc0 := 42) (pc' := 52) rfl (hb hby at_42) rfl (XT.ii_lt_t (by decide)) (by decide) (by decide) k') ?_
    show Go p e below s _ _ _ (T94.setTop (mkF m 52 #[.val (.long ya), .second, .val (.long yb), .second, .val (.long yc), .second, .val (.long yd), .second, .val (.int kk), .val (.int (2 : Int32)), .val (.ref b80), .unset, .unset] []))
    refine Go.st (fun _ k' => XS.aload X94.here hx rfl (hb hby at_52) rfl rfl k') ?_
    show Go p e below s _ _ _ (T94.setTop (mkF m 54 #[.val (.long ya), .second, .val (.long yb), .second, .val (.long yc), .second, .val (.long yd), .second, .val (.int kk), .val (.int (2 : Int32)), .val (.ref b80), .unset, .unset] [(.ref b80)]))
    obtain ⟨cq99, kq99, q99a, q99b, q99c⟩ := isOf hZ rfl f98
    obtain ⟨_, _, ⟨T99, L99, k99, n99⟩, -, X99, ⟨Lc99, hQ99, l99, y99, z99⟩, st99⟩ := X94.virtualBack hx (y := (⟨"com/example/spillway/spillway/runtime/Latencies", "toArray", "()[J"⟩ : MethodName)) (z := (⟨"com/example/spillway/spillway/runtime/Latencies", "toArray", "()[J"⟩ : MethodName)) hown (mvT hZ (wdx hw 19 rfl)) (mvT hZ (wdx hw 20 rfl)) (notFace_of_selects (args := #[]) (mvT hZ (wdx hw 22 rfl))) (mvT hZ (wdx hw 22 rfl)) (mvT hZ (wdx hw 21 rfl)) (by decide) (backOf (W := 0) (rm4_2 l Z a0 hw [] b80 na_83 kn_83 ya yb (0 : Int64) (0 : Int64) T94.heap n0 O94 f95 f96 f97) hZ (wdx hw 23 rfl) (wdx hw 2 rfl) (by decide) (by decide)) q99a q99c (g := (mkF m 54 #[.val (.long ya), .second, .val (.long yb), .second, .val (.long yc), .second, .val (.long yd), .second, .val (.int kk), .val (.int (2 : Int32)), .val (.ref b80), .unset, .unset] [(.ref b80)])) rfl (by rw [hml]; rfl) (Steps.refl _) (argsL := []) (rest := []) (lenOf pd____J rfl) rfl (by show 2 * 0 + _ ≤ _; exact Nat.le_of_eq rfl) (hb hby at_54) (fun _ _ => ⟨rfl, rfl, (by exact Nat.le_of_ble_eq_true rfl), (by exact Nat.le_of_ble_eq_true rfl)⟩)
    dsimp only [Pt.U, Pt.locs, Pt.cells, Pt.slots] at X99 l99 y99 z99 st99 hQ99
    subst l99 y99 z99
    obtain ⟨rr_99, kr_99, rfl, Nq99, Kq99, f100, szr_99⟩ := hQ99
    have N99 := Fr.app N94 Nq99
    refine Go.tr st99 ?_
    have f101 : Exa Z T99.heap b80 "com/example/spillway/spillway/runtime/Latencies" := f98.keep Kq99
    have f102 : Fld Z T99.heap b80 "com/example/spillway/spillway/runtime/Latencies" "nanos" "[J" (.ref na_83) := f95.keep Kq99 nin0
    have f103 : Fld Z T99.heap b80 "com/example/spillway/spillway/runtime/Latencies" "count" "I" (.int (2 : Int32)) := f96.keep Kq99 nin0
    have f104 : Arv Z T99.heap na_83 kn_83 .long (256 : Int32) [(.long ya), (.long yb), (.long (0 : Int64)), (.long (0 : Int64))] (.long (0 : Int64)) := f97.keep Kq99 nin0
    have O99 : Old Z n0 T99.heap := O94.keep Kq99 all0
    have g_rr_99 : n0 ≤ rr_99 := Nat.le_trans (own_le O94) szr_99
    have ne105 : b80 ≠ rr_99 := Nat.ne_of_lt (Nat.lt_of_lt_of_le f98.lt szr_99)
    have ne106 : na_83 ≠ rr_99 := Nat.ne_of_lt (Nat.lt_of_lt_of_le f97.lt szr_99)
    show Go p e below s _ _ _ (T99.setTop (mkF m 57 #[.val (.long ya), .second, .val (.long yb), .second, .val (.long yc), .second, .val (.long yd), .second, .val (.int kk), .val (.int (2 : Int32)), .val (.ref b80), .unset, .unset] [(.ref rr_99)]))
    refine Go.st (fun _ k' => XS.astore X99.here hx rfl (hb hby at_57) rfl rfl (l' := #[.val (.long ya), .second, .val (.long yb), .second, .val (.long yc), .second, .val (.long yd), .second, .val (.int kk), .val (.int (2 : Int32)), .val (.ref b80), .val (.ref rr_99), .unset]) rfl k') ?_
    show Go p e below s _ _ _ (T99.setTop (mkF m 59 #[.val (.long ya), .second, .val (.long yb), .second, .val (.long yc), .second, .val (.long yd), .second, .val (.int kk), .val (.int (2 : Int32)), .val (.ref b80), .val (.ref rr_99), .unset] []))
    refine Go.st (fun _ k' => XS.aload X99.here hx rfl (hb hby at_59) rfl rfl k') ?_
    show Go p e below s _ _ _ (T99.setTop (mkF m 61 #[.val (.long ya), .second, .val (.long yb), .second, .val (.long yc), .second, .val (.long yd), .second, .val (.int kk), .val (.int (2 : Int32)), .val (.ref b80), .val (.ref rr_99), .unset] [(.ref rr_99)]))
    obtain ⟨cl107, Ar107, qc107, Sz107, Nn107, Ha107, Gf107⟩ := id f100
    refine Go.st (fun _ k' => X99.arraylength hx Ar107.1 (State.isArrayOf_alike hZ.alike Ar107.2.1) (g := (mkF m 61 #[.val (.long ya), .second, .val (.long yb), .second, .val (.long yc), .second, .val (.long yd), .second, .val (.int kk), .val (.int (2 : Int32)), .val (.ref b80), .val (.ref rr_99), .unset] [(.ref rr_99)])) rfl rfl (hb hby at_61) _ k') ?_
    rw [len_of Sz107 Nn107]
    show Go p e below s _ _ _ (T99.setTop (mkF m 62 #[.val (.long ya), .second, .val (.long yb), .second, .val (.long yc), .second, .val (.long yd), .second, .val (.int kk), .val (.int (2 : Int32)), .val (.ref b80), .val (.ref rr_99), .unset] [(.int (2 : Int32))]))
    refine Go.st (fun _ k' => XS.iload X99.here hx rfl (hb hby at_62) rfl k') ?_
    show Go p e below s _ _ _ (T99.setTop (mkF m 64 #[.val (.long ya), .second, .val (.long yb), .second, .val (.long yc), .second, .val (.long yd), .second, .val (.int kk), .val (.int (2 : Int32)), .val (.ref b80), .val (.ref rr_99), .unset] [(.int (2 : Int32)), (.int (2 : Int32))]))
    refine Go.st (fun _ k' => XS.icmpYes X99.here hx rfl (pc0 := 64) (pc' := 69) rfl (hb hby at_64) rfl (XT.ii_eq_t (by decide)) (by decide) (by decide) k') ?_
    show Go p e below s _ _ _ (T99.setTop (mkF m 69 #[.val (.long ya), .second, .val (.long yb), .second, .val (.long yc), .second, .val (.long yd), .second, .val (.int kk), .val (.int (2 : Int32)), .val (.ref b80), .val (.ref rr_99), .unset] []))
    refine Go.st (fun _ k' => XS.iload X99.here hx rfl (hb hby at_69) rfl k') ?_
    show Go p e below s _ _ _ (T99.setTop (mkF m 71 #[.val (.long ya), .second, .val (.long yb), .second, .val (.long yc), .second, .val (.long yd), .second, .val (.int kk), .val (.int (2 : Int32)), .val (.ref b80), .val (.ref rr_99), .unset] [(.int (2 : Int32))]))
    refine Go.st (fun _ k' => XS.iconst X99.here hx rfl (hb hby at_71) k') ?_
    show Go p e below s _ _ _ (T99.setTop (mkF m 72 #[.val (.long ya), .second, .val (.long yb), .second, .val (.long yc), .second, .val (.long yd), .second, .val (.int kk), .val (.int (2 : Int32)), .val (.ref b80), .val (.ref rr_99), .unset] [(.int (1 : Int32)), (.int (2 : Int32))]))
    refine Go.st (fun _ k' => XS.icmpNo X99.here hx rfl (hb hby at_72) rfl (XT.ii_lt_f (by decide)) k') ?_
    show Go p e below s _ _ _ (T99.setTop (mkF m 75 #[.val (.long ya), .second, .val (.long yb), .second, .val (.long yc), .second, .val (.long yd), .second, .val (.int kk), .val (.int (2 : Int32)), .val (.ref b80), .val (.ref rr_99), .unset] []))
    refine Go.st (fun _ k' => XS.aload X99.here hx rfl (hb hby at_75) rfl rfl k') ?_
    show Go p e below s _ _ _ (T99.setTop (mkF m 77 #[.val (.long ya), .second, .val (.long yb), .second, .val (.long yc), .second, .val (.long yd), .second, .val (.int kk), .val (.int (2 : Int32)), .val (.ref b80), .val (.ref rr_99), .unset] [(.ref rr_99)]))
    refine Go.st (fun _ k' => XS.iconst X99.here hx rfl (hb hby at_77) k') ?_
    show Go p e below s _ _ _ (T99.setTop (mkF m 78 #[.val (.long ya), .second, .val (.long yb), .second, .val (.long yc), .second, .val (.long yd), .second, .val (.int kk), .val (.int (2 : Int32)), .val (.ref b80), .val (.ref rr_99), .unset] [(.int (0 : Int32)), (.ref rr_99)]))
    obtain ⟨cl108, Ar108, qc108, Sz108, Nn108, Ha108, Gf108⟩ := id f100
    refine Go.st (fun _ k' => X99.laload hx (j := (0 : Int32)) (v := (.long ya)) Ar108.1 (State.isArrayOf_alike hZ.alike Ar108.2.1) Ar108.2.2 (inb_of Sz108 ⟨by decide, by decide⟩) (Ha108.at (inb_of Sz108 ⟨by decide, by decide⟩) rfl) (g := (mkF m 78 #[.val (.long ya), .second, .val (.long yb), .second, .val (.long yc), .second, .val (.long yd), .second, .val (.int kk), .val (.int (2 : Int32)), .val (.ref b80), .val (.ref rr_99), .unset] [(.int (0 : Int32)), (.ref rr_99)])) rfl rfl (hb hby at_78) _ k') ?_
    show Go p e below s _ _ _ (T99.setTop (mkF m 79 #[.val (.long ya), .second, .val (.long yb), .second, .val (.long yc), .second, .val (.long yd), .second, .val (.int kk), .val (.int (2 : Int32)), .val (.ref b80), .val (.ref rr_99), .unset] [(.long ya)]))
    refine Go.st (fun _ k' => XS.lloadN X99.here hx rfl (hb hby at_79) rfl k') ?_
    show Go p e below s _ _ _ (T99.setTop (mkF m 80 #[.val (.long ya), .second, .val (.long yb), .second, .val (.long yc), .second, .val (.long yd), .second, .val (.int kk), .val (.int (2 : Int32)), .val (.ref b80), .val (.ref rr_99), .unset] [(.long ya), (.long ya)]))
    refine Go.st (fun _ k' => XT.lcmp X99.here hx rfl (hb hby at_80) rfl k') ?_
    show Go p e below s _ _ _ (T99.setTop (mkF m 81 #[.val (.long ya), .second, .val (.long yb), .second, .val (.long yc), .second, .val (.long yd), .second, .val (.int kk), .val (.int (2 : Int32)), .val (.ref b80), .val (.ref rr_99), .unset] [(.int (XT.cmpL ya ya))]))
    refine Go.st (fun _ k' => XS.ifYes X99.here hx rfl (pc0 := 81) (pc' := 86) rfl (hb hby at_81) rfl (XT.ll_eq_t rfl) (by decide) (by decide) k') ?_
    show Go p e below s _ _ _ (T99.setTop (mkF m 86 #[.val (.long ya), .second, .val (.long yb), .second, .val (.long yc), .second, .val (.long yd), .second, .val (.int kk), .val (.int (2 : Int32)), .val (.ref b80), .val (.ref rr_99), .unset] []))
    refine Go.st (fun _ k' => XS.iload X99.here hx rfl (hb hby at_86) rfl k') ?_
    show Go p e below s _ _ _ (T99.setTop (mkF m 88 #[.val (.long ya), .second, .val (.long yb), .second, .val (.long yc), .second, .val (.long yd), .second, .val (.int kk), .val (.int (2 : Int32)), .val (.ref b80), .val (.ref rr_99), .unset] [(.int (2 : Int32))]))
    refine Go.st (fun _ k' => XS.iconst X99.here hx rfl (hb hby at_88) k') ?_
    show Go p e below s _ _ _ (T99.setTop (mkF m 89 #[.val (.long ya), .second, .val (.long yb), .second, .val (.long yc), .second, .val (.long yd), .second, .val (.int kk), .val (.int (2 : Int32)), .val (.ref b80), .val (.ref rr_99), .unset] [(.int (2 : Int32)), (.int (2 : Int32))]))
    refine Go.st (fun _ k' => XS.icmpNo X99.here hx rfl (hb hby at_89) rfl (XT.ii_lt_f (by decide)) k') ?_
    show Go p e below s _ _ _ (T99.setTop (mkF m 92 #[.val (.long ya), .second, .val (.long yb), .second, .val (.long yc), .second, .val (.long yd), .second, .val (.int kk), .val (.int (2 : Int32)), .val (.ref b80), .val (.ref rr_99), .unset] []))
    refine Go.st (fun _ k' => XS.aload X99.here hx rfl (hb hby at_92) rfl rfl k') ?_
    show Go p e below s _ _ _ (T99.setTop (mkF m 94 #[.val (.long ya), .second, .val (.long yb), .second, .val (.long yc), .second, .val (.long yd), .second, .val (.int kk), .val (.int (2 : Int32)), .val (.ref b80), .val (.ref rr_99), .unset] [(.ref rr_99)]))
    refine Go.st (fun _ k' => XS.iconst X99.here hx rfl (hb hby at_94) k') ?_
    show Go p e below s _ _ _ (T99.setTop (mkF m 95 #[.val (.long ya), .second, .val (.long yb), .second, .val (.long yc), .second, .val (.long yd), .second, .val (.int kk), .val (.int (2 : Int32)), .val (.ref b80), .val (.ref rr_99), .unset] [(.int (1 : Int32)), (.ref rr_99)]))
    obtain ⟨cl109, Ar109, qc109, Sz109, Nn109, Ha109, Gf109⟩ := id f100
    refine Go.st (fun _ k' => X99.laload hx (j := (1 : Int32)) (v := (.long yb)) Ar109.1 (State.isArrayOf_alike hZ.alike Ar109.2.1) Ar109.2.2 (inb_of Sz109 ⟨by decide, by decide⟩) (Ha109.at (inb_of Sz109 ⟨by decide, by decide⟩) rfl) (g := (mkF m 95 #[.val (.long ya), .second, .val (.long yb), .second, .val (.long yc), .second, .val (.long yd), .second, .val (.int kk), .val (.int (2 : Int32)), .val (.ref b80), .val (.ref rr_99), .unset] [(.int (1 : Int32)), (.ref rr_99)])) rfl rfl (hb hby at_95) _ k') ?_
    show Go p e below s _ _ _ (T99.setTop (mkF m 96 #[.val (.long ya), .second, .val (.long yb), .second, .val (.long yc), .second, .val (.long yd), .second, .val (.int kk), .val (.int (2 : Int32)), .val (.ref b80), .val (.ref rr_99), .unset] [(.long yb)]))
    refine Go.st (fun _ k' => XS.lloadN X99.here hx rfl (hb hby at_96) rfl k') ?_
    show Go p e below s _ _ _ (T99.setTop (mkF m 97 #[.val (.long ya), .second, .val (.long yb), .second, .val (.long yc), .second, .val (.long yd), .second, .val (.int kk), .val (.int (2 : Int32)), .val (.ref b80), .val (.ref rr_99), .unset] [(.long yb), (.long yb)]))
    refine Go.st (fun _ k' => XT.lcmp X99.here hx rfl (hb hby at_97) rfl k') ?_
    show Go p e below s _ _ _ (T99.setTop (mkF m 98 #[.val (.long ya), .second, .val (.long yb), .second, .val (.long yc), .second, .val (.long yd), .second, .val (.int kk), .val (.int (2 : Int32)), .val (.ref b80), .val (.ref rr_99), .unset] [(.int (XT.cmpL yb yb))]))
    refine Go.st (fun _ k' => XS.ifYes X99.here hx rfl (pc0 := 98) (pc' := 103) rfl (hb hby at_98) rfl (XT.ll_eq_t rfl) (by decide) (by decide) k') ?_
    show Go p e below s _ _ _ (T99.setTop (mkF m 103 #[.val (.long ya), .second, .val (.long yb), .second, .val (.long yc), .second, .val (.long yd), .second, .val (.int kk), .val (.int (2 : Int32)), .val (.ref b80), .val (.ref rr_99), .unset] []))
    refine Go.st (fun _ k' => XS.iload X99.here hx rfl (hb hby at_103) rfl k') ?_
    show Go p e below s _ _ _ (T99.setTop (mkF m 105 #[.val (.long ya), .second, .val (.long yb), .second, .val (.long yc), .second, .val (.long yd), .second, .val (.int kk), .val (.int (2 : Int32)), .val (.ref b80), .val (.ref rr_99), .unset] [(.int (2 : Int32))]))
    refine Go.st (fun _ k' => XS.iconst X99.here hx rfl (hb hby at_105) k') ?_
    show Go p e below s _ _ _ (T99.setTop (mkF m 106 #[.val (.long ya), .second, .val (.long yb), .second, .val (.long yc), .second, .val (.long yd), .second, .val (.int kk), .val (.int (2 : Int32)), .val (.ref b80), .val (.ref rr_99), .unset] [(.int (3 : Int32)), (.int (2 : Int32))]))
    refine Go.st (fun _ k' => XS.icmpYes X99.here hx rfl (pc0 := 106) (pc' := 121) rfl (hb hby at_106) rfl (XT.ii_lt_t (by decide)) (by decide) (by decide) k') ?_
    show Go p e below s _ _ _ (T99.setTop (mkF m 121 #[.val (.long ya), .second, .val (.long yb), .second, .val (.long yc), .second, .val (.long yd), .second, .val (.int kk), .val (.int (2 : Int32)), .val (.ref b80), .val (.ref rr_99), .unset] []))
    refine Go.st (fun _ k' => XS.aload X99.here hx rfl (hb hby at_121) rfl rfl k') ?_
    show Go p e below s _ _ _ (T99.setTop (mkF m 123 #[.val (.long ya), .second, .val (.long yb), .second, .val (.long yc), .second, .val (.long yd), .second, .val (.int kk), .val (.int (2 : Int32)), .val (.ref b80), .val (.ref rr_99), .unset] [(.ref b80)]))
    refine Go.st (fun _ k' => XS.lload X99.here hx rfl (hb hby at_123) rfl k') ?_
    show Go p e below s _ _ _ (T99.setTop (mkF m 125 #[.val (.long ya), .second, .val (.long yb), .second, .val (.long yc), .second, .val (.long yd), .second, .val (.int kk), .val (.int (2 : Int32)), .val (.ref b80), .val (.ref rr_99), .unset] [(.long yd), (.ref b80)]))
    obtain ⟨cq110, kq110, q110a, q110b, q110c⟩ := isOf hZ rfl f101
    obtain ⟨_, _, ⟨T110, L110, k110, n110⟩, -, X110, ⟨Lc110, hQ110, l110, y110, z110⟩, st110⟩ := X99.virtualBack hx (y := (⟨"com/example/spillway/spillway/runtime/Latencies", "add", "(J)V"⟩ : MethodName)) (z := (⟨"com/example/spillway/spillway/runtime/Latencies", "add", "(J)V"⟩ : MethodName)) hown (mvT hZ (wdx hw 12 rfl)) (mvT hZ (wdx hw 13 rfl)) (notFace_of_selects (args := #[]) (mvT hZ (wdx hw 15 rfl))) (mvT hZ (wdx hw 15 rfl)) (mvT hZ (wdx hw 14 rfl)) (by decide) (backOf (W := 0) (rm3_2 l Z a0 hw [] b80 yd na_83 kn_83 ya yb (0 : Int64) (0 : Int64) T99.heap n0 O99 f101 f102 f103 f104 g_b80 g_na_83 ne88) hZ (wdx hw 16 rfl) (wdx hw 2 rfl) (by decide) (by decide)) q110a q110c (g := (mkF m 125 #[.val (.long ya), .second, .val (.long yb), .second, .val (.long yc), .second, .val (.long yd), .second, .val (.int kk), .val (.int (2 : Int32)), .val (.ref b80), .val (.ref rr_99), .unset] [(.long yd), (.ref b80)])) rfl (by rw [hml]; rfl) (Steps.refl _) (argsL := [(.long yd)]) (rest := []) (lenOf pd__J_V rfl) rfl (by show 2 * 0 + _ ≤ _; exact Nat.le_of_eq rfl) (hb hby at_125) (fun _ _ => ⟨rfl, rfl, (by exact Nat.le_of_ble_eq_true rfl), (by exact Nat.le_of_ble_eq_true rfl)⟩)
    dsimp only [Pt.U, Pt.locs, Pt.cells, Pt.slots] at X110 l110 y110 z110 st110 hQ110
    subst l110 y110 z110
    obtain ⟨rfl, Nq110, Kq110, f111, f112, f113⟩ := hQ110
    have N110 := Fr.app N99 Nq110
    refine Go.tr st110 ?_
    have f114 : Exa Z T110.heap b80 "com/example/spillway/spillway/runtime/Latencies" := f101.keep Kq110
    have f115 : Arv Z T110.heap rr_99 kr_99 .long (2 : Int32) [(.long ya), (.long yb)] (.long (0 : Int64)) := f100.keep Kq110 (ninS (Ne.symm ne105) (ninS (Ne.symm ne106) nin0))
    have O110 : Old Z n0 T110.heap := O99.keep Kq110 (allS g_b80 (allS g_na_83 all0))
    show Go p e below s _ _ _ (T110.setTop (mkF m 128 #[.val (.long ya), .second, .val (.long yb), .second, .val (.long yc), .second, .val (.long yd), .second, .val (.int kk), .val (.int (2 : Int32)), .val (.ref b80), .val (.ref rr_99), .unset] []))
    refine Go.st (fun _ k' => XS.aload X110.here hx rfl (hb hby at_128) rfl rfl k') ?_
    show Go p e below s _ _ _ (T110.setTop (mkF m 130 #[.val (.long ya), .second, .val (.long yb), .second, .val (.long yc), .second, .val (.long yd), .second, .val (.int kk), .val (.int (2 : Int32)), .val (.ref b80), .val (.ref rr_99), .unset] [(.ref b80)]))
    obtain ⟨cq116, kq116, q116a, q116b, q116c⟩ := isOf hZ rfl f114
    obtain ⟨_, _, ⟨T116, L116, k116, n116⟩, -, X116, ⟨Lc116, hQ116, l116, y116, z116⟩, st116⟩ := X110.virtualBack hx (y := (⟨"com/example/spillway/spillway/runtime/Latencies", "toArray", "()[J"⟩ : MethodName)) (z := (⟨"com/example/spillway/spillway/runtime/Latencies", "toArray", "()[J"⟩ : MethodName)) hown (mvT hZ (wdx hw 19 rfl)) (mvT hZ (wdx hw 20 rfl)) (notFace_of_selects (args := #[]) (mvT hZ (wdx hw 22 rfl))) (mvT hZ (wdx hw 22 rfl)) (mvT hZ (wdx hw 21 rfl)) (by decide) (backOf (W := 0) (rm4_3 l Z a0 hw [] b80 na_83 kn_83 ya yb yd (0 : Int64) T110.heap n0 O110 f111 f112 f113) hZ (wdx hw 23 rfl) (wdx hw 2 rfl) (by decide) (by decide)) q116a q116c (g := (mkF m 130 #[.val (.long ya), .second, .val (.long yb), .second, .val (.long yc), .second, .val (.long yd), .second, .val (.int kk), .val (.int (2 : Int32)), .val (.ref b80), .val (.ref rr_99), .unset] [(.ref b80)])) rfl (by rw [hml]; rfl) (Steps.refl _) (argsL := []) (rest := []) (lenOf pd____J rfl) rfl (by show 2 * 0 + _ ≤ _; exact Nat.le_of_eq rfl) (hb hby at_130) (fun _ _ => ⟨rfl, rfl, (by exact Nat.le_of_ble_eq_true rfl), (by exact Nat.le_of_ble_eq_true rfl)⟩)
    dsimp only [Pt.U, Pt.locs, Pt.cells, Pt.slots] at X116 l116 y116 z116 st116 hQ116
    subst l116 y116 z116
    obtain ⟨rr_116, kr_116, rfl, Nq116, Kq116, f117, szr_116⟩ := hQ116
    have N116 := Fr.app N110 Nq116
    refine Go.tr st116 ?_
    have f118 : Exa Z T116.heap b80 "com/example/spillway/spillway/runtime/Latencies" := f114.keep Kq116
    have f119 : Arv Z T116.heap rr_99 kr_99 .long (2 : Int32) [(.long ya), (.long yb)] (.long (0 : Int64)) := f115.keep Kq116 nin0
    have f120 : Fld Z T116.heap b80 "com/example/spillway/spillway/runtime/Latencies" "nanos" "[J" (.ref na_83) := f111.keep Kq116 nin0
    have f121 : Fld Z T116.heap b80 "com/example/spillway/spillway/runtime/Latencies" "count" "I" (.int (3 : Int32)) := f112.keep Kq116 nin0
    have f122 : Arv Z T116.heap na_83 kn_83 .long (256 : Int32) [(.long ya), (.long yb), (.long yd), (.long (0 : Int64))] (.long (0 : Int64)) := f113.keep Kq116 nin0
    have O116 : Old Z n0 T116.heap := O110.keep Kq116 all0
    have g_rr_116 : n0 ≤ rr_116 := Nat.le_trans (own_le O110) szr_116
    have ne123 : b80 ≠ rr_116 := Nat.ne_of_lt (Nat.lt_of_lt_of_le f114.lt szr_116)
    have ne124 : rr_99 ≠ rr_116 := Nat.ne_of_lt (Nat.lt_of_lt_of_le f115.lt szr_116)
    have ne125 : na_83 ≠ rr_116 := Nat.ne_of_lt (Nat.lt_of_lt_of_le f113.lt szr_116)
    show Go p e below s _ _ _ (T116.setTop (mkF m 133 #[.val (.long ya), .second, .val (.long yb), .second, .val (.long yc), .second, .val (.long yd), .second, .val (.int kk), .val (.int (2 : Int32)), .val (.ref b80), .val (.ref rr_99), .unset] [(.ref rr_116)]))
    refine Go.st (fun _ k' => XS.astore X116.here hx rfl (hb hby at_133) rfl rfl (l' := #[.val (.long ya), .second, .val (.long yb), .second, .val (.long yc), .second, .val (.long yd), .second, .val (.int kk), .val (.int (2 : Int32)), .val (.ref b80), .val (.ref rr_99), .val (.ref rr_116)]) rfl k') ?_
    show Go p e below s _ _ _ (T116.setTop (mkF m 135 #[.val (.long ya), .second, .val (.long yb), .second, .val (.long yc), .second, .val (.long yd), .second, .val (.int kk), .val (.int (2 : Int32)), .val (.ref b80), .val (.ref rr_99), .val (.ref rr_116)] []))
    refine Go.st (fun _ k' => XS.aload X116.here hx rfl (hb hby at_135) rfl rfl k') ?_
    show Go p e below s _ _ _ (T116.setTop (mkF m 137 #[.val (.long ya), .second, .val (.long yb), .second, .val (.long yc), .second, .val (.long yd), .second, .val (.int kk), .val (.int (2 : Int32)), .val (.ref b80), .val (.ref rr_99), .val (.ref rr_116)] [(.ref rr_116)]))
    obtain ⟨cl126, Ar126, qc126, Sz126, Nn126, Ha126, Gf126⟩ := id f117
    refine Go.st (fun _ k' => X116.arraylength hx Ar126.1 (State.isArrayOf_alike hZ.alike Ar126.2.1) (g := (mkF m 137 #[.val (.long ya), .second, .val (.long yb), .second, .val (.long yc), .second, .val (.long yd), .second, .val (.int kk), .val (.int (2 : Int32)), .val (.ref b80), .val (.ref rr_99), .val (.ref rr_116)] [(.ref rr_116)])) rfl rfl (hb hby at_137) _ k') ?_
    rw [len_of Sz126 Nn126]
    show Go p e below s _ _ _ (T116.setTop (mkF m 138 #[.val (.long ya), .second, .val (.long yb), .second, .val (.long yc), .second, .val (.long yd), .second, .val (.int kk), .val (.int (2 : Int32)), .val (.ref b80), .val (.ref rr_99), .val (.ref rr_116)] [(.int (3 : Int32))]))
    refine Go.st (fun _ k' => XS.iload X116.here hx rfl (hb hby at_138) rfl k') ?_
    show Go p e below s _ _ _ (T116.setTop (mkF m 140 #[.val (.long ya), .second, .val (.long yb), .second, .val (.long yc), .second, .val (.long yd), .second, .val (.int kk), .val (.int (2 : Int32)), .val (.ref b80), .val (.ref rr_99), .val (.ref rr_116)] [(.int (2 : Int32)), (.int (3 : Int32))]))
    refine Go.st (fun _ k' => XS.iconst X116.here hx rfl (hb hby at_140) k') ?_
    show Go p e below s _ _ _ (T116.setTop (mkF m 141 #[.val (.long ya), .second, .val (.long yb), .second, .val (.long yc), .second, .val (.long yd), .second, .val (.int kk), .val (.int (2 : Int32)), .val (.ref b80), .val (.ref rr_99), .val (.ref rr_116)] [(.int (1 : Int32)), (.int (2 : Int32)), (.int (3 : Int32))]))
    refine Go.st (fun _ k' => XS.iadd X116.here hx rfl (hb hby at_141) rfl k') ?_
    show Go p e below s _ _ _ (T116.setTop (mkF m 142 #[.val (.long ya), .second, .val (.long yb), .second, .val (.long yc), .second, .val (.long yd), .second, .val (.int kk), .val (.int (2 : Int32)), .val (.ref b80), .val (.ref rr_99), .val (.ref rr_116)] [(.int (3 : Int32)), (.int (3 : Int32))]))
    refine Go.st (fun _ k' => XS.icmpYes X116.here hx rfl (pc0 := 142) (pc' := 147) rfl (hb hby at_142) rfl (XT.ii_eq_t (by decide)) (by decide) (by decide) k') ?_
    show Go p e below s _ _ _ (T116.setTop (mkF m 147 #[.val (.long ya), .second, .val (.long yb), .second, .val (.long yc), .second, .val (.long yd), .second, .val (.int kk), .val (.int (2 : Int32)), .val (.ref b80), .val (.ref rr_99), .val (.ref rr_116)] []))
    refine Go.st (fun _ k' => XS.aload X116.here hx rfl (hb hby at_147) rfl rfl k') ?_
    show Go p e below s _ _ _ (T116.setTop (mkF m 149 #[.val (.long ya), .second, .val (.long yb), .second, .val (.long yc), .second, .val (.long yd), .second, .val (.int kk), .val (.int (2 : Int32)), .val (.ref b80), .val (.ref rr_99), .val (.ref rr_116)] [(.ref rr_116)]))
    refine Go.st (fun _ k' => XS.iload X116.here hx rfl (hb hby at_149) rfl k') ?_
    show Go p e below s _ _ _ (T116.setTop (mkF m 151 #[.val (.long ya), .second, .val (.long yb), .second, .val (.long yc), .second, .val (.long yd), .second, .val (.int kk), .val (.int (2 : Int32)), .val (.ref b80), .val (.ref rr_99), .val (.ref rr_116)] [(.int (2 : Int32)), (.ref rr_116)]))
    obtain ⟨cl127, Ar127, qc127, Sz127, Nn127, Ha127, Gf127⟩ := id f117
    refine Go.st (fun _ k' => X116.laload hx (j := (2 : Int32)) (v := (.long yd)) Ar127.1 (State.isArrayOf_alike hZ.alike Ar127.2.1) Ar127.2.2 (inb_of Sz127 ⟨by decide, by decide⟩) (Ha127.at (inb_of Sz127 ⟨by decide, by decide⟩) rfl) (g := (mkF m 151 #[.val (.long ya), .second, .val (.long yb), .second, .val (.long yc), .second, .val (.long yd), .second, .val (.int kk), .val (.int (2 : Int32)), .val (.ref b80), .val (.ref rr_99), .val (.ref rr_116)] [(.int (2 : Int32)), (.ref rr_116)])) rfl rfl (hb hby at_151) _ k') ?_
    show Go p e below s _ _ _ (T116.setTop (mkF m 152 #[.val (.long ya), .second, .val (.long yb), .second, .val (.long yc), .second, .val (.long yd), .second, .val (.int kk), .val (.int (2 : Int32)), .val (.ref b80), .val (.ref rr_99), .val (.ref rr_116)] [(.long yd)]))
    refine Go.st (fun _ k' => XS.lload X116.here hx rfl (hb hby at_152) rfl k') ?_
    show Go p e below s _ _ _ (T116.setTop (mkF m 154 #[.val (.long ya), .second, .val (.long yb), .second, .val (.long yc), .second, .val (.long yd), .second, .val (.int kk), .val (.int (2 : Int32)), .val (.ref b80), .val (.ref rr_99), .val (.ref rr_116)] [(.long yd), (.long yd)]))
    refine Go.st (fun _ k' => XT.lcmp X116.here hx rfl (hb hby at_154) rfl k') ?_
    show Go p e below s _ _ _ (T116.setTop (mkF m 155 #[.val (.long ya), .second, .val (.long yb), .second, .val (.long yc), .second, .val (.long yd), .second, .val (.int kk), .val (.int (2 : Int32)), .val (.ref b80), .val (.ref rr_99), .val (.ref rr_116)] [(.int (XT.cmpL yd yd))]))
    refine Go.st (fun _ k' => XS.ifYes X116.here hx rfl (pc0 := 155) (pc' := 160) rfl (hb hby at_155) rfl (XT.ll_eq_t rfl) (by decide) (by decide) k') ?_
    show Go p e below s _ _ _ (T116.setTop (mkF m 160 #[.val (.long ya), .second, .val (.long yb), .second, .val (.long yc), .second, .val (.long yd), .second, .val (.int kk), .val (.int (2 : Int32)), .val (.ref b80), .val (.ref rr_99), .val (.ref rr_116)] []))
    refine Go.st (fun _ k' => XS.iload X116.here hx rfl (hb hby at_160) rfl k') ?_
    show Go p e below s _ _ _ (T116.setTop (mkF m 162 #[.val (.long ya), .second, .val (.long yb), .second, .val (.long yc), .second, .val (.long yd), .second, .val (.int kk), .val (.int (2 : Int32)), .val (.ref b80), .val (.ref rr_99), .val (.ref rr_116)] [(.int (2 : Int32))]))
    refine Go.st (fun _ k' => XS.iconst X116.here hx rfl (hb hby at_162) k') ?_
    show Go p e below s _ _ _ (T116.setTop (mkF m 163 #[.val (.long ya), .second, .val (.long yb), .second, .val (.long yc), .second, .val (.long yd), .second, .val (.int kk), .val (.int (2 : Int32)), .val (.ref b80), .val (.ref rr_99), .val (.ref rr_116)] [(.int (1 : Int32)), (.int (2 : Int32))]))
    refine Go.st (fun _ k' => XS.icmpNo X116.here hx rfl (hb hby at_163) rfl (XT.ii_lt_f (by decide)) k') ?_
    show Go p e below s _ _ _ (T116.setTop (mkF m 166 #[.val (.long ya), .second, .val (.long yb), .second, .val (.long yc), .second, .val (.long yd), .second, .val (.int kk), .val (.int (2 : Int32)), .val (.ref b80), .val (.ref rr_99), .val (.ref rr_116)] []))
    refine Go.st (fun _ k' => XS.aload X116.here hx rfl (hb hby at_166) rfl rfl k') ?_
    show Go p e below s _ _ _ (T116.setTop (mkF m 168 #[.val (.long ya), .second, .val (.long yb), .second, .val (.long yc), .second, .val (.long yd), .second, .val (.int kk), .val (.int (2 : Int32)), .val (.ref b80), .val (.ref rr_99), .val (.ref rr_116)] [(.ref rr_116)]))
    refine Go.st (fun _ k' => XS.iconst X116.here hx rfl (hb hby at_168) k') ?_
    show Go p e below s _ _ _ (T116.setTop (mkF m 169 #[.val (.long ya), .second, .val (.long yb), .second, .val (.long yc), .second, .val (.long yd), .second, .val (.int kk), .val (.int (2 : Int32)), .val (.ref b80), .val (.ref rr_99), .val (.ref rr_116)] [(.int (0 : Int32)), (.ref rr_116)]))
    obtain ⟨cl128, Ar128, qc128, Sz128, Nn128, Ha128, Gf128⟩ := id f117
    refine Go.st (fun _ k' => X116.laload hx (j := (0 : Int32)) (v := (.long ya)) Ar128.1 (State.isArrayOf_alike hZ.alike Ar128.2.1) Ar128.2.2 (inb_of Sz128 ⟨by decide, by decide⟩) (Ha128.at (inb_of Sz128 ⟨by decide, by decide⟩) rfl) (g := (mkF m 169 #[.val (.long ya), .second, .val (.long yb), .second, .val (.long yc), .second, .val (.long yd), .second, .val (.int kk), .val (.int (2 : Int32)), .val (.ref b80), .val (.ref rr_99), .val (.ref rr_116)] [(.int (0 : Int32)), (.ref rr_116)])) rfl rfl (hb hby at_169) _ k') ?_
    show Go p e below s _ _ _ (T116.setTop (mkF m 170 #[.val (.long ya), .second, .val (.long yb), .second, .val (.long yc), .second, .val (.long yd), .second, .val (.int kk), .val (.int (2 : Int32)), .val (.ref b80), .val (.ref rr_99), .val (.ref rr_116)] [(.long ya)]))
    refine Go.st (fun _ k' => XS.lloadN X116.here hx rfl (hb hby at_170) rfl k') ?_
    show Go p e below s _ _ _ (T116.setTop (mkF m 171 #[.val (.long ya), .second, .val (.long yb), .second, .val (.long yc), .second, .val (.long yd), .second, .val (.int kk), .val (.int (2 : Int32)), .val (.ref b80), .val (.ref rr_99), .val (.ref rr_116)] [(.long ya), (.long ya)]))
    refine Go.st (fun _ k' => XT.lcmp X116.here hx rfl (hb hby at_171) rfl k') ?_
    show Go p e below s _ _ _ (T116.setTop (mkF m 172 #[.val (.long ya), .second, .val (.long yb), .second, .val (.long yc), .second, .val (.long yd), .second, .val (.int kk), .val (.int (2 : Int32)), .val (.ref b80), .val (.ref rr_99), .val (.ref rr_116)] [(.int (XT.cmpL ya ya))]))
    refine Go.st (fun _ k' => XS.ifYes X116.here hx rfl (pc0 := 172) (pc' := 177) rfl (hb hby at_172) rfl (XT.ll_eq_t rfl) (by decide) (by decide) k') ?_
    show Go p e below s _ _ _ (T116.setTop (mkF m 177 #[.val (.long ya), .second, .val (.long yb), .second, .val (.long yc), .second, .val (.long yd), .second, .val (.int kk), .val (.int (2 : Int32)), .val (.ref b80), .val (.ref rr_99), .val (.ref rr_116)] []))
    refine Go.st (fun _ k' => XS.iload X116.here hx rfl (hb hby at_177) rfl k') ?_
    show Go p e below s _ _ _ (T116.setTop (mkF m 179 #[.val (.long ya), .second, .val (.long yb), .second, .val (.long yc), .second, .val (.long yd), .second, .val (.int kk), .val (.int (2 : Int32)), .val (.ref b80), .val (.ref rr_99), .val (.ref rr_116)] [(.int (2 : Int32))]))
    refine Go.st (fun _ k' => XS.iconst X116.here hx rfl (hb hby at_179) k') ?_
    show Go p e below s _ _ _ (T116.setTop (mkF m 180 #[.val (.long ya), .second, .val (.long yb), .second, .val (.long yc), .second, .val (.long yd), .second, .val (.int kk), .val (.int (2 : Int32)), .val (.ref b80), .val (.ref rr_99), .val (.ref rr_116)] [(.int (2 : Int32)), (.int (2 : Int32))]))
    refine Go.st (fun _ k' => XS.icmpNo X116.here hx rfl (hb hby at_180) rfl (XT.ii_lt_f (by decide)) k') ?_
    show Go p e below s _ _ _ (T116.setTop (mkF m 183 #[.val (.long ya), .second, .val (.long yb), .second, .val (.long yc), .second, .val (.long yd), .second, .val (.int kk), .val (.int (2 : Int32)), .val (.ref b80), .val (.ref rr_99), .val (.ref rr_116)] []))
    refine Go.st (fun _ k' => XS.aload X116.here hx rfl (hb hby at_183) rfl rfl k') ?_
    show Go p e below s _ _ _ (T116.setTop (mkF m 185 #[.val (.long ya), .second, .val (.long yb), .second, .val (.long yc), .second, .val (.long yd), .second, .val (.int kk), .val (.int (2 : Int32)), .val (.ref b80), .val (.ref rr_99), .val (.ref rr_116)] [(.ref rr_116)]))
    refine Go.st (fun _ k' => XS.iconst X116.here hx rfl (hb hby at_185) k') ?_
    show Go p e below s _ _ _ (T116.setTop (mkF m 186 #[.val (.long ya), .second, .val (.long yb), .second, .val (.long yc), .second, .val (.long yd), .second, .val (.int kk), .val (.int (2 : Int32)), .val (.ref b80), .val (.ref rr_99), .val (.ref rr_116)] [(.int (1 : Int32)), (.ref rr_116)]))
    obtain ⟨cl129, Ar129, qc129, Sz129, Nn129, Ha129, Gf129⟩ := id f117
    refine Go.st (fun _ k' => X116.laload hx (j := (1 : Int32)) (v := (.long yb)) Ar129.1 (State.isArrayOf_alike hZ.alike Ar129.2.1) Ar129.2.2 (inb_of Sz129 ⟨by decide, by decide⟩) (Ha129.at (inb_of Sz129 ⟨by decide, by decide⟩) rfl) (g := (mkF m 186 #[.val (.long ya), .second, .val (.long yb), .second, .val (.long yc), .second, .val (.long yd), .second, .val (.int kk), .val (.int (2 : Int32)), .val (.ref b80), .val (.ref rr_99), .val (.ref rr_116)] [(.int (1 : Int32)), (.ref rr_116)])) rfl rfl (hb hby at_186) _ k') ?_
    show Go p e below s _ _ _ (T116.setTop (mkF m 187 #[.val (.long ya), .second, .val (.long yb), .second, .val (.long yc), .second, .val (.long yd), .second, .val (.int kk), .val (.int (2 : Int32)), .val (.ref b80), .val (.ref rr_99), .val (.ref rr_116)] [(.long yb)]))
    refine Go.st (fun _ k' => XS.lloadN X116.here hx rfl (hb hby at_187) rfl k') ?_
    show Go p e below s _ _ _ (T116.setTop (mkF m 188 #[.val (.long ya), .second, .val (.long yb), .second, .val (.long yc), .second, .val (.long yd), .second, .val (.int kk), .val (.int (2 : Int32)), .val (.ref b80), .val (.ref rr_99), .val (.ref rr_116)] [(.long yb), (.long yb)]))
    refine Go.st (fun _ k' => XT.lcmp X116.here hx rfl (hb hby at_188) rfl k') ?_
    show Go p e below s _ _ _ (T116.setTop (mkF m 189 #[.val (.long ya), .second, .val (.long yb), .second, .val (.long yc), .second, .val (.long yd), .second, .val (.int kk), .val (.int (2 : Int32)), .val (.ref b80), .val (.ref rr_99), .val (.ref rr_116)] [(.int (XT.cmpL yb yb))]))
    refine Go.st (fun _ k' => XS.ifYes X116.here hx rfl (pc0 := 189) (pc' := 194) rfl (hb hby at_189) rfl (XT.ll_eq_t rfl) (by decide) (by decide) k') ?_
    show Go p e below s _ _ _ (T116.setTop (mkF m 194 #[.val (.long ya), .second, .val (.long yb), .second, .val (.long yc), .second, .val (.long yd), .second, .val (.int kk), .val (.int (2 : Int32)), .val (.ref b80), .val (.ref rr_99), .val (.ref rr_116)] []))
    refine Go.st (fun _ k' => XS.iload X116.here hx rfl (hb hby at_194) rfl k') ?_
    show Go p e below s _ _ _ (T116.setTop (mkF m 196 #[.val (.long ya), .second, .val (.long yb), .second, .val (.long yc), .second, .val (.long yd), .second, .val (.int kk), .val (.int (2 : Int32)), .val (.ref b80), .val (.ref rr_99), .val (.ref rr_116)] [(.int (2 : Int32))]))
    refine Go.st (fun _ k' => XS.iconst X116.here hx rfl (hb hby at_196) k') ?_
    show Go p e below s _ _ _ (T116.setTop (mkF m 197 #[.val (.long ya), .second, .val (.long yb), .second, .val (.long yc), .second, .val (.long yd), .second, .val (.int kk), .val (.int (2 : Int32)), .val (.ref b80), .val (.ref rr_99), .val (.ref rr_116)] [(.int (3 : Int32)), (.int (2 : Int32))]))
    refine Go.st (fun _ k' => XS.icmpYes X116.here hx rfl (pc0 := 197) (pc' := 212) rfl (hb hby at_197) rfl (XT.ii_lt_t (by decide)) (by decide) (by decide) k') ?_
    show Go p e below s _ _ _ (T116.setTop (mkF m 212 #[.val (.long ya), .second, .val (.long yb), .second, .val (.long yc), .second, .val (.long yd), .second, .val (.int kk), .val (.int (2 : Int32)), .val (.ref b80), .val (.ref rr_99), .val (.ref rr_116)] []))
    refine Go.st (fun _ k' => XS.iconst X116.here hx rfl (hb hby at_212) k') ?_
    show Go p e below s _ _ _ (T116.setTop (mkF m 213 #[.val (.long ya), .second, .val (.long yb), .second, .val (.long yc), .second, .val (.long yd), .second, .val (.int kk), .val (.int (2 : Int32)), .val (.ref b80), .val (.ref rr_99), .val (.ref rr_116)] [(.int (1 : Int32))]))
    refine Go.retB X116 hx hlk (t := .boolean) Bd.returns (by simp) (hb hby at_213) (by decide) (by decide) rfl ?_
    exact ⟨rfl, N116, trivial⟩
  · rw [hi]
    show Go p e below s _ _ _ (s₁.setTop (mkF m 6 #[.val (.long ya), .second, .val (.long yb), .second, .val (.long yc), .second, .val (.long yd), .second, .val (.int kk), .val (.int (3 : Int32)), .unset, .unset, .unset] []))
    obtain ⟨T130, h130, X130, e130, E130, A130, D130, -, st130⟩ := newO X0 hx hZ hown (wdx hw 0 rfl) (wdx hw 1 rfl) (wdx hw 2 rfl) e0 (g := (mkF m 6 #[.val (.long ya), .second, .val (.long yb), .second, .val (.long yc), .second, .val (.long yd), .second, .val (.int kk), .val (.int (3 : Int32)), .unset, .unset, .unset] [])) rfl (hb hby at_6) (by decide) (by decide)
    obtain ⟨b130, g130⟩ : ∃ z, z = h0.size := ⟨_, rfl⟩
    rw [← g130] at A130 D130 st130
    refine Go.st st130 ?_
    have g_b130 : n0 ≤ b130 := Nat.le_trans (own_le O0) (Nat.le_of_eq g130.symm)
    have O130 : Old Z n0 h130 := O0.ext E130
    have f131 : Fld Z h130 b130 "com/example/spillway/spillway/runtime/Latencies" "nanos" "[J" .null := D130 (Or.inl (wdx hw 11 rfl)) (ty := (.array .long)) (by decide)
    have f132 : Fld Z h130 b130 "com/example/spillway/spillway/runtime/Latencies" "count" "I" (.int (0 : Int32)) := D130 (Or.inl (wdx hw 18 rfl)) (ty := .int) (by decide)
    show Go p e below s _ _ _ (T130.setTop (mkF m 9 #[.val (.long ya), .second, .val (.long yb), .second, .val (.long yc), .second, .val (.long yd), .second, .val (.int kk), .val (.int (3 : Int32)), .unset, .unset, .unset] [(.ref b130)]))
    refine Go.st (fun _ k' => XS.dup X130.here hx rfl (hb hby at_9) rfl rfl k') ?_
    show Go p e below s _ _ _ (T130.setTop (mkF m 10 #[.val (.long ya), .second, .val (.long yb), .second, .val (.long yc), .second, .val (.long yd), .second, .val (.int kk), .val (.int (3 : Int32)), .unset, .unset, .unset] [(.ref b130), (.ref b130)]))
    obtain ⟨_, _, ⟨T133, L133, k133, n133⟩, -, X133, ⟨Lc133, hQ133, l133, y133, z133⟩, st133⟩ := X130.specialBack hx (y := (⟨"com/example/spillway/spillway/runtime/Latencies", "<init>", "()V"⟩ : MethodName)) rfl hown (mvT hZ (wdx hw 3 rfl)) (mvT hZ (wdx hw 4 rfl)) (mvT hZ (wdx hw 5 rfl)) (by decide) (backOf (W := 1) (rm1 l Z a0 hw [] b130 h130 n0 O130 A130 f131 f132 g_b130) hZ (wdx hw 5 rfl) (wdx hw 2 rfl) (by decide) (by decide)) (g := (mkF m 10 #[.val (.long ya), .second, .val (.long yb), .second, .val (.long yc), .second, .val (.long yd), .second, .val (.int kk), .val (.int (3 : Int32)), .unset, .unset, .unset] [(.ref b130), (.ref b130)])) rfl (by rw [hml]; rfl) (Steps.refl _) (a := b130) (argsL := []) (rest := [(.ref b130)]) (lenOf pd___V rfl) rfl (by show 2 * 0 + _ ≤ _; exact Nat.le_of_eq rfl) (hb hby at_10) (fun _ _ => ⟨rfl, e130, (by exact Nat.le_of_ble_eq_true rfl), (by exact Nat.le_of_ble_eq_true rfl)⟩)
    dsimp only [Pt.U, Pt.locs, Pt.cells, Pt.slots] at X133 l133 y133 z133 st133 hQ133
    subst l133 y133 z133
    obtain ⟨na_133, kn_133, rfl, Nq133, Kq133, f134, f135, f136, szn_133⟩ := hQ133
    have N133 := Fr.app N0 Nq133
    refine Go.tr st133 ?_
    have f137 : Exa Z T133.heap b130 "com/example/spillway/spillway/runtime/Latencies" := A130.keep Kq133
    have O133 : Old Z n0 T133.heap := O130.keep Kq133 (allS g_b130 all0)
    have g_na_133 : n0 ≤ na_133 := Nat.le_trans (own_le O130) szn_133
    have ne138 : b130 ≠ na_133 := Nat.ne_of_lt (Nat.lt_of_lt_of_le A130.lt szn_133)
    show Go p e below s _ _ _ (T133.setTop (mkF m 13 #[.val (.long ya), .second, .val (.long yb), .second, .val (.long yc), .second, .val (.long yd), .second, .val (.int kk), .val (.int (3 : Int32)), .unset, .unset, .unset] [(.ref b130)]))
    refine Go.st (fun _ k' => XS.astore X133.here hx rfl (hb hby at_13) rfl rfl (l' := #[.val (.long ya), .second, .val (.long yb), .second, .val (.long yc), .second, .val (.long yd), .second, .val (.int kk), .val (.int (3 : Int32)), .val (.ref b130), .unset, .unset]) rfl k') ?_
    show Go p e below s _ _ _ (T133.setTop (mkF m 15 #[.val (.long ya), .second, .val (.long yb), .second, .val (.long yc), .second, .val (.long yd), .second, .val (.int kk), .val (.int (3 : Int32)), .val (.ref b130), .unset, .unset] []))
    refine Go.st (fun _ k' => XS.iload X133.here hx rfl (hb hby at_15) rfl k') ?_
    show Go p e below s _ _ _ (T133.setTop (mkF m 17 #[.val (.long ya), .second, .val (.long yb), .second, .val (.long yc), .second, .val (.long yd), .second, .val (.int kk), .val (.int (3 : Int32)), .val (.ref b130), .unset, .unset] [(.int (3 : Int32))]))
    refine Go.st (fun _ k' => XS.iconst X133.here hx rfl (hb hby at_17) k') ?_
    show Go p e below s _ _ _ (T133.setTop (mkF m 18 #[.val (.long ya), .second, .val (.long yb), .second, .val (.long yc), .second, .val (.long yd), .second, .val (.int kk), .val (.int (3 : Int32)), .val (.ref b130), .unset, .unset] [(.int (1 : Int32)), (.int (3 : Int32))]))
    refine Go.st (fun _ k' => XS.icmpNo X133.here hx rfl (hb hby at_18) rfl (XT.ii_lt_f (by decide)) k') ?_
    show Go p e below s _ _ _ (T133.setTop (mkF m 21 #[.val (.long ya), .second, .val (.long yb), .second, .val (.long yc), .second, .val (.long yd), .second, .val (.int kk), .val (.int (3 : Int32)), .val (.ref b130), .unset, .unset] []))
    refine Go.st (fun _ k' => XS.aload X133.here hx rfl (hb hby at_21) rfl rfl k') ?_
    show Go p e below s _ _ _ (T133.setTop (mkF m 23 #[.val (.long ya), .second, .val (.long yb), .second, .val (.long yc), .second, .val (.long yd), .second, .val (.int kk), .val (.int (3 : Int32)), .val (.ref b130), .unset, .unset] [(.ref b130)]))
    refine Go.st (fun _ k' => XS.lloadN X133.here hx rfl (hb hby at_23) rfl k') ?_
    show Go p e below s _ _ _ (T133.setTop (mkF m 24 #[.val (.long ya), .second, .val (.long yb), .second, .val (.long yc), .second, .val (.long yd), .second, .val (.int kk), .val (.int (3 : Int32)), .val (.ref b130), .unset, .unset] [(.long ya), (.ref b130)]))
    obtain ⟨cq139, kq139, q139a, q139b, q139c⟩ := isOf hZ rfl f137
    obtain ⟨_, _, ⟨T139, L139, k139, n139⟩, -, X139, ⟨Lc139, hQ139, l139, y139, z139⟩, st139⟩ := X133.virtualBack hx (y := (⟨"com/example/spillway/spillway/runtime/Latencies", "add", "(J)V"⟩ : MethodName)) (z := (⟨"com/example/spillway/spillway/runtime/Latencies", "add", "(J)V"⟩ : MethodName)) hown (mvT hZ (wdx hw 12 rfl)) (mvT hZ (wdx hw 13 rfl)) (notFace_of_selects (args := #[]) (mvT hZ (wdx hw 15 rfl))) (mvT hZ (wdx hw 15 rfl)) (mvT hZ (wdx hw 14 rfl)) (by decide) (backOf (W := 0) (rm3_0 l Z a0 hw [] b130 ya na_133 kn_133 (0 : Int64) (0 : Int64) (0 : Int64) (0 : Int64) T133.heap n0 O133 f137 f134 f135 f136 g_b130 g_na_133 ne138) hZ (wdx hw 16 rfl) (wdx hw 2 rfl) (by decide) (by decide)) q139a q139c (g := (mkF m 24 #[.val (.long ya), .second, .val (.long yb), .second, .val (.long yc), .second, .val (.long yd), .second, .val (.int kk), .val (.int (3 : Int32)), .val (.ref b130), .unset, .unset] [(.long ya), (.ref b130)])) rfl (by rw [hml]; rfl) (Steps.refl _) (argsL := [(.long ya)]) (rest := []) (lenOf pd__J_V rfl) rfl (by show 2 * 0 + _ ≤ _; exact Nat.le_of_eq rfl) (hb hby at_24) (fun _ _ => ⟨rfl, rfl, (by exact Nat.le_of_ble_eq_true rfl), (by exact Nat.le_of_ble_eq_true rfl)⟩)
    dsimp only [Pt.U, Pt.locs, Pt.cells, Pt.slots] at X139 l139 y139 z139 st139 hQ139
    subst l139 y139 z139
    obtain ⟨rfl, Nq139, Kq139, f140, f141, f142⟩ := hQ139
    have N139 := Fr.app N133 Nq139
    refine Go.tr st139 ?_
    have f143 : Exa Z T139.heap b130 "com/example/spillway/spillway/runtime/Latencies" := f137.keep Kq139
    have O139 : Old Z n0 T139.heap := O133.keep Kq139 (allS g_b130 (allS g_na_133 all0))
    show Go p e below s _ _ _ (T139.setTop (mkF m 27 #[.val (.long ya), .second, .val (.long yb), .second, .val (.long yc), .second, .val (.long yd), .second, .val (.int kk), .val (.int (3 : Int32)), .val (.ref b130), .unset, .unset] []))
    refine Go.st (fun _ k' => XS.iload X139.here hx rfl (hb hby at_27) rfl k') ?_
    show Go p e below s _ _ _ (T139.setTop (mkF m 29 #[.val (.long ya), .second, .val (.long yb), .second, .val (.long yc), .second, .val (.long yd), .second, .val (.int kk), .val (.int (3 : Int32)), .val (.ref b130), .unset, .unset] [(.int (3 : Int32))]))
    refine Go.st (fun _ k' => XS.iconst X139.here hx rfl (hb hby at_29) k') ?_
    show Go p e below s _ _ _ (T139.setTop (mkF m 30 #[.val (.long ya), .second, .val (.long yb), .second, .val (.long yc), .second, .val (.long yd), .second, .val (.int kk), .val (.int (3 : Int32)), .val (.ref b130), .unset, .unset] [(.int (2 : Int32)), (.int (3 : Int32))]))
    refine Go.st (fun _ k' => XS.icmpNo X139.here hx rfl (hb hby at_30) rfl (XT.ii_lt_f (by decide)) k') ?_
    show Go p e below s _ _ _ (T139.setTop (mkF m 33 #[.val (.long ya), .second, .val (.long yb), .second, .val (.long yc), .second, .val (.long yd), .second, .val (.int kk), .val (.int (3 : Int32)), .val (.ref b130), .unset, .unset] []))
    refine Go.st (fun _ k' => XS.aload X139.here hx rfl (hb hby at_33) rfl rfl k') ?_
    show Go p e below s _ _ _ (T139.setTop (mkF m 35 #[.val (.long ya), .second, .val (.long yb), .second, .val (.long yc), .second, .val (.long yd), .second, .val (.int kk), .val (.int (3 : Int32)), .val (.ref b130), .unset, .unset] [(.ref b130)]))
    refine Go.st (fun _ k' => XS.lloadN X139.here hx rfl (hb hby at_35) rfl k') ?_
    show Go p e below s _ _ _ (T139.setTop (mkF m 36 #[.val (.long ya), .second, .val (.long yb), .second, .val (.long yc), .second, .val (.long yd), .second, .val (.int kk), .val (.int (3 : Int32)), .val (.ref b130), .unset, .unset] [(.long yb), (.ref b130)]))
    obtain ⟨cq144, kq144, q144a, q144b, q144c⟩ := isOf hZ rfl f143
    obtain ⟨_, _, ⟨T144, L144, k144, n144⟩, -, X144, ⟨Lc144, hQ144, l144, y144, z144⟩, st144⟩ := X139.virtualBack hx (y := (⟨"com/example/spillway/spillway/runtime/Latencies", "add", "(J)V"⟩ : MethodName)) (z := (⟨"com/example/spillway/spillway/runtime/Latencies", "add", "(J)V"⟩ : MethodName)) hown (mvT hZ (wdx hw 12 rfl)) (mvT hZ (wdx hw 13 rfl)) (notFace_of_selects (args := #[]) (mvT hZ (wdx hw 15 rfl))) (mvT hZ (wdx hw 15 rfl)) (mvT hZ (wdx hw 14 rfl)) (by decide) (backOf (W := 0) (rm3_1 l Z a0 hw [] b130 yb na_133 kn_133 ya (0 : Int64) (0 : Int64) (0 : Int64) T139.heap n0 O139 f143 f140 f141 f142 g_b130 g_na_133 ne138) hZ (wdx hw 16 rfl) (wdx hw 2 rfl) (by decide) (by decide)) q144a q144c (g := (mkF m 36 #[.val (.long ya), .second, .val (.long yb), .second, .val (.long yc), .second, .val (.long yd), .second, .val (.int kk), .val (.int (3 : Int32)), .val (.ref b130), .unset, .unset] [(.long yb), (.ref b130)])) rfl (by rw [hml]; rfl) (Steps.refl _) (argsL := [(.long yb)]) (rest := []) (lenOf pd__J_V rfl) rfl (by show 2 * 0 + _ ≤ _; exact Nat.le_of_eq rfl) (hb hby at_36) (fun _ _ => ⟨rfl, rfl, (by exact Nat.le_of_ble_eq_true rfl), (by exact Nat.le_of_ble_eq_true rfl)⟩)
    dsimp only [Pt.U, Pt.locs, Pt.cells, Pt.slots] at X144 l144 y144 z144 st144 hQ144
    subst l144 y144 z144
    obtain ⟨rfl, Nq144, Kq144, f145, f146, f147⟩ := hQ144
    have N144 := Fr.app N139 Nq144
    refine Go.tr st144 ?_
    have f148 : Exa Z T144.heap b130 "com/example/spillway/spillway/runtime/Latencies" := f143.keep Kq144
    have O144 : Old Z n0 T144.heap := O139.keep Kq144 (allS g_b130 (allS g_na_133 all0))
    show Go p e below s _ _ _ (T144.setTop (mkF m 39 #[.val (.long ya), .second, .val (.long yb), .second, .val (.long yc), .second, .val (.long yd), .second, .val (.int kk), .val (.int (3 : Int32)), .val (.ref b130), .unset, .unset] []))
    refine Go.st (fun _ k' => XS.iload X144.here hx rfl (hb hby at_39) rfl k') ?_
    show Go p e below s _ _ _ (T144.setTop (mkF m 41 #[.val (.long ya), .second, .val (.long yb), .second, .val (.long yc), .second, .val (.long yd), .second, .val (.int kk), .val (.int (3 : Int32)), .val (.ref b130), .unset, .unset] [(.int (3 : Int32))]))
    refine Go.st (fun _ k' => XS.iconst X144.here hx rfl (hb hby at_41) k') ?_
    show Go p e below s _ _ _ (T144.setTop (mkF m 42 #[.val (.long ya), .second, .val (.long yb), .second, .val (.long yc), .second, .val (.long yd), .second, .val (.int kk), .val (.int (3 : Int32)), .val (.ref b130), .unset, .unset] [(.int (3 : Int32)), (.int (3 : Int32))]))
    refine Go.st (fun _ k' => XS.icmpNo X144.here hx rfl (hb hby at_42) rfl (XT.ii_lt_f (by decide)) k') ?_
    show Go p e below s _ _ _ (T144.setTop (mkF m 45 #[.val (.long ya), .second, .val (.long yb), .second, .val (.long yc), .second, .val (.long yd), .second, .val (.int kk), .val (.int (3 : Int32)), .val (.ref b130), .unset, .unset] []))
    refine Go.st (fun _ k' => XS.aload X144.here hx rfl (hb hby at_45) rfl rfl k') ?_
    show Go p e below s _ _ _ (T144.setTop (mkF m 47 #[.val (.long ya), .second, .val (.long yb), .second, .val (.long yc), .second, .val (.long yd), .second, .val (.int kk), .val (.int (3 : Int32)), .val (.ref b130), .unset, .unset] [(.ref b130)]))
    refine Go.st (fun _ k' => XS.lload X144.here hx rfl (hb hby at_47) rfl k') ?_
    show Go p e below s _ _ _ (T144.setTop (mkF m 49 #[.val (.long ya), .second, .val (.long yb), .second, .val (.long yc), .second, .val (.long yd), .second, .val (.int kk), .val (.int (3 : Int32)), .val (.ref b130), .unset, .unset] [(.long yc), (.ref b130)]))
    obtain ⟨cq149, kq149, q149a, q149b, q149c⟩ := isOf hZ rfl f148
    obtain ⟨_, _, ⟨T149, L149, k149, n149⟩, -, X149, ⟨Lc149, hQ149, l149, y149, z149⟩, st149⟩ := X144.virtualBack hx (y := (⟨"com/example/spillway/spillway/runtime/Latencies", "add", "(J)V"⟩ : MethodName)) (z := (⟨"com/example/spillway/spillway/runtime/Latencies", "add", "(J)V"⟩ : MethodName)) hown (mvT hZ (wdx hw 12 rfl)) (mvT hZ (wdx hw 13 rfl)) (notFace_of_selects (args := #[]) (mvT hZ (wdx hw 15 rfl))) (mvT hZ (wdx hw 15 rfl)) (mvT hZ (wdx hw 14 rfl)) (by decide) (backOf (W := 0) (rm3_2 l Z a0 hw [] b130 yc na_133 kn_133 ya yb (0 : Int64) (0 : Int64) T144.heap n0 O144 f148 f145 f146 f147 g_b130 g_na_133 ne138) hZ (wdx hw 16 rfl) (wdx hw 2 rfl) (by decide) (by decide)) q149a q149c (g := (mkF m 49 #[.val (.long ya), .second, .val (.long yb), .second, .val (.long yc), .second, .val (.long yd), .second, .val (.int kk), .val (.int (3 : Int32)), .val (.ref b130), .unset, .unset] [(.long yc), (.ref b130)])) rfl (by rw [hml]; rfl) (Steps.refl _) (argsL := [(.long yc)]) (rest := []) (lenOf pd__J_V rfl) rfl (by show 2 * 0 + _ ≤ _; exact Nat.le_of_eq rfl) (hb hby at_49) (fun _ _ => ⟨rfl, rfl, (by exact Nat.le_of_ble_eq_true rfl), (by exact Nat.le_of_ble_eq_true rfl)⟩)
    dsimp only [Pt.U, Pt.locs, Pt.cells, Pt.slots] at X149 l149 y149 z149 st149 hQ149
    subst l149 y149 z149
    obtain ⟨rfl, Nq149, Kq149, f150, f151, f152⟩ := hQ149
    have N149 := Fr.app N144 Nq149
    refine Go.tr st149 ?_
    have f153 : Exa Z T149.heap b130 "com/example/spillway/spillway/runtime/Latencies" := f148.keep Kq149
    have O149 : Old Z n0 T149.heap := O144.keep Kq149 (allS g_b130 (allS g_na_133 all0))
    show Go p e below s _ _ _ (T149.setTop (mkF m 52 #[.val (.long ya), .second, .val (.long yb), .second, .val (.long yc), .second, .val (.long yd), .second, .val (.int kk), .val (.int (3 : Int32)), .val (.ref b130), .unset, .unset] []))
    refine Go.st (fun _ k' => XS.aload X149.here hx rfl (hb hby at_52) rfl rfl k') ?_
    show Go p e below s _ _ _ (T149.setTop (mkF m 54 #[.val (.long ya), .second, .val (.long yb), .second, .val (.long yc), .second, .val (.long yd), .second, .val (.int kk), .val (.int (3 : Int32)), .val (.ref b130), .unset, .unset] [(.ref b130)]))
    obtain ⟨cq154, kq154, q154a, q154b, q154c⟩ := isOf hZ rfl f153
    obtain ⟨_, _, ⟨T154, L154, k154, n154⟩, -, X154, ⟨Lc154, hQ154, l154, y154, z154⟩, st154⟩ := X149.virtualBack hx (y := (⟨"com/example/spillway/spillway/runtime/Latencies", "toArray", "()[J"⟩ : MethodName)) (z := (⟨"com/example/spillway/spillway/runtime/Latencies", "toArray", "()[J"⟩ : MethodName)) hown (mvT hZ (wdx hw 19 rfl)) (mvT hZ (wdx hw 20 rfl)) (notFace_of_selects (args := #[]) (mvT hZ (wdx hw 22 rfl))) (mvT hZ (wdx hw 22 rfl)) (mvT hZ (wdx hw 21 rfl)) (by decide) (backOf (W := 0) (rm4_3 l Z a0 hw [] b130 na_133 kn_133 ya yb yc (0 : Int64) T149.heap n0 O149 f150 f151 f152) hZ (wdx hw 23 rfl) (wdx hw 2 rfl) (by decide) (by decide)) q154a q154c (g := (mkF m 54 #[.val (.long ya), .second, .val (.long yb), .second, .val (.long yc), .second, .val (.long yd), .second, .val (.int kk), .val (.int (3 : Int32)), .val (.ref b130), .unset, .unset] [(.ref b130)])) rfl (by rw [hml]; rfl) (Steps.refl _) (argsL := []) (rest := []) (lenOf pd____J rfl) rfl (by show 2 * 0 + _ ≤ _; exact Nat.le_of_eq rfl) (hb hby at_54) (fun _ _ => ⟨rfl, rfl, (by exact Nat.le_of_ble_eq_true rfl), (by exact Nat.le_of_ble_eq_true rfl)⟩)
    dsimp only [Pt.U, Pt.locs, Pt.cells, Pt.slots] at X154 l154 y154 z154 st154 hQ154
    subst l154 y154 z154
    obtain ⟨rr_154, kr_154, rfl, Nq154, Kq154, f155, szr_154⟩ := hQ154
    have N154 := Fr.app N149 Nq154
    refine Go.tr st154 ?_
    have f156 : Exa Z T154.heap b130 "com/example/spillway/spillway/runtime/Latencies" := f153.keep Kq154
    have f157 : Fld Z T154.heap b130 "com/example/spillway/spillway/runtime/Latencies" "nanos" "[J" (.ref na_133) := f150.keep Kq154 nin0
    have f158 : Fld Z T154.heap b130 "com/example/spillway/spillway/runtime/Latencies" "count" "I" (.int (3 : Int32)) := f151.keep Kq154 nin0
    have f159 : Arv Z T154.heap na_133 kn_133 .long (256 : Int32) [(.long ya), (.long yb), (.long yc), (.long (0 : Int64))] (.long (0 : Int64)) := f152.keep Kq154 nin0
    have O154 : Old Z n0 T154.heap := O149.keep Kq154 all0
    have g_rr_154 : n0 ≤ rr_154 := Nat.le_trans (own_le O149) szr_154
    have ne160 : b130 ≠ rr_154 := Nat.ne_of_lt (Nat.lt_of_lt_of_le f153.lt szr_154)
    have ne161 : na_133 ≠ rr_154 := Nat.ne_of_lt (Nat.lt_of_lt_of_le f152.lt szr_154)
    show Go p e below s _ _ _ (T154.setTop (mkF m 57 #[.val (.long ya), .second, .val (.long yb), .second, .val (.long yc), .second, .val (.long yd), .second, .val (.int kk), .val (.int (3 : Int32)), .val (.ref b130), .unset, .unset] [(.ref rr_154)]))
    refine Go.st (fun _ k' => XS.astore X154.here hx rfl (hb hby at_57) rfl rfl (l' := #[.val (.long ya), .second, .val (.long yb), .second, .val (.long yc), .second, .val (.long yd), .second, .val (.int kk), .val (.int (3 : Int32)), .val (.ref b130), .val (.ref rr_154), .unset]) rfl k') ?_
    show Go p e below s _ _ _ (T154.setTop (mkF m 59 #[.val (.long ya), .second, .val (.long yb), .second, .val (.long yc), .second, .val (.long yd), .second, .val (.int kk), .val (.int (3 : Int32)), .val (.ref b130), .val (.ref rr_154), .unset] []))
    refine Go.st (fun _ k' => XS.aload X154.here hx rfl (hb hby at_59) rfl rfl k') ?_
    show Go p e below s _ _ _ (T154.setTop (mkF m 61 #[.val (.long ya), .second, .val (.long yb), .second, .val (.long yc), .second, .val (.long yd), .second, .val (.int kk), .val (.int (3 : Int32)), .val (.ref b130), .val (.ref rr_154), .unset] [(.ref rr_154)]))
    obtain ⟨cl162, Ar162, qc162, Sz162, Nn162, Ha162, Gf162⟩ := id f155
    refine Go.st (fun _ k' => X154.arraylength hx Ar162.1 (State.isArrayOf_alike hZ.alike Ar162.2.1) (g := (mkF m 61 #[.val (.long ya), .second, .val (.long yb), .second, .val (.long yc), .second, .val (.long yd), .second, .val (.int kk), .val (.int (3 : Int32)), .val (.ref b130), .val (.ref rr_154), .unset] [(.ref rr_154)])) rfl rfl (hb hby at_61) _ k') ?_
    rw [len_of Sz162 Nn162]
    show Go p e below s _ _ _ (T154.setTop (mkF m 62 #[.val (.long ya), .second, .val (.long yb), .second, .val (.long yc), .second, .val (.long yd), .second, .val (.int kk), .val (.int (3 : Int32)), .val (.ref b130), .val (.ref rr_154), .unset] [(.int (3 : Int32))]))
    refine Go.st (fun _ k' => XS.iload X154.here hx rfl (hb hby at_62) rfl k') ?_
    show Go p e below s _ _ _ (T154.setTop (mkF m 64 #[.val (.long ya), .second, .val (.long yb), .second, .val (.long yc), .second, .val (.long yd), .second, .val (.int kk), .val (.int (3 : Int32)), .val (.ref b130), .val (.ref rr_154), .unset] [(.int (3 : Int32)), (.int (3 : Int32))]))
    refine Go.st (fun _ k' => XS.icmpYes X154.here hx rfl (pc0 := 64) (pc' := 69) rfl (hb hby at_64) rfl (XT.ii_eq_t (by decide)) (by decide) (by decide) k') ?_
    show Go p e below s _ _ _ (T154.setTop (mkF m 69 #[.val (.long ya), .second, .val (.long yb), .second, .val (.long yc), .second, .val (.long yd), .second, .val (.int kk), .val (.int (3 : Int32)), .val (.ref b130), .val (.ref rr_154), .unset] []))
    refine Go.st (fun _ k' => XS.iload X154.here hx rfl (hb hby at_69) rfl k') ?_
    show Go p e below s _ _ _ (T154.setTop (mkF m 71 #[.val (.long ya), .second, .val (.long yb), .second, .val (.long yc), .second, .val (.long yd), .second, .val (.int kk), .val (.int (3 : Int32)), .val (.ref b130), .val (.ref rr_154), .unset] [(.int (3 : Int32))]))
    refine Go.st (fun _ k' => XS.iconst X154.here hx rfl (hb hby at_71) k') ?_
    show Go p e below s _ _ _ (T154.setTop (mkF m 72 #[.val (.long ya), .second, .val (.long yb), .second, .val (.long yc), .second, .val (.long yd), .second, .val (.int kk), .val (.int (3 : Int32)), .val (.ref b130), .val (.ref rr_154), .unset] [(.int (1 : Int32)), (.int (3 : Int32))]))
    refine Go.st (fun _ k' => XS.icmpNo X154.here hx rfl (hb hby at_72) rfl (XT.ii_lt_f (by decide)) k') ?_
    show Go p e below s _ _ _ (T154.setTop (mkF m 75 #[.val (.long ya), .second, .val (.long yb), .second, .val (.long yc), .second, .val (.long yd), .second, .val (.int kk), .val (.int (3 : Int32)), .val (.ref b130), .val (.ref rr_154), .unset] []))
    refine Go.st (fun _ k' => XS.aload X154.here hx rfl (hb hby at_75) rfl rfl k') ?_
    show Go p e below s _ _ _ (T154.setTop (mkF m 77 #[.val (.long ya), .second, .val (.long yb), .second, .val (.long yc), .second, .val (.long yd), .second, .val (.int kk), .val (.int (3 : Int32)), .val (.ref b130), .val (.ref rr_154), .unset] [(.ref rr_154)]))
    refine Go.st (fun _ k' => XS.iconst X154.here hx rfl (hb hby at_77) k') ?_
    show Go p e below s _ _ _ (T154.setTop (mkF m 78 #[.val (.long ya), .second, .val (.long yb), .second, .val (.long yc), .second, .val (.long yd), .second, .val (.int kk), .val (.int (3 : Int32)), .val (.ref b130), .val (.ref rr_154), .unset] [(.int (0 : Int32)), (.ref rr_154)]))
    obtain ⟨cl163, Ar163, qc163, Sz163, Nn163, Ha163, Gf163⟩ := id f155
    refine Go.st (fun _ k' => X154.laload hx (j := (0 : Int32)) (v := (.long ya)) Ar163.1 (State.isArrayOf_alike hZ.alike Ar163.2.1) Ar163.2.2 (inb_of Sz163 ⟨by decide, by decide⟩) (Ha163.at (inb_of Sz163 ⟨by decide, by decide⟩) rfl) (g := (mkF m 78 #[.val (.long ya), .second, .val (.long yb), .second, .val (.long yc), .second, .val (.long yd), .second, .val (.int kk), .val (.int (3 : Int32)), .val (.ref b130), .val (.ref rr_154), .unset] [(.int (0 : Int32)), (.ref rr_154)])) rfl rfl (hb hby at_78) _ k') ?_
    show Go p e below s _ _ _ (T154.setTop (mkF m 79 #[.val (.long ya), .second, .val (.long yb), .second, .val (.long yc), .second, .val (.long yd), .second, .val (.int kk), .val (.int (3 : Int32)), .val (.ref b130), .val (.ref rr_154), .unset] [(.long ya)]))
    refine Go.st (fun _ k' => XS.lloadN X154.here hx rfl (hb hby at_79) rfl k') ?_
    show Go p e below s _ _ _ (T154.setTop (mkF m 80 #[.val (.long ya), .second, .val (.long yb), .second, .val (.long yc), .second, .val (.long yd), .second, .val (.int kk), .val (.int (3 : Int32)), .val (.ref b130), .val (.ref rr_154), .unset] [(.long ya), (.long ya)]))
    refine Go.st (fun _ k' => XT.lcmp X154.here hx rfl (hb hby at_80) rfl k') ?_
    show Go p e below s _ _ _ (T154.setTop (mkF m 81 #[.val (.long ya), .second, .val (.long yb), .second, .val (.long yc), .second, .val (.long yd), .second, .val (.int kk), .val (.int (3 : Int32)), .val (.ref b130), .val (.ref rr_154), .unset] [(.int (XT.cmpL ya ya))]))
    refine Go.st (fun _ k' => XS.ifYes X154.here hx rfl (pc0 := 81) (pc' := 86) rfl (hb hby at_81) rfl (XT.ll_eq_t rfl) (by decide) (by decide) k') ?_
    show Go p e below s _ _ _ (T154.setTop (mkF m 86 #[.val (.long ya), .second, .val (.long yb), .second, .val (.long yc), .second, .val (.long yd), .second, .val (.int kk), .val (.int (3 : Int32)), .val (.ref b130), .val (.ref rr_154), .unset] []))
    refine Go.st (fun _ k' => XS.iload X154.here hx rfl (hb hby at_86) rfl k') ?_
    show Go p e below s _ _ _ (T154.setTop (mkF m 88 #[.val (.long ya), .second, .val (.long yb), .second, .val (.long yc), .second, .val (.long yd), .second, .val (.int kk), .val (.int (3 : Int32)), .val (.ref b130), .val (.ref rr_154), .unset] [(.int (3 : Int32))]))
    refine Go.st (fun _ k' => XS.iconst X154.here hx rfl (hb hby at_88) k') ?_
    show Go p e below s _ _ _ (T154.setTop (mkF m 89 #[.val (.long ya), .second, .val (.long yb), .second, .val (.long yc), .second, .val (.long yd), .second, .val (.int kk), .val (.int (3 : Int32)), .val (.ref b130), .val (.ref rr_154), .unset] [(.int (2 : Int32)), (.int (3 : Int32))]))
    refine Go.st (fun _ k' => XS.icmpNo X154.here hx rfl (hb hby at_89) rfl (XT.ii_lt_f (by decide)) k') ?_
    show Go p e below s _ _ _ (T154.setTop (mkF m 92 #[.val (.long ya), .second, .val (.long yb), .second, .val (.long yc), .second, .val (.long yd), .second, .val (.int kk), .val (.int (3 : Int32)), .val (.ref b130), .val (.ref rr_154), .unset] []))
    refine Go.st (fun _ k' => XS.aload X154.here hx rfl (hb hby at_92) rfl rfl k') ?_
    show Go p e below s _ _ _ (T154.setTop (mkF m 94 #[.val (.long ya), .second, .val (.long yb), .second, .val (.long yc), .second, .val (.long yd), .second, .val (.int kk), .val (.int (3 : Int32)), .val (.ref b130), .val (.ref rr_154), .unset] [(.ref rr_154)]))
    refine Go.st (fun _ k' => XS.iconst X154.here hx rfl (hb hby at_94) k') ?_
    show Go p e below s _ _ _ (T154.setTop (mkF m 95 #[.val (.long ya), .second, .val (.long yb), .second, .val (.long yc), .second, .val (.long yd), .second, .val (.int kk), .val (.int (3 : Int32)), .val (.ref b130), .val (.ref rr_154), .unset] [(.int (1 : Int32)), (.ref rr_154)]))
    obtain ⟨cl164, Ar164, qc164, Sz164, Nn164, Ha164, Gf164⟩ := id f155
    refine Go.st (fun _ k' => X154.laload hx (j := (1 : Int32)) (v := (.long yb)) Ar164.1 (State.isArrayOf_alike hZ.alike Ar164.2.1) Ar164.2.2 (inb_of Sz164 ⟨by decide, by decide⟩) (Ha164.at (inb_of Sz164 ⟨by decide, by decide⟩) rfl) (g := (mkF m 95 #[.val (.long ya), .second, .val (.long yb), .second, .val (.long yc), .second, .val (.long yd), .second, .val (.int kk), .val (.int (3 : Int32)), .val (.ref b130), .val (.ref rr_154), .unset] [(.int (1 : Int32)), (.ref rr_154)])) rfl rfl (hb hby at_95) _ k') ?_
    show Go p e below s _ _ _ (T154.setTop (mkF m 96 #[.val (.long ya), .second, .val (.long yb), .second, .val (.long yc), .second, .val (.long yd), .second, .val (.int kk), .val (.int (3 : Int32)), .val (.ref b130), .val (.ref rr_154), .unset] [(.long yb)]))
    refine Go.st (fun _ k' => XS.lloadN X154.here hx rfl (hb hby at_96) rfl k') ?_
    show Go p e below s _ _ _ (T154.setTop (mkF m 97 #[.val (.long ya), .second, .val (.long yb), .second, .val (.long yc), .second, .val (.long yd), .second, .val (.int kk), .val (.int (3 : Int32)), .val (.ref b130), .val (.ref rr_154), .unset] [(.long yb), (.long yb)]))
    refine Go.st (fun _ k' => XT.lcmp X154.here hx rfl (hb hby at_97) rfl k') ?_
    show Go p e below s _ _ _ (T154.setTop (mkF m 98 #[.val (.long ya), .second, .val (.long yb), .second, .val (.long yc), .second, .val (.long yd), .second, .val (.int kk), .val (.int (3 : Int32)), .val (.ref b130), .val (.ref rr_154), .unset] [(.int (XT.cmpL yb yb))]))
    refine Go.st (fun _ k' => XS.ifYes X154.here hx rfl (pc0 := 98) (pc' := 103) rfl (hb hby at_98) rfl (XT.ll_eq_t rfl) (by decide) (by decide) k') ?_
    show Go p e below s _ _ _ (T154.setTop (mkF m 103 #[.val (.long ya), .second, .val (.long yb), .second, .val (.long yc), .second, .val (.long yd), .second, .val (.int kk), .val (.int (3 : Int32)), .val (.ref b130), .val (.ref rr_154), .unset] []))
    refine Go.st (fun _ k' => XS.iload X154.here hx rfl (hb hby at_103) rfl k') ?_
    show Go p e below s _ _ _ (T154.setTop (mkF m 105 #[.val (.long ya), .second, .val (.long yb), .second, .val (.long yc), .second, .val (.long yd), .second, .val (.int kk), .val (.int (3 : Int32)), .val (.ref b130), .val (.ref rr_154), .unset] [(.int (3 : Int32))]))
    refine Go.st (fun _ k' => XS.iconst X154.here hx rfl (hb hby at_105) k') ?_
    show Go p e below s _ _ _ (T154.setTop (mkF m 106 #[.val (.long ya), .second, .val (.long yb), .second, .val (.long yc), .second, .val (.long yd), .second, .val (.int kk), .val (.int (3 : Int32)), .val (.ref b130), .val (.ref rr_154), .unset] [(.int (3 : Int32)), (.int (3 : Int32))]))
    refine Go.st (fun _ k' => XS.icmpNo X154.here hx rfl (hb hby at_106) rfl (XT.ii_lt_f (by decide)) k') ?_
    show Go p e below s _ _ _ (T154.setTop (mkF m 109 #[.val (.long ya), .second, .val (.long yb), .second, .val (.long yc), .second, .val (.long yd), .second, .val (.int kk), .val (.int (3 : Int32)), .val (.ref b130), .val (.ref rr_154), .unset] []))
    refine Go.st (fun _ k' => XS.aload X154.here hx rfl (hb hby at_109) rfl rfl k') ?_
    show Go p e below s _ _ _ (T154.setTop (mkF m 111 #[.val (.long ya), .second, .val (.long yb), .second, .val (.long yc), .second, .val (.long yd), .second, .val (.int kk), .val (.int (3 : Int32)), .val (.ref b130), .val (.ref rr_154), .unset] [(.ref rr_154)]))
    refine Go.st (fun _ k' => XS.iconst X154.here hx rfl (hb hby at_111) k') ?_
    show Go p e below s _ _ _ (T154.setTop (mkF m 112 #[.val (.long ya), .second, .val (.long yb), .second, .val (.long yc), .second, .val (.long yd), .second, .val (.int kk), .val (.int (3 : Int32)), .val (.ref b130), .val (.ref rr_154), .unset] [(.int (2 : Int32)), (.ref rr_154)]))
    obtain ⟨cl165, Ar165, qc165, Sz165, Nn165, Ha165, Gf165⟩ := id f155
    refine Go.st (fun _ k' => X154.laload hx (j := (2 : Int32)) (v := (.long yc)) Ar165.1 (State.isArrayOf_alike hZ.alike Ar165.2.1) Ar165.2.2 (inb_of Sz165 ⟨by decide, by decide⟩) (Ha165.at (inb_of Sz165 ⟨by decide, by decide⟩) rfl) (g := (mkF m 112 #[.val (.long ya), .second, .val (.long yb), .second, .val (.long yc), .second, .val (.long yd), .second, .val (.int kk), .val (.int (3 : Int32)), .val (.ref b130), .val (.ref rr_154), .unset] [(.int (2 : Int32)), (.ref rr_154)])) rfl rfl (hb hby at_112) _ k') ?_
    show Go p e below s _ _ _ (T154.setTop (mkF m 113 #[.val (.long ya), .second, .val (.long yb), .second, .val (.long yc), .second, .val (.long yd), .second, .val (.int kk), .val (.int (3 : Int32)), .val (.ref b130), .val (.ref rr_154), .unset] [(.long yc)]))
    refine Go.st (fun _ k' => XS.lload X154.here hx rfl (hb hby at_113) rfl k') ?_
    show Go p e below s _ _ _ (T154.setTop (mkF m 115 #[.val (.long ya), .second, .val (.long yb), .second, .val (.long yc), .second, .val (.long yd), .second, .val (.int kk), .val (.int (3 : Int32)), .val (.ref b130), .val (.ref rr_154), .unset] [(.long yc), (.long yc)]))
    refine Go.st (fun _ k' => XT.lcmp X154.here hx rfl (hb hby at_115) rfl k') ?_
    show Go p e below s _ _ _ (T154.setTop (mkF m 116 #[.val (.long ya), .second, .val (.long yb), .second, .val (.long yc), .second, .val (.long yd), .second, .val (.int kk), .val (.int (3 : Int32)), .val (.ref b130), .val (.ref rr_154), .unset] [(.int (XT.cmpL yc yc))]))
    refine Go.st (fun _ k' => XS.ifYes X154.here hx rfl (pc0 := 116) (pc' := 121) rfl (hb hby at_116) rfl (XT.ll_eq_t rfl) (by decide) (by decide) k') ?_
    show Go p e below s _ _ _ (T154.setTop (mkF m 121 #[.val (.long ya), .second, .val (.long yb), .second, .val (.long yc), .second, .val (.long yd), .second, .val (.int kk), .val (.int (3 : Int32)), .val (.ref b130), .val (.ref rr_154), .unset] []))
    refine Go.st (fun _ k' => XS.aload X154.here hx rfl (hb hby at_121) rfl rfl k') ?_
    show Go p e below s _ _ _ (T154.setTop (mkF m 123 #[.val (.long ya), .second, .val (.long yb), .second, .val (.long yc), .second, .val (.long yd), .second, .val (.int kk), .val (.int (3 : Int32)), .val (.ref b130), .val (.ref rr_154), .unset] [(.ref b130)]))
    refine Go.st (fun _ k' => XS.lload X154.here hx rfl (hb hby at_123) rfl k') ?_
    show Go p e below s _ _ _ (T154.setTop (mkF m 125 #[.val (.long ya), .second, .val (.long yb), .second, .val (.long yc), .second, .val (.long yd), .second, .val (.int kk), .val (.int (3 : Int32)), .val (.ref b130), .val (.ref rr_154), .unset] [(.long yd), (.ref b130)]))
    obtain ⟨cq166, kq166, q166a, q166b, q166c⟩ := isOf hZ rfl f156
    obtain ⟨_, _, ⟨T166, L166, k166, n166⟩, -, X166, ⟨Lc166, hQ166, l166, y166, z166⟩, st166⟩ := X154.virtualBack hx (y := (⟨"com/example/spillway/spillway/runtime/Latencies", "add", "(J)V"⟩ : MethodName)) (z := (⟨"com/example/spillway/spillway/runtime/Latencies", "add", "(J)V"⟩ : MethodName)) hown (mvT hZ (wdx hw 12 rfl)) (mvT hZ (wdx hw 13 rfl)) (notFace_of_selects (args := #[]) (mvT hZ (wdx hw 15 rfl))) (mvT hZ (wdx hw 15 rfl)) (mvT hZ (wdx hw 14 rfl)) (by decide) (backOf (W := 0) (rm3_3 l Z a0 hw [] b130 yd na_133 kn_133 ya yb yc (0 : Int64) T154.heap n0 O154 f156 f157 f158 f159 g_b130 g_na_133 ne138) hZ (wdx hw 16 rfl) (wdx hw 2 rfl) (by decide) (by decide)) q166a q166c (g := (mkF m 125 #[.val (.long ya), .second, .val (.long yb), .second, .val (.long yc), .second, .val (.long yd), .second, .val (.int kk), .val (.int (3 : Int32)), .val (.ref b130), .val (.ref rr_154), .unset] [(.long yd), (.ref b130)])) rfl (by rw [hml]; rfl) (Steps.refl _) (argsL := [(.long yd)]) (rest := []) (lenOf pd__J_V rfl) rfl (by show 2 * 0 + _ ≤ _; exact Nat.le_of_eq rfl) (hb hby at_125) (fun _ _ => ⟨rfl, rfl, (by exact Nat.le_of_ble_eq_true rfl), (by exact Nat.le_of_ble_eq_true rfl)⟩)
    dsimp only [Pt.U, Pt.locs, Pt.cells, Pt.slots] at X166 l166 y166 z166 st166 hQ166
    subst l166 y166 z166
    obtain ⟨rfl, Nq166, Kq166, f167, f168, f169⟩ := hQ166
    have N166 := Fr.app N154 Nq166
    refine Go.tr st166 ?_
    have f170 : Exa Z T166.heap b130 "com/example/spillway/spillway/runtime/Latencies" := f156.keep Kq166
    have f171 : Arv Z T166.heap rr_154 kr_154 .long (3 : Int32) [(.long ya), (.long yb), (.long yc)] (.long (0 : Int64)) := f155.keep Kq166 (ninS (Ne.symm ne160) (ninS (Ne.symm ne161) nin0))
    have O166 : Old Z n0 T166.heap := O154.keep Kq166 (allS g_b130 (allS g_na_133 all0))
    show Go p e below s _ _ _ (T166.setTop (mkF m 128 #[.val (.long ya), .second, .val (.long yb), .second, .val (.long yc), .second, .val (.long yd), .second, .val (.int kk), .val (.int (3 : Int32)), .val (.ref b130), .val (.ref rr_154), .unset] []))
    refine Go.st (fun _ k' => XS.aload X166.here hx rfl (hb hby at_128) rfl rfl k') ?_
    show Go p e below s _ _ _ (T166.setTop (mkF m 130 #[.val (.long ya), .second, .val (.long yb), .second, .val (.long yc), .second, .val (.long yd), .second, .val (.int kk), .val (.int (3 : Int32)), .val (.ref b130), .val (.ref rr_154), .unset] [(.ref b130)]))
    obtain ⟨cq172, kq172, q172a, q172b, q172c⟩ := isOf hZ rfl f170
    obtain ⟨_, _, ⟨T172, L172, k172, n172⟩, -, X172, ⟨Lc172, hQ172, l172, y172, z172⟩, st172⟩ := X166.virtualBack hx (y := (⟨"com/example/spillway/spillway/runtime/Latencies", "toArray", "()[J"⟩ : MethodName)) (z := (⟨"com/example/spillway/spillway/runtime/Latencies", "toArray", "()[J"⟩ : MethodName)) hown (mvT hZ (wdx hw 19 rfl)) (mvT hZ (wdx hw 20 rfl)) (notFace_of_selects (args := #[]) (mvT hZ (wdx hw 22 rfl))) (mvT hZ (wdx hw 22 rfl)) (mvT hZ (wdx hw 21 rfl)) (by decide) (backOf (W := 0) (rm4_4 l Z a0 hw [] b130 na_133 kn_133 ya yb yc yd T166.heap n0 O166 f167 f168 f169) hZ (wdx hw 23 rfl) (wdx hw 2 rfl) (by decide) (by decide)) q172a q172c (g := (mkF m 130 #[.val (.long ya), .second, .val (.long yb), .second, .val (.long yc), .second, .val (.long yd), .second, .val (.int kk), .val (.int (3 : Int32)), .val (.ref b130), .val (.ref rr_154), .unset] [(.ref b130)])) rfl (by rw [hml]; rfl) (Steps.refl _) (argsL := []) (rest := []) (lenOf pd____J rfl) rfl (by show 2 * 0 + _ ≤ _; exact Nat.le_of_eq rfl) (hb hby at_130) (fun _ _ => ⟨rfl, rfl, (by exact Nat.le_of_ble_eq_true rfl), (by exact Nat.le_of_ble_eq_true rfl)⟩)
    dsimp only [Pt.U, Pt.locs, Pt.cells, Pt.slots] at X172 l172 y172 z172 st172 hQ172
    subst l172 y172 z172
    obtain ⟨rr_172, kr_172, rfl, Nq172, Kq172, f173, szr_172⟩ := hQ172
    have N172 := Fr.app N166 Nq172
    refine Go.tr st172 ?_
    have f174 : Exa Z T172.heap b130 "com/example/spillway/spillway/runtime/Latencies" := f170.keep Kq172
    have f175 : Arv Z T172.heap rr_154 kr_154 .long (3 : Int32) [(.long ya), (.long yb), (.long yc)] (.long (0 : Int64)) := f171.keep Kq172 nin0
    have f176 : Fld Z T172.heap b130 "com/example/spillway/spillway/runtime/Latencies" "nanos" "[J" (.ref na_133) := f167.keep Kq172 nin0
    have f177 : Fld Z T172.heap b130 "com/example/spillway/spillway/runtime/Latencies" "count" "I" (.int (4 : Int32)) := f168.keep Kq172 nin0
    have f178 : Arv Z T172.heap na_133 kn_133 .long (256 : Int32) [(.long ya), (.long yb), (.long yc), (.long yd)] (.long (0 : Int64)) := f169.keep Kq172 nin0
    have O172 : Old Z n0 T172.heap := O166.keep Kq172 all0
    have g_rr_172 : n0 ≤ rr_172 := Nat.le_trans (own_le O166) szr_172
    have ne179 : b130 ≠ rr_172 := Nat.ne_of_lt (Nat.lt_of_lt_of_le f170.lt szr_172)
    have ne180 : rr_154 ≠ rr_172 := Nat.ne_of_lt (Nat.lt_of_lt_of_le f171.lt szr_172)
    have ne181 : na_133 ≠ rr_172 := Nat.ne_of_lt (Nat.lt_of_lt_of_le f169.lt szr_172)
    show Go p e below s _ _ _ (T172.setTop (mkF m 133 #[.val (.long ya), .second, .val (.long yb), .second, .val (.long yc), .second, .val (.long yd), .second, .val (.int kk), .val (.int (3 : Int32)), .val (.ref b130), .val (.ref rr_154), .unset] [(.ref rr_172)]))
    refine Go.st (fun _ k' => XS.astore X172.here hx rfl (hb hby at_133) rfl rfl (l' := #[.val (.long ya), .second, .val (.long yb), .second, .val (.long yc), .second, .val (.long yd), .second, .val (.int kk), .val (.int (3 : Int32)), .val (.ref b130), .val (.ref rr_154), .val (.ref rr_172)]) rfl k') ?_
    show Go p e below s _ _ _ (T172.setTop (mkF m 135 #[.val (.long ya), .second, .val (.long yb), .second, .val (.long yc), .second, .val (.long yd), .second, .val (.int kk), .val (.int (3 : Int32)), .val (.ref b130), .val (.ref rr_154), .val (.ref rr_172)] []))
    refine Go.st (fun _ k' => XS.aload X172.here hx rfl (hb hby at_135) rfl rfl k') ?_
    show Go p e below s _ _ _ (T172.setTop (mkF m 137 #[.val (.long ya), .second, .val (.long yb), .second, .val (.long yc), .second, .val (.long yd), .second, .val (.int kk), .val (.int (3 : Int32)), .val (.ref b130), .val (.ref rr_154), .val (.ref rr_172)] [(.ref rr_172)]))
    obtain ⟨cl182, Ar182, qc182, Sz182, Nn182, Ha182, Gf182⟩ := id f173
    refine Go.st (fun _ k' => X172.arraylength hx Ar182.1 (State.isArrayOf_alike hZ.alike Ar182.2.1) (g := (mkF m 137 #[.val (.long ya), .second, .val (.long yb), .second, .val (.long yc), .second, .val (.long yd), .second, .val (.int kk), .val (.int (3 : Int32)), .val (.ref b130), .val (.ref rr_154), .val (.ref rr_172)] [(.ref rr_172)])) rfl rfl (hb hby at_137) _ k') ?_
    rw [len_of Sz182 Nn182]
    show Go p e below s _ _ _ (T172.setTop (mkF m 138 #[.val (.long ya), .second, .val (.long yb), .second, .val (.long yc), .second, .val (.long yd), .second, .val (.int kk), .val (.int (3 : Int32)), .val (.ref b130), .val (.ref rr_154), .val (.ref rr_172)] [(.int (4 : Int32))]))
    refine Go.st (fun _ k' => XS.iload X172.here hx rfl (hb hby at_138) rfl k') ?_
    show Go p e below s _ _ _ (T172.setTop (mkF m 140 #[.val (.long ya), .second, .val (.long yb), .second, .val (.long yc), .second, .val (.long yd), .second, .val (.int kk), .val (.int (3 : Int32)), .val (.ref b130), .val (.ref rr_154), .val (.ref rr_172)] [(.int (3 : Int32)), (.int (4 : Int32))]))
    refine Go.st (fun _ k' => XS.iconst X172.here hx rfl (hb hby at_140) k') ?_
    show Go p e below s _ _ _ (T172.setTop (mkF m 141 #[.val (.long ya), .second, .val (.long yb), .second, .val (.long yc), .second, .val (.long yd), .second, .val (.int kk), .val (.int (3 : Int32)), .val (.ref b130), .val (.ref rr_154), .val (.ref rr_172)] [(.int (1 : Int32)), (.int (3 : Int32)), (.int (4 : Int32))]))
    refine Go.st (fun _ k' => XS.iadd X172.here hx rfl (hb hby at_141) rfl k') ?_
    show Go p e below s _ _ _ (T172.setTop (mkF m 142 #[.val (.long ya), .second, .val (.long yb), .second, .val (.long yc), .second, .val (.long yd), .second, .val (.int kk), .val (.int (3 : Int32)), .val (.ref b130), .val (.ref rr_154), .val (.ref rr_172)] [(.int (4 : Int32)), (.int (4 : Int32))]))
    refine Go.st (fun _ k' => XS.icmpYes X172.here hx rfl (pc0 := 142) (pc' := 147) rfl (hb hby at_142) rfl (XT.ii_eq_t (by decide)) (by decide) (by decide) k') ?_
    show Go p e below s _ _ _ (T172.setTop (mkF m 147 #[.val (.long ya), .second, .val (.long yb), .second, .val (.long yc), .second, .val (.long yd), .second, .val (.int kk), .val (.int (3 : Int32)), .val (.ref b130), .val (.ref rr_154), .val (.ref rr_172)] []))
    refine Go.st (fun _ k' => XS.aload X172.here hx rfl (hb hby at_147) rfl rfl k') ?_
    show Go p e below s _ _ _ (T172.setTop (mkF m 149 #[.val (.long ya), .second, .val (.long yb), .second, .val (.long yc), .second, .val (.long yd), .second, .val (.int kk), .val (.int (3 : Int32)), .val (.ref b130), .val (.ref rr_154), .val (.ref rr_172)] [(.ref rr_172)]))
    refine Go.st (fun _ k' => XS.iload X172.here hx rfl (hb hby at_149) rfl k') ?_
    show Go p e below s _ _ _ (T172.setTop (mkF m 151 #[.val (.long ya), .second, .val (.long yb), .second, .val (.long yc), .second, .val (.long yd), .second, .val (.int kk), .val (.int (3 : Int32)), .val (.ref b130), .val (.ref rr_154), .val (.ref rr_172)] [(.int (3 : Int32)), (.ref rr_172)]))
    obtain ⟨cl183, Ar183, qc183, Sz183, Nn183, Ha183, Gf183⟩ := id f173
    refine Go.st (fun _ k' => X172.laload hx (j := (3 : Int32)) (v := (.long yd)) Ar183.1 (State.isArrayOf_alike hZ.alike Ar183.2.1) Ar183.2.2 (inb_of Sz183 ⟨by decide, by decide⟩) (Ha183.at (inb_of Sz183 ⟨by decide, by decide⟩) rfl) (g := (mkF m 151 #[.val (.long ya), .second, .val (.long yb), .second, .val (.long yc), .second, .val (.long yd), .second, .val (.int kk), .val (.int (3 : Int32)), .val (.ref b130), .val (.ref rr_154), .val (.ref rr_172)] [(.int (3 : Int32)), (.ref rr_172)])) rfl rfl (hb hby at_151) _ k') ?_
    show Go p e below s _ _ _ (T172.setTop (mkF m 152 #[.val (.long ya), .second, .val (.long yb), .second, .val (.long yc), .second, .val (.long yd), .second, .val (.int kk), .val (.int (3 : Int32)), .val (.ref b130), .val (.ref rr_154), .val (.ref rr_172)] [(.long yd)]))
    refine Go.st (fun _ k' => XS.lload X172.here hx rfl (hb hby at_152) rfl k') ?_
    show Go p e below s _ _ _ (T172.setTop (mkF m 154 #[.val (.long ya), .second, .val (.long yb), .second, .val (.long yc), .second, .val (.long yd), .second, .val (.int kk), .val (.int (3 : Int32)), .val (.ref b130), .val (.ref rr_154), .val (.ref rr_172)] [(.long yd), (.long yd)]))
    refine Go.st (fun _ k' => XT.lcmp X172.here hx rfl (hb hby at_154) rfl k') ?_
    show Go p e below s _ _ _ (T172.setTop (mkF m 155 #[.val (.long ya), .second, .val (.long yb), .second, .val (.long yc), .second, .val (.long yd), .second, .val (.int kk), .val (.int (3 : Int32)), .val (.ref b130), .val (.ref rr_154), .val (.ref rr_172)] [(.int (XT.cmpL yd yd))]))
    refine Go.st (fun _ k' => XS.ifYes X172.here hx rfl (pc0 := 155) (pc' := 160) rfl (hb hby at_155) rfl (XT.ll_eq_t rfl) (by decide) (by decide) k') ?_
    show Go p e below s _ _ _ (T172.setTop (mkF m 160 #[.val (.long ya), .second, .val (.long yb), .second, .val (.long yc), .second, .val (.long yd), .second, .val (.int kk), .val (.int (3 : Int32)), .val (.ref b130), .val (.ref rr_154), .val (.ref rr_172)] []))
    refine Go.st (fun _ k' => XS.iload X172.here hx rfl (hb hby at_160) rfl k') ?_
    show Go p e below s _ _ _ (T172.setTop (mkF m 162 #[.val (.long ya), .second, .val (.long yb), .second, .val (.long yc), .second, .val (.long yd), .second, .val (.int kk), .val (.int (3 : Int32)), .val (.ref b130), .val (.ref rr_154), .val (.ref rr_172)] [(.int (3 : Int32))]))
    refine Go.st (fun _ k' => XS.iconst X172.here hx rfl (hb hby at_162) k') ?_
    show Go p e below s _ _ _ (T172.setTop (mkF m 163 #[.val (.long ya), .second, .val (.long yb), .second, .val (.long yc), .second, .val (.long yd), .second, .val (.int kk), .val (.int (3 : Int32)), .val (.ref b130), .val (.ref rr_154), .val (.ref rr_172)] [(.int (1 : Int32)), (.int (3 : Int32))]))
    refine Go.st (fun _ k' => XS.icmpNo X172.here hx rfl (hb hby at_163) rfl (XT.ii_lt_f (by decide)) k') ?_
    show Go p e below s _ _ _ (T172.setTop (mkF m 166 #[.val (.long ya), .second, .val (.long yb), .second, .val (.long yc), .second, .val (.long yd), .second, .val (.int kk), .val (.int (3 : Int32)), .val (.ref b130), .val (.ref rr_154), .val (.ref rr_172)] []))
    refine Go.st (fun _ k' => XS.aload X172.here hx rfl (hb hby at_166) rfl rfl k') ?_
    show Go p e below s _ _ _ (T172.setTop (mkF m 168 #[.val (.long ya), .second, .val (.long yb), .second, .val (.long yc), .second, .val (.long yd), .second, .val (.int kk), .val (.int (3 : Int32)), .val (.ref b130), .val (.ref rr_154), .val (.ref rr_172)] [(.ref rr_172)]))
    refine Go.st (fun _ k' => XS.iconst X172.here hx rfl (hb hby at_168) k') ?_
    show Go p e below s _ _ _ (T172.setTop (mkF m 169 #[.val (.long ya), .second, .val (.long yb), .second, .val (.long yc), .second, .val (.long yd), .second, .val (.int kk), .val (.int (3 : Int32)), .val (.ref b130), .val (.ref rr_154), .val (.ref rr_172)] [(.int (0 : Int32)), (.ref rr_172)]))
    obtain ⟨cl184, Ar184, qc184, Sz184, Nn184, Ha184, Gf184⟩ := id f173
    refine Go.st (fun _ k' => X172.laload hx (j := (0 : Int32)) (v := (.long ya)) Ar184.1 (State.isArrayOf_alike hZ.alike Ar184.2.1) Ar184.2.2 (inb_of Sz184 ⟨by decide, by decide⟩) (Ha184.at (inb_of Sz184 ⟨by decide, by decide⟩) rfl) (g := (mkF m 169 #[.val (.long ya), .second, .val (.long yb), .second, .val (.long yc), .second, .val (.long yd), .second, .val (.int kk), .val (.int (3 : Int32)), .val (.ref b130), .val (.ref rr_154), .val (.ref rr_172)] [(.int (0 : Int32)), (.ref rr_172)])) rfl rfl (hb hby at_169) _ k') ?_
    show Go p e below s _ _ _ (T172.setTop (mkF m 170 #[.val (.long ya), .second, .val (.long yb), .second, .val (.long yc), .second, .val (.long yd), .second, .val (.int kk), .val (.int (3 : Int32)), .val (.ref b130), .val (.ref rr_154), .val (.ref rr_172)] [(.long ya)]))
    refine Go.st (fun _ k' => XS.lloadN X172.here hx rfl (hb hby at_170) rfl k') ?_
    show Go p e below s _ _ _ (T172.setTop (mkF m 171 #[.val (.long ya), .second, .val (.long yb), .second, .val (.long yc), .second, .val (.long yd), .second, .val (.int kk), .val (.int (3 : Int32)), .val (.ref b130), .val (.ref rr_154), .val (.ref rr_172)] [(.long ya), (.long ya)]))
    refine Go.st (fun _ k' => XT.lcmp X172.here hx rfl (hb hby at_171) rfl k') ?_
    show Go p e below s _ _ _ (T172.setTop (mkF m 172 #[.val (.long ya), .second, .val (.long yb), .second, .val (.long yc), .second, .val (.long yd), .second, .val (.int kk), .val (.int (3 : Int32)), .val (.ref b130), .val (.ref rr_154), .val (.ref rr_172)] [(.int (XT.cmpL ya ya))]))
    refine Go.st (fun _ k' => XS.ifYes X172.here hx rfl (pc0 := 172) (pc' := 177) rfl (hb hby at_172) rfl (XT.ll_eq_t rfl) (by decide) (by decide) k') ?_
    show Go p e below s _ _ _ (T172.setTop (mkF m 177 #[.val (.long ya), .second, .val (.long yb), .second, .val (.long yc), .second, .val (.long yd), .second, .val (.int kk), .val (.int (3 : Int32)), .val (.ref b130), .val (.ref rr_154), .val (.ref rr_172)] []))
    refine Go.st (fun _ k' => XS.iload X172.here hx rfl (hb hby at_177) rfl k') ?_
    show Go p e below s _ _ _ (T172.setTop (mkF m 179 #[.val (.long ya), .second, .val (.long yb), .second, .val (.long yc), .second, .val (.long yd), .second, .val (.int kk), .val (.int (3 : Int32)), .val (.ref b130), .val (.ref rr_154), .val (.ref rr_172)] [(.int (3 : Int32))]))
    refine Go.st (fun _ k' => XS.iconst X172.here hx rfl (hb hby at_179) k') ?_
    show Go p e below s _ _ _ (T172.setTop (mkF m 180 #[.val (.long ya), .second, .val (.long yb), .second, .val (.long yc), .second, .val (.long yd), .second, .val (.int kk), .val (.int (3 : Int32)), .val (.ref b130), .val (.ref rr_154), .val (.ref rr_172)] [(.int (2 : Int32)), (.int (3 : Int32))]))
    refine Go.st (fun _ k' => XS.icmpNo X172.here hx rfl (hb hby at_180) rfl (XT.ii_lt_f (by decide)) k') ?_
    show Go p e below s _ _ _ (T172.setTop (mkF m 183 #[.val (.long ya), .second, .val (.long yb), .second, .val (.long yc), .second, .val (.long yd), .second, .val (.int kk), .val (.int (3 : Int32)), .val (.ref b130), .val (.ref rr_154), .val (.ref rr_172)] []))
    refine Go.st (fun _ k' => XS.aload X172.here hx rfl (hb hby at_183) rfl rfl k') ?_
    show Go p e below s _ _ _ (T172.setTop (mkF m 185 #[.val (.long ya), .second, .val (.long yb), .second, .val (.long yc), .second, .val (.long yd), .second, .val (.int kk), .val (.int (3 : Int32)), .val (.ref b130), .val (.ref rr_154), .val (.ref rr_172)] [(.ref rr_172)]))
    refine Go.st (fun _ k' => XS.iconst X172.here hx rfl (hb hby at_185) k') ?_
    show Go p e below s _ _ _ (T172.setTop (mkF m 186 #[.val (.long ya), .second, .val (.long yb), .second, .val (.long yc), .second, .val (.long yd), .second, .val (.int kk), .val (.int (3 : Int32)), .val (.ref b130), .val (.ref rr_154), .val (.ref rr_172)] [(.int (1 : Int32)), (.ref rr_172)]))
    obtain ⟨cl185, Ar185, qc185, Sz185, Nn185, Ha185, Gf185⟩ := id f173
    refine Go.st (fun _ k' => X172.laload hx (j := (1 : Int32)) (v := (.long yb)) Ar185.1 (State.isArrayOf_alike hZ.alike Ar185.2.1) Ar185.2.2 (inb_of Sz185 ⟨by decide, by decide⟩) (Ha185.at (inb_of Sz185 ⟨by decide, by decide⟩) rfl) (g := (mkF m 186 #[.val (.long ya), .second, .val (.long yb), .second, .val (.long yc), .second, .val (.long yd), .second, .val (.int kk), .val (.int (3 : Int32)), .val (.ref b130), .val (.ref rr_154), .val (.ref rr_172)] [(.int (1 : Int32)), (.ref rr_172)])) rfl rfl (hb hby at_186) _ k') ?_
    show Go p e below s _ _ _ (T172.setTop (mkF m 187 #[.val (.long ya), .second, .val (.long yb), .second, .val (.long yc), .second, .val (.long yd), .second, .val (.int kk), .val (.int (3 : Int32)), .val (.ref b130), .val (.ref rr_154), .val (.ref rr_172)] [(.long yb)]))
    refine Go.st (fun _ k' => XS.lloadN X172.here hx rfl (hb hby at_187) rfl k') ?_
    show Go p e below s _ _ _ (T172.setTop (mkF m 188 #[.val (.long ya), .second, .val (.long yb), .second, .val (.long yc), .second, .val (.long yd), .second, .val (.int kk), .val (.int (3 : Int32)), .val (.ref b130), .val (.ref rr_154), .val (.ref rr_172)] [(.long yb), (.long yb)]))
    refine Go.st (fun _ k' => XT.lcmp X172.here hx rfl (hb hby at_188) rfl k') ?_
    show Go p e below s _ _ _ (T172.setTop (mkF m 189 #[.val (.long ya), .second, .val (.long yb), .second, .val (.long yc), .second, .val (.long yd), .second, .val (.int kk), .val (.int (3 : Int32)), .val (.ref b130), .val (.ref rr_154), .val (.ref rr_172)] [(.int (XT.cmpL yb yb))]))
    refine Go.st (fun _ k' => XS.ifYes X172.here hx rfl (pc0 := 189) (pc' := 194) rfl (hb hby at_189) rfl (XT.ll_eq_t rfl) (by decide) (by decide) k') ?_
    show Go p e below s _ _ _ (T172.setTop (mkF m 194 #[.val (.long ya), .second, .val (.long yb), .second, .val (.long yc), .second, .val (.long yd), .second, .val (.int kk), .val (.int (3 : Int32)), .val (.ref b130), .val (.ref rr_154), .val (.ref rr_172)] []))
    refine Go.st (fun _ k' => XS.iload X172.here hx rfl (hb hby at_194) rfl k') ?_
    show Go p e below s _ _ _ (T172.setTop (mkF m 196 #[.val (.long ya), .second, .val (.long yb), .second, .val (.long yc), .second, .val (.long yd), .second, .val (.int kk), .val (.int (3 : Int32)), .val (.ref b130), .val (.ref rr_154), .val (.ref rr_172)] [(.int (3 : Int32))]))
    refine Go.st (fun _ k' => XS.iconst X172.here hx rfl (hb hby at_196) k') ?_
    show Go p e below s _ _ _ (T172.setTop (mkF m 197 #[.val (.long ya), .second, .val (.long yb), .second, .val (.long yc), .second, .val (.long yd), .second, .val (.int kk), .val (.int (3 : Int32)), .val (.ref b130), .val (.ref rr_154), .val (.ref rr_172)] [(.int (3 : Int32)), (.int (3 : Int32))]))
    refine Go.st (fun _ k' => XS.icmpNo X172.here hx rfl (hb hby at_197) rfl (XT.ii_lt_f (by decide)) k') ?_
    show Go p e below s _ _ _ (T172.setTop (mkF m 200 #[.val (.long ya), .second, .val (.long yb), .second, .val (.long yc), .second, .val (.long yd), .second, .val (.int kk), .val (.int (3 : Int32)), .val (.ref b130), .val (.ref rr_154), .val (.ref rr_172)] []))
    refine Go.st (fun _ k' => XS.aload X172.here hx rfl (hb hby at_200) rfl rfl k') ?_
    show Go p e below s _ _ _ (T172.setTop (mkF m 202 #[.val (.long ya), .second, .val (.long yb), .second, .val (.long yc), .second, .val (.long yd), .second, .val (.int kk), .val (.int (3 : Int32)), .val (.ref b130), .val (.ref rr_154), .val (.ref rr_172)] [(.ref rr_172)]))
    refine Go.st (fun _ k' => XS.iconst X172.here hx rfl (hb hby at_202) k') ?_
    show Go p e below s _ _ _ (T172.setTop (mkF m 203 #[.val (.long ya), .second, .val (.long yb), .second, .val (.long yc), .second, .val (.long yd), .second, .val (.int kk), .val (.int (3 : Int32)), .val (.ref b130), .val (.ref rr_154), .val (.ref rr_172)] [(.int (2 : Int32)), (.ref rr_172)]))
    obtain ⟨cl186, Ar186, qc186, Sz186, Nn186, Ha186, Gf186⟩ := id f173
    refine Go.st (fun _ k' => X172.laload hx (j := (2 : Int32)) (v := (.long yc)) Ar186.1 (State.isArrayOf_alike hZ.alike Ar186.2.1) Ar186.2.2 (inb_of Sz186 ⟨by decide, by decide⟩) (Ha186.at (inb_of Sz186 ⟨by decide, by decide⟩) rfl) (g := (mkF m 203 #[.val (.long ya), .second, .val (.long yb), .second, .val (.long yc), .second, .val (.long yd), .second, .val (.int kk), .val (.int (3 : Int32)), .val (.ref b130), .val (.ref rr_154), .val (.ref rr_172)] [(.int (2 : Int32)), (.ref rr_172)])) rfl rfl (hb hby at_203) _ k') ?_
    show Go p e below s _ _ _ (T172.setTop (mkF m 204 #[.val (.long ya), .second, .val (.long yb), .second, .val (.long yc), .second, .val (.long yd), .second, .val (.int kk), .val (.int (3 : Int32)), .val (.ref b130), .val (.ref rr_154), .val (.ref rr_172)] [(.long yc)]))
    refine Go.st (fun _ k' => XS.lload X172.here hx rfl (hb hby at_204) rfl k') ?_
    show Go p e below s _ _ _ (T172.setTop (mkF m 206 #[.val (.long ya), .second, .val (.long yb), .second, .val (.long yc), .second, .val (.long yd), .second, .val (.int kk), .val (.int (3 : Int32)), .val (.ref b130), .val (.ref rr_154), .val (.ref rr_172)] [(.long yc), (.long yc)]))
    refine Go.st (fun _ k' => XT.lcmp X172.here hx rfl (hb hby at_206) rfl k') ?_
    show Go p e below s _ _ _ (T172.setTop (mkF m 207 #[.val (.long ya), .second, .val (.long yb), .second, .val (.long yc), .second, .val (.long yd), .second, .val (.int kk), .val (.int (3 : Int32)), .val (.ref b130), .val (.ref rr_154), .val (.ref rr_172)] [(.int (XT.cmpL yc yc))]))
    refine Go.st (fun _ k' => XS.ifYes X172.here hx rfl (pc0 := 207) (pc' := 212) rfl (hb hby at_207) rfl (XT.ll_eq_t rfl) (by decide) (by decide) k') ?_
    show Go p e below s _ _ _ (T172.setTop (mkF m 212 #[.val (.long ya), .second, .val (.long yb), .second, .val (.long yc), .second, .val (.long yd), .second, .val (.int kk), .val (.int (3 : Int32)), .val (.ref b130), .val (.ref rr_154), .val (.ref rr_172)] []))
    refine Go.st (fun _ k' => XS.iconst X172.here hx rfl (hb hby at_212) k') ?_
    show Go p e below s _ _ _ (T172.setTop (mkF m 213 #[.val (.long ya), .second, .val (.long yb), .second, .val (.long yc), .second, .val (.long yd), .second, .val (.int kk), .val (.int (3 : Int32)), .val (.ref b130), .val (.ref rr_154), .val (.ref rr_172)] [(.int (1 : Int32))]))
    refine Go.retB X172 hx hlk (t := .boolean) Bd.returns (by simp) (hb hby at_213) (by decide) (by decide) rfl ?_
    exact ⟨rfl, N172, trivial⟩
set_option maxRecDepth 65536 in
set_option maxHeartbeats 40000000 in
theorem comes_1 {Post : Tables → Env → Array Value → State → Outcome → State → Prop} (hpost : ∀ tb e args s v u, (limb_1_1.after args s (.returned v) u = true ∧ limb_1_2.after args s (.returned v) u = true ∧ True) → FrameEnd s (.returned v) u (Jvm.fieldLocs frame_1_writes args s ++ Jvm.arrayLocs frame_1_arrays args s ++ Jvm.staticLocs frame_1_statics s) 16 640 → Post tb e args s (.returned v) u) :
    ArmFor flags0 classFile x code maxLocals ret World_1 tables_1 room_1 Calls_1 rest_1 Pre_1 Post := by
  intro l hfl _ _ p e ha hc hk s m args below hf hA hF happ hP
  obtain ⟨hcalls, hrest, hpre⟩ := hP
  obtain ⟨-, -, -, hnamed, -, -, -, hat⟩ := (Spec.applies_iff hf).mp happ
  obtain ⟨hg, hn⟩ := and_e (Cond.before_iff.mp (show (Jvm.Cond.and given_1 narrow_1).before args s = true from hpre))
  obtain ⟨hcnt, hg0⟩ := and_e hg
  obtain ⟨ha0, hg1⟩ := and_e hg0
  obtain ⟨ha1, hg2⟩ := and_e hg1
  obtain ⟨ha2, hg3⟩ := and_e hg2
  obtain ⟨ha3, hg4⟩ := and_e hg3
  have ha4 := hg4
  obtain ⟨w0, w1, w2, w3, w4, rfl⟩ : ∃ w0 w1 w2 w3 w4 : Value, args = #[w0, w1, w2, w3, w4] := by
    have hs : args.size = 5 := by simpa [Cond.value, given_1] using hcnt
    obtain ⟨L⟩ := args
    match L, hs with
    | [w0, w1, w2, w3, w4], _ => exact ⟨w0, w1, w2, w3, w4, rfl⟩
  have hw := fun d (hd : d ∈ tables_1) => atoms_spec (ws := Jvm.Cond.code x code maxLocals ret :: tables_1) hat d (List.mem_cons_of_mem _ hd)
  have hfit : Fit s := fun {y c} hc i hi => by
    obtain ⟨ha, rfl⟩ := Array.getElem?_eq_some_iff.mp hc
    have q := List.all_eq_true.mp ((Array.all_eq_true_iff_forall_mem.mp hF) _ (Array.getElem_mem ha)) i (List.mem_range.mpr hi)
    simpa [Array.getElem?_eq_getElem hi] using q
  obtain ⟨i0, ei0⟩ := isL_v ha0
  obtain rfl : w0 = (.long i0) := Option.some.inj ei0
  obtain ⟨i1, ei1⟩ := isL_v ha1
  obtain rfl : w1 = (.long i1) := Option.some.inj ei1
  obtain ⟨i2, ei2⟩ := isL_v ha2
  obtain rfl : w2 = (.long i2) := Option.some.inj ei2
  obtain ⟨i3, ei3⟩ := isL_v ha3
  obtain rfl : w3 = (.long i3) := Option.some.inj ei3
  obtain ⟨i4, ei4⟩ := is_v ha4
  obtain rfl : w4 = (.int i4) := Option.some.inj ei4
  obtain ⟨n, o, h1, h2, h3, _, L, rfl, ⟨rfl, N, -⟩, hq⟩ := rm0 l s _ hw tables_1 i0 i1 i2 i3 i4 s.heap s.heap.size (Old.start s)  p e ha hc hk s m _ below hf ((Spec.applies_iff_loose hf).mp happ).1 ⟨rfl, State.Warmed39.refl s, rfl⟩ trivial
  refine ⟨n, _, h1, h2, h3, hpost _ _ _ _ _ _ ⟨Cond.after_iff.mpr rfl, Cond.after_iff.mpr (eq_i res_at (Term.int_eval (1)) rfl), trivial⟩ ⟨hq.1, hq.2.1, (hq.2.2.sift fun y hy => Or.inr (N y hy)).mono (by decide) (by decide)⟩⟩
theorem main_1_1 : Claimed_1_1 := comes_1 fun _ _ _ _ _ _ h hF => ⟨h.1, hF⟩
theorem main_1_2 : Claimed_1_2 := comes_1 fun _ _ _ _ _ _ h hF => ⟨h.2.1, hF⟩
end Jvm.Pilot.@@N@@
namespace Jvm.Pilot.@@N@@
open Jvm Jvm.ClassFile Sem Op Lib Jvm.Free Jvm.Stand Jvm.Pilot.@@N@@.Jvm.D
/-! MADE BY PROGRAM (witnessworld.py) out of the Statement's table words and the real class files: 14 classes; the members and pool entries that the words name. The judged class is class 1, her method 1. -/
namespace start1
open Jvm.ClassFile
def u (s : String) : CpInfo := .utf8 (stringToUtf16 s)
/-- a pool by its gaps: so many unusable entries, then the entry; so many at the end -/
def gap : Nat → List CpInfo → List CpInfo
  | 0, r => r
  | n + 1, r => .unusable :: gap n r
def poolList (es : List (Nat × CpInfo)) (last : Nat) : List CpInfo := es.foldr (fun e r => gap e.1 (e.2 :: r)) (gap last [])
def pool (es : List (Nat × CpInfo)) (last : Nat) : Array CpInfo := ⟨poolList es last⟩
def fileOf (pool : Array CpInfo) (this : Nat) (attrs : Array Attribute := #[]) (ms : Array MethodInfo := #[]) (fl : Nat := 33) (sup : Nat := 0) (ifs : Array Nat := #[]) (fds : Array FieldInfo := #[]) : ClassFile where
  minorVersion := 0
  majorVersion := 65
  constantPool := pool
  accessFlags := fl
  thisClass := this
  superClass := sup
  interfaces := ifs
  fields := fds
  methods := ms
  attributes := attrs
def plain (name : String) (sup : Option ClassId) : Class where
  name := name
  kind := .ordinary
  loader := none
  accessFlags := 33
  super := sup
  interfaces := #[]
  cf := none
  fields := #[]
  methods := #[]
  instanceTypes := #[]
  staticTypes := #[]
  resolved := #[]
  callSites := []
  init := .initialized
  statics := none
  mirror := none

def pool0 : Array CpInfo := pool [(5, u "<init>"), (0, u "()V"), (1, .class_ 10), (1, u "java/lang/Object")] 113

def k0c0 : Code := { maxStack := 0, maxLocals := 1, code := object_method_1_code, exceptionTable := #[], attributes := #[] }
def k0m0 : Method := { name := "<init>", desc := "()V", sig := { parameters := [], returnType := none }, accessFlags := 1, code := some k0c0 }
/-- java/lang/Object -/
def k0 : Class := { plain "java/lang/Object" none with
  accessFlags := 33
  interfaces := #[]
  cf := some (fileOf pool0 8 #[] #[{ accessFlags := 1, nameIndex := 5, descriptorIndex := 6, attributes := #[] }] 33 0 #[] #[])
  fields := #[]
  methods := #[k0m0]
  instanceTypes := #[]
  staticTypes := #[]
  resolved := Array.replicate 124 none
  statics := none }

def pool1 : Array CpInfo := pool [(2, .class_ 4), (0, .nameAndType 5 6), (0, u "java/lang/Object"), (0, u "<init>"), (0, u "()V"), (0, .class_ 8), (0, u "com/example/spillway/spillway/runtime/Latencies"), (0, .methodref 7 3), (0, .methodref 7 11), (0, .nameAndType 12 13), (0, u "add"), (0, u "(J)V"), (0, .methodref 7 15), (0, .nameAndType 16 17), (0, u "toArray"), (0, u "()[J"), (0, .class_ 19), (0, u "com/example/spillway/spillway/runtime/LatenciesAddPinLaw"), (2, u "law"), (0, u "(JJJJI)Z")] 5

def k1m0 : Method := { name := "<init>", desc := "()V", sig := { parameters := [], returnType := none }, accessFlags := 1, code := none }
def k1c1 : Code := { maxStack := 4, maxLocals := 13, code := code, exceptionTable := #[], attributes := #[] }
def k1m1 : Method := { name := "law", desc := "(JJJJI)Z", sig := { parameters := [.long, .long, .long, .long, .int], returnType := some .boolean }, accessFlags := 9, code := some k1c1 }
/-- com/example/spillway/spillway/runtime/LatenciesAddPinLaw -/
def k1 : Class := { plain "com/example/spillway/spillway/runtime/LatenciesAddPinLaw" (some 0) with
  accessFlags := 49
  interfaces := #[]
  cf := some (fileOf pool1 18 #[] #[{ accessFlags := 1, nameIndex := 5, descriptorIndex := 6, attributes := #[] }, { accessFlags := 9, nameIndex := 22, descriptorIndex := 23, attributes := #[] }] 49 2 #[] #[])
  fields := #[]
  methods := #[k1m0, k1m1]
  instanceTypes := #[]
  staticTypes := #[]
  resolved := Array.replicate 29 none
  statics := none }

def pool2 : Array CpInfo := pool [(1, .methodref 2 3), (0, .class_ 4), (0, .nameAndType 5 6), (0, u "java/lang/Object"), (0, u "<init>"), (0, u "()V"), (0, .fieldref 8 9), (0, .class_ 10), (0, .nameAndType 11 12), (0, u "com/example/spillway/spillway/runtime/Latencies"), (0, u "nanos"), (0, u "[J"), (0, .fieldref 8 14), (0, .nameAndType 15 16), (0, u "count"), (0, u "I"), (0, .methodref 18 19), (0, .class_ 20), (0, .nameAndType 21 22), (0, u "java/util/Arrays"), (0, u "copyOf"), (0, u "([JI)[J"), (2, u "add"), (0, u "(J)V"), (1, u "toArray"), (0, u "()[J")] 2

def k2c0 : Code := { maxStack := 2, maxLocals := 1, code := prog_18_method_1_code, exceptionTable := #[], attributes := #[] }
def k2m0 : Method := { name := "<init>", desc := "()V", sig := { parameters := [], returnType := none }, accessFlags := 0, code := some k2c0 }
def k2c1 : Code := { maxStack := 4, maxLocals := 3, code := prog_18_method_2_code, exceptionTable := #[], attributes := #[] }
def k2m1 : Method := { name := "add", desc := "(J)V", sig := { parameters := [.long], returnType := none }, accessFlags := 0, code := some k2c1 }
def k2c2 : Code := { maxStack := 2, maxLocals := 1, code := prog_18_method_3_code, exceptionTable := #[], attributes := #[] }
def k2m2 : Method := { name := "toArray", desc := "()[J", sig := { parameters := [], returnType := some (.array .long) }, accessFlags := 0, code := some k2c2 }
/-- com/example/spillway/spillway/runtime/Latencies -/
def k2 : Class := { plain "com/example/spillway/spillway/runtime/Latencies" (some 0) with
  accessFlags := 32
  interfaces := #[]
  cf := some (fileOf pool2 8 #[] #[{ accessFlags := 0, nameIndex := 5, descriptorIndex := 6, attributes := #[] }, { accessFlags := 0, nameIndex := 25, descriptorIndex := 26, attributes := #[] }, { accessFlags := 0, nameIndex := 28, descriptorIndex := 29, attributes := #[] }] 32 2 #[] #[{ accessFlags := 2, nameIndex := 11, descriptorIndex := 12, attributes := #[] }, { accessFlags := 2, nameIndex := 15, descriptorIndex := 16, attributes := #[] }])
  fields := #[{ name := "nanos", type := (.array .long), accessFlags := 2, slot := 0, constantValue := 0 }, { name := "count", type := .int, accessFlags := 2, slot := 1, constantValue := 0 }]
  methods := #[k2m0, k2m1, k2m2]
  instanceTypes := #[(.array .long), .int]
  staticTypes := #[]
  resolved := Array.replicate 32 none
  statics := none }

def pool3 : Array CpInfo := pool [(2, .class_ 4), (1, u "java/lang/Object"), (0, u "<init>"), (0, u "()V"), (7, .class_ 16), (1, u "java/util/Arrays"), (57, .class_ 76), (1, u "java/util/Arrays$NaturalOrder"), (36, .class_ 115), (1, u "java/util/Arrays$LegacyMergeSort"), (1, u "Z"), (32, .methodref 151 152), (0, .class_ 153), (0, .nameAndType 154 155), (0, u "java/lang/System"), (0, u "arraycopy"), (0, u "(Ljava/lang/Object;ILjava/lang/Object;II)V"), (146, u "copyOf"), (1, .methodref 305 306), (0, .class_ 307), (0, .nameAndType 308 309), (0, u "java/lang/Math"), (0, u "min"), (0, u "(II)I"), (65, .class_ 376), (0, u "java/util/Arrays$ArrayList"), (68, u "$assertionsDisabled"), (269, u "MIN_ARRAY_SORT_GRAN"), (0, u "I"), (2, u "INSERTIONSORT_THRESHOLD"), (152, u "([JI)[J"), (102, .class_ 976), (0, u "java/util/Arrays$ArrayItr")] 52

def k3m0 : Method := { name := "<init>", desc := "()V", sig := { parameters := [], returnType := none }, accessFlags := 2, code := none }
def k3c1 : Code := { maxStack := 6, maxLocals := 3, code := jdk_65_method_124_code, exceptionTable := #[], attributes := #[] }
def k3m1 : Method := { name := "copyOf", desc := "([JI)[J", sig := { parameters := [(.array .long), .int], returnType := some (.array .long) }, accessFlags := 9, code := some k3c1 }
/-- java/util/Arrays -/
def k3 : Class := { plain "java/util/Arrays" (some 0) with
  accessFlags := 49
  interfaces := #[]
  cf := some (fileOf pool3 14 #[.nestMembers #[975, 375, 113, 74]] #[{ accessFlags := 2, nameIndex := 5, descriptorIndex := 6, attributes := #[] }, { accessFlags := 9, nameIndex := 302, descriptorIndex := 872, attributes := #[] }] 49 2 #[] #[{ accessFlags := 26, nameIndex := 715, descriptorIndex := 716, attributes := #[] }, { accessFlags := 26, nameIndex := 719, descriptorIndex := 716, attributes := #[] }, { accessFlags := 4120, nameIndex := 445, descriptorIndex := 117, attributes := #[] }])
  fields := #[{ name := "MIN_ARRAY_SORT_GRAN", type := .int, accessFlags := 26, slot := 0, constantValue := 0 }, { name := "INSERTIONSORT_THRESHOLD", type := .int, accessFlags := 26, slot := 1, constantValue := 0 }, { name := "$assertionsDisabled", type := .boolean, accessFlags := 4120, slot := 2, constantValue := 0 }]
  methods := #[k3m0, k3m1]
  instanceTypes := #[]
  staticTypes := #[.int, .int, .boolean]
  resolved := Array.replicate 1029 none
  statics := none }

def pool4 : Array CpInfo := pool [(1, .class_ 2), (0, u "java/lang/Math"), (1, .class_ 6), (1, u "java/lang/Object"), (0, u "<init>"), (0, u "()V"), (89, .class_ 100), (1, u "java/lang/Math$RandomNumberGeneratorHolder"), (71, u "negativeZeroFloatBits"), (0, u "J"), (2, u "negativeZeroDoubleBits"), (24, u "min"), (43, u "$assertionsDisabled"), (0, u "Z"), (88, u "(II)I"), (2, u "twoToTheDoubleScaleDown"), (0, u "D"), (4, u "twoToTheDoubleScaleUp"), (9, u "E"), (3, u "PI"), (2, u "TAU"), (2, u "DEGREES_TO_RADIANS"), (0, u "RADIANS_TO_DEGREES")] 94

def k4m0 : Method := { name := "<init>", desc := "()V", sig := { parameters := [], returnType := none }, accessFlags := 2, code := none }
def k4c1 : Code := { maxStack := 2, maxLocals := 2, code := jdk_29_method_69_code, exceptionTable := #[], attributes := #[] }
def k4m1 : Method := { name := "min", desc := "(II)I", sig := { parameters := [.int, .int], returnType := some .int }, accessFlags := 9, code := some k4c1 }
/-- java/lang/Math -/
def k4 : Class := { plain "java/lang/Math" (some 0) with
  accessFlags := 49
  interfaces := #[]
  cf := some (fileOf pool4 1 #[.nestMembers #[98]] #[{ accessFlags := 2, nameIndex := 7, descriptorIndex := 8, attributes := #[] }, { accessFlags := 9, nameIndex := 201, descriptorIndex := 335, attributes := #[] }] 49 4 #[] #[{ accessFlags := 25, nameIndex := 354, descriptorIndex := 339, attributes := #[] }, { accessFlags := 25, nameIndex := 358, descriptorIndex := 339, attributes := #[] }, { accessFlags := 25, nameIndex := 361, descriptorIndex := 339, attributes := #[] }, { accessFlags := 26, nameIndex := 364, descriptorIndex := 339, attributes := #[] }, { accessFlags := 26, nameIndex := 365, descriptorIndex := 339, attributes := #[] }, { accessFlags := 26, nameIndex := 172, descriptorIndex := 173, attributes := #[] }, { accessFlags := 26, nameIndex := 176, descriptorIndex := 173, attributes := #[] }, { accessFlags := 8, nameIndex := 344, descriptorIndex := 339, attributes := #[] }, { accessFlags := 8, nameIndex := 338, descriptorIndex := 339, attributes := #[] }, { accessFlags := 4120, nameIndex := 245, descriptorIndex := 246, attributes := #[] }])
  fields := #[{ name := "E", type := .double, accessFlags := 25, slot := 0, constantValue := 0 }, { name := "PI", type := .double, accessFlags := 25, slot := 1, constantValue := 0 }, { name := "TAU", type := .double, accessFlags := 25, slot := 2, constantValue := 0 }, { name := "DEGREES_TO_RADIANS", type := .double, accessFlags := 26, slot := 3, constantValue := 0 }, { name := "RADIANS_TO_DEGREES", type := .double, accessFlags := 26, slot := 4, constantValue := 0 }, { name := "negativeZeroFloatBits", type := .long, accessFlags := 26, slot := 5, constantValue := 0 }, { name := "negativeZeroDoubleBits", type := .long, accessFlags := 26, slot := 6, constantValue := 0 }, { name := "twoToTheDoubleScaleUp", type := .double, accessFlags := 8, slot := 7, constantValue := 0 }, { name := "twoToTheDoubleScaleDown", type := .double, accessFlags := 8, slot := 8, constantValue := 0 }, { name := "$assertionsDisabled", type := .boolean, accessFlags := 4120, slot := 9, constantValue := 0 }]
  methods := #[k4m0, k4m1]
  instanceTypes := #[]
  staticTypes := #[.double, .double, .double, .double, .double, .long, .long, .double, .double, .boolean]
  resolved := Array.replicate 460 none
  statics := none }

def pool5 : Array CpInfo := pool [(2, .class_ 4), (1, u "java/lang/Object"), (0, u "<init>"), (0, u "()V"), (1, .class_ 10), (1, u "java/lang/System"), (0, u "allowSecurityManager"), (0, u "I"), (16, u "cons"), (0, u "Ljava/io/Console;"), (77, .class_ 110), (1, u "java/lang/System$CallersHolder"), (43, u "initialErrStream"), (0, u "Ljava/io/PrintStream;"), (19, u "security"), (0, u "Ljava/lang/SecurityManager;"), (31, .class_ 209), (0, u "java/lang/System$1"), (7, u "props"), (0, u "Ljava/util/Properties;"), (2, u "lineSeparator"), (0, u "Ljava/lang/String;"), (96, .class_ 321), (1, u "java/lang/System$LoggerFinder"), (5, .class_ 328), (0, u "java/lang/System$Logger"), (67, u "err"), (2, u "out"), (91, u "notSupportedJnuEncoding"), (15, u "in"), (17, u "initialIn"), (0, u "Ljava/io/InputStream;"), (35, u "bootLayer"), (0, u "Ljava/lang/ModuleLayer;"), (99, .class_ 664), (0, u "java/lang/System$2"), (9, u "NEVER"), (2, u "MAYBE"), (49, u "arraycopy"), (0, u "(Ljava/lang/Object;ILjava/lang/Object;II)V"), (72, .class_ 802), (0, u "java/lang/System$Logger$Level")] 31

def k5m0 : Method := { name := "<init>", desc := "()V", sig := { parameters := [], returnType := none }, accessFlags := 2, code := none }
def k5m1 : Method := { name := "arraycopy", desc := "(Ljava/lang/Object;ILjava/lang/Object;II)V", sig := { parameters := [(.object "java/lang/Object"), .int, (.object "java/lang/Object"), .int, .int], returnType := none }, accessFlags := 265, code := none }
/-- java/lang/System -/
def k5 : Class := { plain "java/lang/System" (some 0) with
  accessFlags := 49
  interfaces := #[]
  cf := some (fileOf pool5 8 #[.nestMembers #[319, 327, 801, 108, 663, 208]] #[{ accessFlags := 2, nameIndex := 5, descriptorIndex := 6, attributes := #[] }, { accessFlags := 265, nameIndex := 727, descriptorIndex := 728, attributes := #[] }] 49 2 #[] #[{ accessFlags := 25, nameIndex := 507, descriptorIndex := 526, attributes := #[] }, { accessFlags := 25, nameIndex := 399, descriptorIndex := 155, attributes := #[] }, { accessFlags := 25, nameIndex := 396, descriptorIndex := 155, attributes := #[] }, { accessFlags := 10, nameIndex := 525, descriptorIndex := 526, attributes := #[] }, { accessFlags := 26, nameIndex := 674, descriptorIndex := 12, attributes := #[] }, { accessFlags := 26, nameIndex := 677, descriptorIndex := 12, attributes := #[] }, { accessFlags := 10, nameIndex := 11, descriptorIndex := 12, attributes := #[] }, { accessFlags := 74, nameIndex := 175, descriptorIndex := 176, attributes := #[] }, { accessFlags := 10, nameIndex := 491, descriptorIndex := 222, attributes := #[] }, { accessFlags := 74, nameIndex := 29, descriptorIndex := 30, attributes := #[] }, { accessFlags := 74, nameIndex := 154, descriptorIndex := 155, attributes := #[] }, { accessFlags := 10, nameIndex := 217, descriptorIndex := 218, attributes := #[] }, { accessFlags := 10, nameIndex := 221, descriptorIndex := 222, attributes := #[] }, { accessFlags := 8, nameIndex := 562, descriptorIndex := 563, attributes := #[] }])
  fields := #[{ name := "in", type := (.object "java/io/InputStream"), accessFlags := 25, slot := 0, constantValue := 0 }, { name := "out", type := (.object "java/io/PrintStream"), accessFlags := 25, slot := 1, constantValue := 0 }, { name := "err", type := (.object "java/io/PrintStream"), accessFlags := 25, slot := 2, constantValue := 0 }, { name := "initialIn", type := (.object "java/io/InputStream"), accessFlags := 10, slot := 3, constantValue := 0 }, { name := "NEVER", type := .int, accessFlags := 26, slot := 4, constantValue := 0 }, { name := "MAYBE", type := .int, accessFlags := 26, slot := 5, constantValue := 0 }, { name := "allowSecurityManager", type := .int, accessFlags := 10, slot := 6, constantValue := 0 }, { name := "security", type := (.object "java/lang/SecurityManager"), accessFlags := 74, slot := 7, constantValue := 0 }, { name := "notSupportedJnuEncoding", type := (.object "java/lang/String"), accessFlags := 10, slot := 8, constantValue := 0 }, { name := "cons", type := (.object "java/io/Console"), accessFlags := 74, slot := 9, constantValue := 0 }, { name := "initialErrStream", type := (.object "java/io/PrintStream"), accessFlags := 74, slot := 10, constantValue := 0 }, { name := "props", type := (.object "java/util/Properties"), accessFlags := 10, slot := 11, constantValue := 0 }, { name := "lineSeparator", type := (.object "java/lang/String"), accessFlags := 10, slot := 12, constantValue := 0 }, { name := "bootLayer", type := (.object "java/lang/ModuleLayer"), accessFlags := 8, slot := 13, constantValue := 0 }]
  methods := #[k5m0, k5m1]
  instanceTypes := #[]
  staticTypes := #[(.object "java/io/InputStream"), (.object "java/io/PrintStream"), (.object "java/io/PrintStream"), (.object "java/io/InputStream"), .int, .int, .int, (.object "java/lang/SecurityManager"), (.object "java/lang/String"), (.object "java/io/Console"), (.object "java/io/PrintStream"), (.object "java/util/Properties"), (.object "java/lang/String"), (.object "java/lang/ModuleLayer")]
  resolved := Array.replicate 834 none
  statics := none }

def pool6 : Array CpInfo := pool [(1, u "java/lang/Cloneable"), (0, .class_ 1), (0, u "java/lang/Object"), (0, .class_ 3)] 3

/-- java/lang/Cloneable -/
def k6 : Class := { plain "java/lang/Cloneable" (some 0) with
  accessFlags := 1537
  interfaces := #[]
  cf := some (fileOf pool6 2 #[] #[] 1537 4 #[] #[])
  fields := #[]
  methods := #[]
  instanceTypes := #[]
  staticTypes := #[]
  resolved := Array.replicate 8 none
  statics := none }

def pool7 : Array CpInfo := pool [(1, u "java/io/Serializable"), (0, .class_ 1), (0, u "java/lang/Object"), (0, .class_ 3)] 3

/-- java/io/Serializable -/
def k7 : Class := { plain "java/io/Serializable" (some 0) with
  accessFlags := 1537
  interfaces := #[]
  cf := some (fileOf pool7 2 #[] #[] 1537 4 #[] #[])
  fields := #[]
  methods := #[]
  instanceTypes := #[]
  staticTypes := #[]
  resolved := Array.replicate 8 none
  statics := none }

/-- the primitive byte -/
def k8 : Class := { plain "byte" none with kind := .primitive 'B', accessFlags := 0x411 }
/-- [B -/
def k9 : Class := { plain "[B" (some 0) with kind := .array 8 .byte, interfaces := #[6, 7], accessFlags := 1041 }

/-- the primitive int -/
def k10 : Class := { plain "int" none with kind := .primitive 'I', accessFlags := 0x411 }
/-- [I -/
def k11 : Class := { plain "[I" (some 0) with kind := .array 10 .int, interfaces := #[6, 7], accessFlags := 1041 }

/-- the primitive long -/
def k12 : Class := { plain "long" none with kind := .primitive 'J', accessFlags := 0x411 }
/-- [J -/
def k13 : Class := { plain "[J" (some 0) with kind := .array 12 .long, interfaces := #[6, 7], accessFlags := 1041 }

def heap : Heap := #[]
def classes : Array Class := #[k0, k1, k2, k3, k4, k5, k6, k7, k8, k9, k10, k11, k12, k13]
def interned : List (Array UInt16 × Addr) := []
def slotsUsed : Nat := 0
def theMethod : MethodId := ⟨1, 1⟩
def args0 : Array Value := #[.long 5, .long 5, .long 5, .long 5, .int 5]
def aboutOver (below : List Frame) : State where
  vm := { classes := classes, interned := interned.toArray }
  heap := heap
  slotsUsed := slotsUsed
  threads := #[{ frames := .invoking theMethod args0 :: below }]
def below0 : List Frame := [.native { method := ⟨0, 0⟩, args := #[] }]
def about1 : State := aboutOver below0
def p0 : Program := .bare "" "" ""
def e0 : Env := launch0.env 0 0 0
theorem w_frames : about1.frames = Frame.invoking theMethod args0 :: below0 := rfl
set_option maxRecDepth 65536 in
theorem w_args : argsFit about1.vm theMethod args0 = true := by decide +kernel
set_option maxRecDepth 65536 in
theorem w_heap : heapFits about1 = true := by decide +kernel
set_option maxRecDepth 65536 in
theorem w_runnable : about1.curStatus? = some .runnable := by decide +kernel
set_option maxRecDepth 65536 in
theorem w_alone : about1.alone = true := by decide +kernel
set_option maxRecDepth 65536 in
theorem w_named : about1.methodNamed? x = some theMethod := by decide +kernel
set_option maxRecDepth 65536 in
theorem w_hears : about1.hears theMethod below0 = true := by decide +kernel
set_option maxRecDepth 65536 in
theorem w_ripe : about1.ripe theMethod args0 below0 = true := by decide +kernel
theorem w_running : about1.status = .running := rfl
set_option maxRecDepth 65536 in
theorem w_room : about1.hasRoom e0.platform room_1 = true :=
  launch0.hasRoom_least _ room_1 (by decide +kernel) (by decide +kernel) (by decide +kernel) (by decide +kernel) (by decide +kernel) (by decide +kernel)
theorem allAtoms_all (ts : List Jvm.Cond) (a : Array Jvm.Value) (st : Jvm.State) : (allAtoms ts).before a st = ts.all (fun c => c.before a st) := by
  induction ts with
  | nil => rfl
  | cons c t ih =>
    show (Jvm.Cond.and c (allAtoms t)).before a st = _
    rw [Jvm.Cond.before_and, ih, List.all_cons]
def words1 : List Jvm.Cond := Jvm.Cond.code x code maxLocals ret :: tables_1
/-- a 'code' word, met by the world's own term for the bytes: nothing is compared byte by byte -/
theorem code_word {y : MethodName} {bytes : ByteArray} {mx : Nat} {rt : Option FieldType} {a : Array Value} {s : State} {m : MethodId} {meth : Method} {c : Code} (h1 : s.methodNamed? y = some m) (h2 : s.vm.method? m = some meth) (h3 : meth.code = some c) (h4 : c.code = bytes)
    (h5 : (c.maxLocals == mx && c.exceptionTable.isEmpty && decide (c.maxStack ≤ mostOperands) && decide (meth.sig.returnType = rt) && !meth.locks && decide (parseMethodDescriptor y.desc = some meth.sig)) = true) : (Jvm.Cond.code y bytes mx rt).before a s = true := by
  simp only [Bool.and_eq_true, beq_iff_eq, Bool.not_eq_true', decide_eq_true_eq] at h5
  obtain ⟨⟨⟨⟨⟨g1, g2⟩, g3⟩, g4⟩, g5⟩, g6⟩ := h5
  simp [Cond.before, Cond.holds, Cond.value, h1, h2, h3, h4, g1, g2, g3, g4, g5, g6]
def isCode : Jvm.Cond → Bool
  | .code _ _ _ _ => true
  | _ => false
theorem all_split {L : List Jvm.Cond} {P : Jvm.Cond → Bool} (h1 : L.all (fun c => isCode c || P c) = true) (h2 : ∀ c ∈ L.filter isCode, P c = true) : L.all P = true := by
  refine List.all_eq_true.mpr fun c hc => ?_
  have h := List.all_eq_true.mp h1 c hc
  rcases Bool.eq_false_or_eq_true (isCode c) with hi | hi
  · exact h2 c (List.mem_filter.mpr ⟨hc, hi⟩)
  · simpa [hi] using h
set_option maxRecDepth 65536 in
theorem w_c0 : (Jvm.Cond.code x code maxLocals ret).before args0 about1 = true := code_word (m := ⟨1, 1⟩) (meth := k1m1) (c := k1c1) (by decide +kernel) rfl rfl rfl (by decide +kernel)
set_option maxRecDepth 65536 in
theorem w_c1 : (Jvm.Cond.code ({ cls := "com/example/spillway/spillway/runtime/Latencies", name := "<init>", desc := "()V" } : Jvm.MethodName) prog_18_method_1_code (1 : Nat) (Option.none : Option Jvm.ClassFile.FieldType)).before args0 about1 = true := code_word (m := ⟨2, 0⟩) (meth := k2m0) (c := k2c0) (by decide +kernel) rfl rfl rfl (by decide +kernel)
set_option maxRecDepth 65536 in
theorem w_c2 : (Jvm.Cond.code ({ cls := "java/lang/Object", name := "<init>", desc := "()V" } : Jvm.MethodName) object_method_1_code (1 : Nat) (Option.none : Option Jvm.ClassFile.FieldType)).before args0 about1 = true := code_word (m := ⟨0, 0⟩) (meth := k0m0) (c := k0c0) (by decide +kernel) rfl rfl rfl (by decide +kernel)
set_option maxRecDepth 65536 in
theorem w_c3 : (Jvm.Cond.code ({ cls := "com/example/spillway/spillway/runtime/Latencies", name := "add", desc := "(J)V" } : Jvm.MethodName) prog_18_method_2_code (3 : Nat) (Option.none : Option Jvm.ClassFile.FieldType)).before args0 about1 = true := code_word (m := ⟨2, 1⟩) (meth := k2m1) (c := k2c1) (by decide +kernel) rfl rfl rfl (by decide +kernel)
set_option maxRecDepth 65536 in
theorem w_c4 : (Jvm.Cond.code ({ cls := "com/example/spillway/spillway/runtime/Latencies", name := "toArray", desc := "()[J" } : Jvm.MethodName) prog_18_method_3_code (1 : Nat) (Option.some (Jvm.ClassFile.FieldType.array Jvm.ClassFile.FieldType.long))).before args0 about1 = true := code_word (m := ⟨2, 2⟩) (meth := k2m2) (c := k2c2) (by decide +kernel) rfl rfl rfl (by decide +kernel)
set_option maxRecDepth 65536 in
theorem w_c5 : (Jvm.Cond.code ({ cls := "java/util/Arrays", name := "copyOf", desc := "([JI)[J" } : Jvm.MethodName) jdk_65_method_124_code (3 : Nat) (Option.some (Jvm.ClassFile.FieldType.array Jvm.ClassFile.FieldType.long))).before args0 about1 = true := code_word (m := ⟨3, 1⟩) (meth := k3m1) (c := k3c1) (by decide +kernel) rfl rfl rfl (by decide +kernel)
set_option maxRecDepth 65536 in
theorem w_c6 : (Jvm.Cond.code ({ cls := "java/lang/Math", name := "min", desc := "(II)I" } : Jvm.MethodName) jdk_29_method_69_code (2 : Nat) (Option.some Jvm.ClassFile.FieldType.int)).before args0 about1 = true := code_word (m := ⟨4, 1⟩) (meth := k4m1) (c := k4c1) (by decide +kernel) rfl rfl rfl (by decide +kernel)
def codes1 : List Jvm.Cond := [Jvm.Cond.code x code maxLocals ret, Jvm.Cond.code ({ cls := "com/example/spillway/spillway/runtime/Latencies", name := "<init>", desc := "()V" } : Jvm.MethodName) prog_18_method_1_code (1 : Nat) (Option.none : Option Jvm.ClassFile.FieldType), Jvm.Cond.code ({ cls := "java/lang/Object", name := "<init>", desc := "()V" } : Jvm.MethodName) object_method_1_code (1 : Nat) (Option.none : Option Jvm.ClassFile.FieldType), Jvm.Cond.code ({ cls := "com/example/spillway/spillway/runtime/Latencies", name := "add", desc := "(J)V" } : Jvm.MethodName) prog_18_method_2_code (3 : Nat) (Option.none : Option Jvm.ClassFile.FieldType), Jvm.Cond.code ({ cls := "com/example/spillway/spillway/runtime/Latencies", name := "toArray", desc := "()[J" } : Jvm.MethodName) prog_18_method_3_code (1 : Nat) (Option.some (Jvm.ClassFile.FieldType.array Jvm.ClassFile.FieldType.long)), Jvm.Cond.code ({ cls := "java/util/Arrays", name := "copyOf", desc := "([JI)[J" } : Jvm.MethodName) jdk_65_method_124_code (3 : Nat) (Option.some (Jvm.ClassFile.FieldType.array Jvm.ClassFile.FieldType.long)), Jvm.Cond.code ({ cls := "java/lang/Math", name := "min", desc := "(II)I" } : Jvm.MethodName) jdk_29_method_69_code (2 : Nat) (Option.some Jvm.ClassFile.FieldType.int)]
set_option maxRecDepth 65536 in
theorem codes_eq : words1.filter isCode = codes1 := rfl
theorem w_codes : ∀ c ∈ words1.filter isCode, c.before args0 about1 = true := by
  rw [codes_eq]
  intro c hc
  simp only [codes1, List.mem_cons, List.not_mem_nil, or_false] at hc
  rcases hc with rfl | rfl | rfl | rfl | rfl | rfl | rfl
  · exact w_c0
  · exact w_c1
  · exact w_c2
  · exact w_c3
  · exact w_c4
  · exact w_c5
  · exact w_c6
set_option maxRecDepth 65536 in
theorem w_t1 : (words1.take 24).all (fun c => isCode c || c.before args0 about1) = true := by decide +kernel
set_option maxRecDepth 65536 in
theorem w_t2 : (words1.drop 24).all (fun c => isCode c || c.before args0 about1) = true := by decide +kernel
theorem w_tables : (allAtoms (Jvm.Cond.code x code maxLocals ret :: tables_1)).before args0 about1 = true := by
  rw [allAtoms_all]
  show words1.all (fun c => c.before args0 about1) = true
  refine all_split ?_ w_codes
  rw [← List.take_append_drop 24 words1, List.all_append, w_t1, w_t2]
  rfl
set_option maxRecDepth 65536 in
theorem w_case : (Jvm.Cond.and given_1 narrow_1).before args0 about1 = true := by decide +kernel
theorem w_applies : (headSpec (Jvm.Cond.code x code maxLocals ret :: tables_1) room_1).applies x e0.platform about1 = true :=
  (Spec.applies_iff w_frames).mpr ⟨w_running, w_runnable, w_alone, w_named, w_hears, w_ripe, w_room, w_tables⟩
theorem atStart : AtStart classFile x code maxLocals ret World_1 tables_1 room_1 Calls_1 rest_1 Pre_1 launch0 p0 e0 about1 theMethod args0 below0 :=
  ⟨lists_1, trivial, launch0.admits_env _ _ _, launch0.least_env, fairChoices_fair.cas, fairChoices_fair.clock, w_frames, w_args, w_heap, w_applies, trivial, trivial, w_case⟩
end start1
theorem witness_1 : WitnessClaimed_1 := ⟨start1.p0, start1.e0, start1.about1, start1.theMethod, start1.args0, start1.below0, start1.atStart⟩
end Jvm.Pilot.@@N@@
