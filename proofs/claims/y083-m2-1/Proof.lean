import JvmDerived
import JvmDerived.Pilot.@@N@@Statement
import JvmDerived.Pilot.@@N@@Code
set_option linter.unusedVariables false
set_option linter.unusedSimpArgs false
namespace Jvm.Pilot.@@N@@
open Jvm Jvm.ClassFile Sem Op Lib Jvm.Free Jvm.Stand Jvm.LawKit Jvm.RoadKit Bundle Jvm.Pilot.@@N@@.Jvm.D
theorem wdx {a0 : Array Value} {Z : State} (hw : ∀ d ∈ tables_1, d.before a0 Z = true) (i : Nat) {d : Jvm.Cond} (h : tables_1[i]? = some d) : d.before a0 Z = true := hw d (List.mem_of_getElem? h)
/-! the walk in one predicate: from S the run comes to an end at which Q holds -/
def Go (p : Program) (e : Env) (below : List Frame) (s : State) (rc rs : Nat) (Q : Option Value → Heap → List Loc → Prop) (S : State) : Prop :=
  ∃ t o, Steps p.tables e below S t ∧ t.status = .running ∧ Ended t below o ∧ ∃ v L, o = .returned v ∧ Q v t.heap L ∧ FrameEnd s o t L rc rs
section Pre
variable {p : Program} {l : Launch} {e : Env} {R : Room} {s : State} {m : MethodId} {args : Array Value} {below : List Frame} {meth : Method} {c : Code} {T : State} {locs : List Loc} {cells slots rc rs : Nat} {Q : Option Value → Heap → List Loc → Prop} {S S' : State} {h : Heap} {Z : State} {n0 : Nat}
theorem Go.st (k : ∀ t, Steps p.tables e below S' t → Steps p.tables e below S t) (g : Go p e below s rc rs Q S') : Go p e below s rc rs Q S := by
  obtain ⟨t, o, h, r⟩ := g; exact ⟨t, o, k t h, r⟩
theorem Go.tr (k : Steps p.tables e below S S') (g : Go p e below s rc rs Q S') : Go p e below s rc rs Q S := by
  obtain ⟨t, o, h, r⟩ := g; exact ⟨t, o, k.trans h, r⟩
theorem Go.ret (X : Stand p l e R s m args below meth c T locs cells slots) (hx : p.tables.exec = Jvm.exec) (hlk : meth.locks = false) {pc : Nat} {Ls : Array Slot} {w : Value} {t : FieldType} {i : Instr} {rest : List Value} (hret : meth.sig.returnType = some t) (hn : narrow t w = w)
    (hi : (i = .ireturn ∧ (t = .int ∨ t = .boolean ∨ t = .byte ∨ t = .char ∨ t = .short) ∧ ∃ z, w = .int z) ∨ (i = .lreturn ∧ t = .long ∧ ∃ z, w = .long z) ∨ (i = .dreturn ∧ t = .double ∧ ∃ z, w = .double z) ∨ (i = .freturn ∧ t = .float ∧ ∃ z, w = .float z) ∨ (i = .areturn ∧ t.isReference = true ∧ w.isRef = true))
    (hd : decode c.code pc = .ok (i, 1)) (hc : cells ≤ rc) (hs : slots ≤ rs) (hh : T.heap = h) (hq : Q (some w) h locs) : Go p e below s rc rs Q (T.setTop (mkF m pc Ls (w :: rest))) := by
  obtain ⟨fs, hr, hrun, hended, hW, hsame⟩ := X.leave (v := some w) (fun h => by rw [hret] at h; cases h) hlk
  subst hh
  exact ⟨_, _, retOut X hx hret hn hi hd hr, hrun, hended, _, _, rfl, hq, ⟨_, rfl⟩, hW, hsame.mono hc hs⟩
theorem Go.retB (X : Stand p l e R s m args below meth c T locs cells slots) (hx : p.tables.exec = Jvm.exec) (hlk : meth.locks = false) {pc : Nat} {Ls : Array Slot} {z : Int32} {t : FieldType} {rest : List Value} (hret : meth.sig.returnType = some t) (ht : t = .boolean ∨ t = .byte ∨ t = .char ∨ t = .short)
    (hd : decode c.code pc = .ok (.ireturn, 1)) (hc : cells ≤ rc) (hs : slots ≤ rs) (hh : T.heap = h) (hq : Q (some (.int (nar t z))) h locs) : Go p e below s rc rs Q (T.setTop (mkF m pc Ls (.int z :: rest))) := by
  obtain ⟨fs, hr, hrun, hended, hW, hsame⟩ := X.leave (v := some (.int (nar t z))) (fun h => by rw [hret] at h; cases h) hlk
  subst hh
  exact ⟨_, _, retN X hx hret ht hd hr, hrun, hended, _, _, rfl, hq, ⟨_, rfl⟩, hW, hsame.mono hc hs⟩
theorem Go.retV (X : Stand p l e R s m args below meth c T locs cells slots) (hx : p.tables.exec = Jvm.exec) (hlk : meth.locks = false) {pc : Nat} {Ls : Array Slot} (hret : meth.sig.returnType = none)
    (hd : decode c.code pc = .ok (.return_, 1)) (hc : cells ≤ rc) (hs : slots ≤ rs) (hh : T.heap = h) (hq : Q none h locs) : Go p e below s rc rs Q (T.setTop (mkF m pc Ls [])) := by
  obtain ⟨fs, hr, hrun, hended, hW, hsame⟩ := X.leave (v := none) (fun _ => rfl) hlk
  subst hh
  exact ⟨_, _, X.returnOut hx hret hd hr, hrun, hended, _, _, rfl, hq, ⟨_, rfl⟩, hW, hsame.mono hc hs⟩
theorem own_le (O : Old Z n0 h) : n0 ≤ h.size := O.1 ▸ O.2.1
theorem own_nb (b : Bool) : nar .boolean (if b then 1 else 0) = if b then 1 else 0 := by cases b <;> rfl
end Pre
def fpick (m x a b : Int32) : Int32 := if m &&& 7 = 1 then a else if m &&& 7 = 2 then b else if m &&& 7 = 3 then a - 1 else if m &&& 7 = 4 then b + 1 else x
def fmax (a b : Int32) : Int32 := if a < b then b else a
def fmin (a b : Int32) : Int32 := if b < a then b else a
def fallow (s a b : Int32) : Int32 := if s < a then 0 else if b < s then 0 else 1
theorem own_law (s a b : Int32) : fallow s a b = if ¬ b < a ∧ fmin (fmax s a) b = s then 1 else 0 := by
  unfold fallow fmin fmax
  simp only [Int32.lt_iff_toInt_lt, ← Int32.toInt_inj]
  split <;> split <;> (try split) <;> (try split) <;> (try rfl) <;> (try split) <;> (try rfl) <;> (try split) <;> (try rfl) <;> (try (exfalso; omega))
theorem d1_0 : decode prog_11_method_1_code 0 = .ok (.aload_n 0, 1) := by decide +kernel
theorem d1_1 : decode prog_11_method_1_code 1 = .ok (.invokespecial 1, 3) := by decide +kernel
theorem d1_4 : decode prog_11_method_1_code 4 = .ok (.aload_n 0, 1) := by decide +kernel
theorem d1_5 : decode prog_11_method_1_code 5 = .ok (.iload_n 1, 1) := by decide +kernel
theorem d1_6 : decode prog_11_method_1_code 6 = .ok (.putfield 7, 3) := by decide +kernel
theorem d1_9 : decode prog_11_method_1_code 9 = .ok (.aload_n 0, 1) := by decide +kernel
theorem d1_10 : decode prog_11_method_1_code 10 = .ok (.iload_n 2, 1) := by decide +kernel
theorem d1_11 : decode prog_11_method_1_code 11 = .ok (.putfield 13, 3) := by decide +kernel
theorem d1_14 : decode prog_11_method_1_code 14 = .ok (.aload_n 0, 1) := by decide +kernel
theorem d1_15 : decode prog_11_method_1_code 15 = .ok (.iload_n 3, 1) := by decide +kernel
theorem d1_16 : decode prog_11_method_1_code 16 = .ok (.putfield 16, 3) := by decide +kernel
theorem d1_19 : decode prog_11_method_1_code 19 = .ok (.return_, 1) := by decide +kernel
theorem pn_com_example_tenure_of_partitions_tenureofpartitions_GroupSettings : plainName "com/example/tenure_of_partitions/tenureofpartitions/GroupSettings" = true := by first | (simp [plainName, overriddenIn]; done) | decide +kernel
theorem ef_rm1 (m : MethodId) (ob : Addr) (up : Int32) (uq : Int32) (ur : Int32) : entryFrame m #[(.ref ob), (.int up), (.int uq), (.int ur)] 4 = mkF m 0 #[.val (.ref ob), .val (.int up), .val (.int uq), .val (.int ur)] [] := by first | (simp [entryFrame, mkF, argsToLocals, Value.category]; done) | rfl
def Q1 (Z : State) (ob : Addr) (up : Int32) (uq : Int32) (ur : Int32) (h0 : Heap) (n0 : Nat) (v : Option Value) (h : Heap) (L : List Loc) : Prop := v = none ∧ Fr n0 L ∧ Keep h0 h [ob] ∧ Fld Z h ob "com/example/tenure_of_partitions/tenureofpartitions/GroupSettings" "minSessionTimeoutMs" "I" (.int up) ∧ Fld Z h ob "com/example/tenure_of_partitions/tenureofpartitions/GroupSettings" "maxSessionTimeoutMs" "I" (.int uq) ∧ Fld Z h ob "com/example/tenure_of_partitions/tenureofpartitions/GroupSettings" "initialRebalanceDelayMs" "I" (.int ur)
set_option maxRecDepth 65536 in
set_option maxHeartbeats 40000000 in
theorem rm1 (l : Launch) (Z : State) (a0 : Array Value) (hw : ∀ d ∈ tables_1, d.before a0 Z = true) (ws : List Jvm.Cond) (ob : Addr) (up : Int32) (uq : Int32) (ur : Int32) (h0 : Heap) (n0 : Nat) (O0 : Old Z n0 h0) (E_o : Exa Z h0 ob "com/example/tenure_of_partitions/tenureofpartitions/GroupSettings") (F0 : Fld Z h0 ob "com/example/tenure_of_partitions/tenureofpartitions/GroupSettings" "minSessionTimeoutMs" "I" (.int (0 : Int32))) (F1 : Fld Z h0 ob "com/example/tenure_of_partitions/tenureofpartitions/GroupSettings" "maxSessionTimeoutMs" "I" (.int (0 : Int32))) (F2 : Fld Z h0 ob "com/example/tenure_of_partitions/tenureofpartitions/GroupSettings" "initialRebalanceDelayMs" "I" (.int (0 : Int32))) (g_o : n0 ≤ ob) :
    MetFree l (⟨"com/example/tenure_of_partitions/tenureofpartitions/GroupSettings", "<init>", "(III)V"⟩ : MethodName) (head1 (Jvm.Cond.code (⟨"com/example/tenure_of_partitions/tenureofpartitions/GroupSettings", "<init>", "(III)V"⟩ : MethodName) prog_11_method_1_code 4 none :: ws) ({ frames := 1, cells := 0, slots := 0, locals := 12 } : Room)) (fun ay U => ay = #[(.ref ob), (.int up), (.int uq), (.int ur)] ∧ Z.Warmed39 U.vm ∧ U.heap = h0) (fun _ _ _ _ _ => True) (fun _ U o U' => ∃ v L, o = .returned v ∧ Q1 Z ob up uq ur h0 n0 v U'.heap L ∧ FrameEnd U o U' L ({ frames := 1, cells := 0, slots := 0, locals := 12 } : Room).cells ({ frames := 1, cells := 0, slots := 0, locals := 12 } : Room).slots) := by
  refine MetFree.of_bodySF (plainFor_of_name pn_com_example_tenure_of_partitions_tenureofpartitions_GroupSettings) hisR ?_
  intro p e s m args below meth c s₁ Bd hml0 hP hK
  obtain ⟨rfl, hZ, hh⟩ := hP
  have hx := Bd.exec
  have hby := Bd.bytes
  have hlk : meth.locks = false := BodyLoose.notSynchronized Bd
  have hml : c.maxLocals = 4 := hml0
  have hown : s.vm.findClass "com/example/tenure_of_partitions/tenureofpartitions/GroupSettings" = some m.cls := findClass_of_methodNamed Bd.named
  have hnm := (name_of_methodNamed Bd.named Bd.method).1
  have X0 : Stand p l e ({ frames := 1, cells := 0, slots := 0, locals := 12 } : Room) s m #[(.ref ob), (.int up), (.int uq), (.int ur)] below meth c s₁ [] 0 0 := Stand.of_body Bd
  have e0 : s₁.heap = h0 := by rw [← hh, Bd.state]; rfl
  have N0 := Fr.nil n0
  suffices hgo : Go p e below s 0 0 (Q1 Z ob up uq ur h0 n0) (s₁.setTop (mkF m 0 #[.val (.ref ob), .val (.int up), .val (.int uq), .val (.int ur)] [])) by
    obtain ⟨t, o, h1, h2⟩ := hgo; exact ⟨t, o, castTop (ef_rm1 m ob up uq ur) h1, h2⟩
  show Go p e below s _ _ _ (s₁.setTop (mkF m 0 #[.val (.ref ob), .val (.int up), .val (.int uq), .val (.int ur)] []))
  refine Go.st (fun _ k' => XS.aloadN X0.here hx rfl (hb hby d1_0) rfl rfl k') ?_
  show Go p e below s _ _ _ (s₁.setTop (mkF m 1 #[.val (.ref ob), .val (.int up), .val (.int uq), .val (.int ur)] [(.ref ob)]))
  obtain ⟨T1, X1, e1, st1⟩ := initO X0 hx hZ hown (wdx hw 6 rfl) (wdx hw 7 rfl) (wdx hw 8 rfl) e0 (g := (mkF m 1 #[.val (.ref ob), .val (.int up), .val (.int uq), .val (.int ur)] [(.ref ob)])) rfl (by rw [hml]; rfl) rfl (hb hby d1_1) (by decide) (W := 0) (by show 2 * 0 + _ ≤ _; exact Nat.le_of_eq rfl) (by decide)
  refine Go.st st1 ?_
  show Go p e below s _ _ _ (T1.setTop (mkF m 4 #[.val (.ref ob), .val (.int up), .val (.int uq), .val (.int ur)] []))
  refine Go.st (fun _ k' => XS.aloadN X1.here hx rfl (hb hby d1_4) rfl rfl k') ?_
  show Go p e below s _ _ _ (T1.setTop (mkF m 5 #[.val (.ref ob), .val (.int up), .val (.int uq), .val (.int ur)] [(.ref ob)]))
  refine Go.st (fun _ k' => XS.iloadN X1.here hx rfl (hb hby d1_5) rfl k') ?_
  show Go p e below s _ _ _ (T1.setTop (mkF m 6 #[.val (.ref ob), .val (.int up), .val (.int uq), .val (.int ur)] [(.int up), (.ref ob)]))
  obtain ⟨T2, h2, X2, e2, W2, st2⟩ := putF X1 hx hZ hown (host := "") (Or.inl (wdx hw 9 rfl)) Via.refl e1 F0 E_o (Or.inr ⟨(wdx hw 10 rfl), rfl, hnm⟩) (wdx hw 1 rfl) (ty := .int) (by decide) rfl rfl (g := (mkF m 6 #[.val (.ref ob), .val (.int up), .val (.int uq), .val (.int ur)] [(.int up), (.ref ob)])) rfl rfl (hb hby d1_6)
  refine Go.st st2 ?_
  have f3 : Exa Z h2 ob "com/example/tenure_of_partitions/tenureofpartitions/GroupSettings" := E_o.wr W2
  have f4 : Fld Z h2 ob "com/example/tenure_of_partitions/tenureofpartitions/GroupSettings" "minSessionTimeoutMs" "I" (.int up) := F0.same W2
  have f5 : Fld Z h2 ob "com/example/tenure_of_partitions/tenureofpartitions/GroupSettings" "maxSessionTimeoutMs" "I" (.int (0 : Int32)) := F1.other W2 (Or.inr (slot_ne (Or.inr (wdx hw 12 rfl)) (Or.inr (wdx hw 10 rfl)) (by decide) (t := .int) (t' := .int) (by decide) (by decide)))
  have f6 : Fld Z h2 ob "com/example/tenure_of_partitions/tenureofpartitions/GroupSettings" "initialRebalanceDelayMs" "I" (.int (0 : Int32)) := F2.other W2 (Or.inr (slot_ne (Or.inr (wdx hw 14 rfl)) (Or.inr (wdx hw 10 rfl)) (by decide) (t := .int) (t' := .int) (by decide) (by decide)))
  have O2 : Old Z n0 h2 := O0.wr W2 g_o
  have N2 := Fr.snoc X2 N0 g_o
  have K2 : Keep h0 h2 [ob] := (Keep.refl h0 [ob]).wr W2 (Or.inl (by simp))
  show Go p e below s _ _ _ (T2.setTop (mkF m 9 #[.val (.ref ob), .val (.int up), .val (.int uq), .val (.int ur)] []))
  refine Go.st (fun _ k' => XS.aloadN X2.here hx rfl (hb hby d1_9) rfl rfl k') ?_
  show Go p e below s _ _ _ (T2.setTop (mkF m 10 #[.val (.ref ob), .val (.int up), .val (.int uq), .val (.int ur)] [(.ref ob)]))
  refine Go.st (fun _ k' => XS.iloadN X2.here hx rfl (hb hby d1_10) rfl k') ?_
  show Go p e below s _ _ _ (T2.setTop (mkF m 11 #[.val (.ref ob), .val (.int up), .val (.int uq), .val (.int ur)] [(.int uq), (.ref ob)]))
  obtain ⟨T7, h7, X7, e7, W7, st7⟩ := putF X2 hx hZ hown (host := "") (Or.inl (wdx hw 11 rfl)) Via.refl e2 f5 f3 (Or.inr ⟨(wdx hw 12 rfl), rfl, hnm⟩) (wdx hw 1 rfl) (ty := .int) (by decide) rfl rfl (g := (mkF m 11 #[.val (.ref ob), .val (.int up), .val (.int uq), .val (.int ur)] [(.int uq), (.ref ob)])) rfl rfl (hb hby d1_11)
  refine Go.st st7 ?_
  have f8 : Exa Z h7 ob "com/example/tenure_of_partitions/tenureofpartitions/GroupSettings" := f3.wr W7
  have f9 : Fld Z h7 ob "com/example/tenure_of_partitions/tenureofpartitions/GroupSettings" "minSessionTimeoutMs" "I" (.int up) := f4.other W7 (Or.inr (slot_ne (Or.inr (wdx hw 10 rfl)) (Or.inr (wdx hw 12 rfl)) (by decide) (t := .int) (t' := .int) (by decide) (by decide)))
  have f10 : Fld Z h7 ob "com/example/tenure_of_partitions/tenureofpartitions/GroupSettings" "maxSessionTimeoutMs" "I" (.int uq) := f5.same W7
  have f11 : Fld Z h7 ob "com/example/tenure_of_partitions/tenureofpartitions/GroupSettings" "initialRebalanceDelayMs" "I" (.int (0 : Int32)) := f6.other W7 (Or.inr (slot_ne (Or.inr (wdx hw 14 rfl)) (Or.inr (wdx hw 12 rfl)) (by decide) (t := .int) (t' := .int) (by decide) (by decide)))
  have O7 : Old Z n0 h7 := O2.wr W7 g_o
  have N7 := Fr.snoc X7 N2 g_o
  have K7 : Keep h0 h7 [ob] := K2.wr W7 (Or.inl (by simp))
  show Go p e below s _ _ _ (T7.setTop (mkF m 14 #[.val (.ref ob), .val (.int up), .val (.int uq), .val (.int ur)] []))
  refine Go.st (fun _ k' => XS.aloadN X7.here hx rfl (hb hby d1_14) rfl rfl k') ?_
  show Go p e below s _ _ _ (T7.setTop (mkF m 15 #[.val (.ref ob), .val (.int up), .val (.int uq), .val (.int ur)] [(.ref ob)]))
  refine Go.st (fun _ k' => XS.iloadN X7.here hx rfl (hb hby d1_15) rfl k') ?_
  show Go p e below s _ _ _ (T7.setTop (mkF m 16 #[.val (.ref ob), .val (.int up), .val (.int uq), .val (.int ur)] [(.int ur), (.ref ob)]))
  obtain ⟨T12, h12, X12, e12, W12, st12⟩ := putF X7 hx hZ hown (host := "") (Or.inl (wdx hw 13 rfl)) Via.refl e7 f11 f8 (Or.inr ⟨(wdx hw 14 rfl), rfl, hnm⟩) (wdx hw 1 rfl) (ty := .int) (by decide) rfl rfl (g := (mkF m 16 #[.val (.ref ob), .val (.int up), .val (.int uq), .val (.int ur)] [(.int ur), (.ref ob)])) rfl rfl (hb hby d1_16)
  refine Go.st st12 ?_
  have f13 : Exa Z h12 ob "com/example/tenure_of_partitions/tenureofpartitions/GroupSettings" := f8.wr W12
  have f14 : Fld Z h12 ob "com/example/tenure_of_partitions/tenureofpartitions/GroupSettings" "minSessionTimeoutMs" "I" (.int up) := f9.other W12 (Or.inr (slot_ne (Or.inr (wdx hw 10 rfl)) (Or.inr (wdx hw 14 rfl)) (by decide) (t := .int) (t' := .int) (by decide) (by decide)))
  have f15 : Fld Z h12 ob "com/example/tenure_of_partitions/tenureofpartitions/GroupSettings" "maxSessionTimeoutMs" "I" (.int uq) := f10.other W12 (Or.inr (slot_ne (Or.inr (wdx hw 12 rfl)) (Or.inr (wdx hw 14 rfl)) (by decide) (t := .int) (t' := .int) (by decide) (by decide)))
  have f16 : Fld Z h12 ob "com/example/tenure_of_partitions/tenureofpartitions/GroupSettings" "initialRebalanceDelayMs" "I" (.int ur) := f11.same W12
  have O12 : Old Z n0 h12 := O7.wr W12 g_o
  have N12 := Fr.snoc X12 N7 g_o
  have K12 : Keep h0 h12 [ob] := K7.wr W12 (Or.inl (by simp))
  show Go p e below s _ _ _ (T12.setTop (mkF m 19 #[.val (.ref ob), .val (.int up), .val (.int uq), .val (.int ur)] []))
  refine Go.retV X12 hx hlk Bd.returns (hb hby d1_19) (by decide) (by decide) e12 ?_
  exact ⟨rfl, N12, K12, f14, f15, f16⟩
theorem d3_0 : decode method_2_code 0 = .ok (.iload_n 0, 1) := by decide +kernel
theorem d3_1 : decode method_2_code 1 = .ok (.bipush 7, 2) := by decide +kernel
theorem d3_3 : decode method_2_code 3 = .ok (.iand, 1) := by decide +kernel
theorem d3_4 : decode method_2_code 4 = .ok (.istore 4, 2) := by decide +kernel
theorem d3_6 : decode method_2_code 6 = .ok (.iload 4, 2) := by decide +kernel
theorem d3_8 : decode method_2_code 8 = .ok (.iconst 1, 1) := by decide +kernel
theorem d3_9 : decode method_2_code 9 = .ok (.if_icmp .ne 5, 3) := by decide +kernel
theorem d3_12 : decode method_2_code 12 = .ok (.iload_n 2, 1) := by decide +kernel
theorem d3_13 : decode method_2_code 13 = .ok (.ireturn, 1) := by decide +kernel
theorem d3_14 : decode method_2_code 14 = .ok (.iload 4, 2) := by decide +kernel
theorem d3_16 : decode method_2_code 16 = .ok (.iconst 2, 1) := by decide +kernel
theorem d3_17 : decode method_2_code 17 = .ok (.if_icmp .ne 5, 3) := by decide +kernel
theorem d3_20 : decode method_2_code 20 = .ok (.iload_n 3, 1) := by decide +kernel
theorem d3_21 : decode method_2_code 21 = .ok (.ireturn, 1) := by decide +kernel
theorem d3_22 : decode method_2_code 22 = .ok (.iload 4, 2) := by decide +kernel
theorem d3_24 : decode method_2_code 24 = .ok (.iconst 3, 1) := by decide +kernel
theorem d3_25 : decode method_2_code 25 = .ok (.if_icmp .ne 7, 3) := by decide +kernel
theorem d3_28 : decode method_2_code 28 = .ok (.iload_n 2, 1) := by decide +kernel
theorem d3_29 : decode method_2_code 29 = .ok (.iconst 1, 1) := by decide +kernel
theorem d3_30 : decode method_2_code 30 = .ok (.isub, 1) := by decide +kernel
theorem d3_31 : decode method_2_code 31 = .ok (.ireturn, 1) := by decide +kernel
theorem d3_32 : decode method_2_code 32 = .ok (.iload 4, 2) := by decide +kernel
theorem d3_34 : decode method_2_code 34 = .ok (.iconst 4, 1) := by decide +kernel
theorem d3_35 : decode method_2_code 35 = .ok (.if_icmp .ne 7, 3) := by decide +kernel
theorem d3_38 : decode method_2_code 38 = .ok (.iload_n 3, 1) := by decide +kernel
theorem d3_39 : decode method_2_code 39 = .ok (.iconst 1, 1) := by decide +kernel
theorem d3_40 : decode method_2_code 40 = .ok (.iadd, 1) := by decide +kernel
theorem d3_41 : decode method_2_code 41 = .ok (.ireturn, 1) := by decide +kernel
theorem d3_42 : decode method_2_code 42 = .ok (.iload_n 1, 1) := by decide +kernel
theorem d3_43 : decode method_2_code 43 = .ok (.ireturn, 1) := by decide +kernel
theorem pn_com_example_tenure_of_partitions_tenureofpartitions_GroupSettingsAllowsSessionTimeoutPinLaw : plainName "com/example/tenure_of_partitions/tenureofpartitions/GroupSettingsAllowsSessionTimeoutPinLaw" = true := by first | (simp [plainName, overriddenIn]; done) | decide +kernel
theorem ef_rm3 (m : MethodId) (md : Int32) (y : Int32) (a : Int32) (b : Int32) : entryFrame m #[(.int md), (.int y), (.int a), (.int b)] 5 = mkF m 0 #[.val (.int md), .val (.int y), .val (.int a), .val (.int b), .unset] [] := by first | (simp [entryFrame, mkF, argsToLocals, Value.category]; done) | rfl
def Q3 (Z : State) (md : Int32) (y : Int32) (a : Int32) (b : Int32) (h0 : Heap) (n0 : Nat) (v : Option Value) (h : Heap) (L : List Loc) : Prop := v = some (.int (fpick md y a b)) ∧ Fr n0 L ∧ h = h0
set_option maxRecDepth 65536 in
set_option maxHeartbeats 40000000 in
theorem rm3 (l : Launch) (Z : State) (a0 : Array Value) (hw : ∀ d ∈ tables_1, d.before a0 Z = true) (ws : List Jvm.Cond) (md : Int32) (y : Int32) (a : Int32) (b : Int32) (h0 : Heap) (n0 : Nat) (O0 : Old Z n0 h0) :
    MetFree l (⟨"com/example/tenure_of_partitions/tenureofpartitions/GroupSettingsAllowsSessionTimeoutPinLaw", "pick", "(IIII)I"⟩ : MethodName) (head1 (Jvm.Cond.code (⟨"com/example/tenure_of_partitions/tenureofpartitions/GroupSettingsAllowsSessionTimeoutPinLaw", "pick", "(IIII)I"⟩ : MethodName) method_2_code 5 (some .int) :: ws) ({ frames := 0, cells := 0, slots := 0, locals := 0 } : Room)) (fun ay U => ay = #[(.int md), (.int y), (.int a), (.int b)] ∧ Z.Warmed39 U.vm ∧ U.heap = h0) (fun _ _ _ _ _ => True) (fun _ U o U' => ∃ v L, o = .returned v ∧ Q3 Z md y a b h0 n0 v U'.heap L ∧ FrameEnd U o U' L ({ frames := 0, cells := 0, slots := 0, locals := 0 } : Room).cells ({ frames := 0, cells := 0, slots := 0, locals := 0 } : Room).slots) := by
  refine MetFree.of_bodySF (plainFor_of_name pn_com_example_tenure_of_partitions_tenureofpartitions_GroupSettingsAllowsSessionTimeoutPinLaw) hisR ?_
  intro p e s m args below meth c s₁ Bd hml0 hP hK
  obtain ⟨rfl, hZ, hh⟩ := hP
  have hx := Bd.exec
  have hby := Bd.bytes
  have hlk : meth.locks = false := BodyLoose.notSynchronized Bd
  have hml : c.maxLocals = 5 := hml0
  have hown : s.vm.findClass "com/example/tenure_of_partitions/tenureofpartitions/GroupSettingsAllowsSessionTimeoutPinLaw" = some m.cls := findClass_of_methodNamed Bd.named
  have hnm := (name_of_methodNamed Bd.named Bd.method).1
  have X0 : Stand p l e ({ frames := 0, cells := 0, slots := 0, locals := 0 } : Room) s m #[(.int md), (.int y), (.int a), (.int b)] below meth c s₁ [] 0 0 := Stand.of_body Bd
  have e0 : s₁.heap = h0 := by rw [← hh, Bd.state]; rfl
  have N0 := Fr.nil n0
  suffices hgo : Go p e below s 0 0 (Q3 Z md y a b h0 n0) (s₁.setTop (mkF m 0 #[.val (.int md), .val (.int y), .val (.int a), .val (.int b), .unset] [])) by
    obtain ⟨t, o, h1, h2⟩ := hgo; exact ⟨t, o, castTop (ef_rm3 m md y a b) h1, h2⟩
  show Go p e below s _ _ _ (s₁.setTop (mkF m 0 #[.val (.int md), .val (.int y), .val (.int a), .val (.int b), .unset] []))
  refine Go.st (fun _ k' => XS.iloadN X0.here hx rfl (hb hby d3_0) rfl k') ?_
  show Go p e below s _ _ _ (s₁.setTop (mkF m 1 #[.val (.int md), .val (.int y), .val (.int a), .val (.int b), .unset] [(.int md)]))
  refine Go.st (fun _ k' => XS.bipush X0.here hx rfl (hb hby d3_1) k') ?_
  show Go p e below s _ _ _ (s₁.setTop (mkF m 3 #[.val (.int md), .val (.int y), .val (.int a), .val (.int b), .unset] [(.int (7 : Int32)), (.int md)]))
  refine Go.st (fun _ k' => XS.iand X0.here hx rfl (hb hby d3_3) rfl k') ?_
  show Go p e below s _ _ _ (s₁.setTop (mkF m 4 #[.val (.int md), .val (.int y), .val (.int a), .val (.int b), .unset] [(.int (md &&& (7 : Int32)))]))
  refine Go.st (fun _ k' => XS.istore X0.here hx rfl (hb hby d3_4) rfl (l' := #[.val (.int md), .val (.int y), .val (.int a), .val (.int b), .val (.int (md &&& (7 : Int32)))]) rfl k') ?_
  show Go p e below s _ _ _ (s₁.setTop (mkF m 6 #[.val (.int md), .val (.int y), .val (.int a), .val (.int b), .val (.int (md &&& (7 : Int32)))] []))
  refine Go.st (fun _ k' => XS.iload X0.here hx rfl (hb hby d3_6) rfl k') ?_
  show Go p e below s _ _ _ (s₁.setTop (mkF m 8 #[.val (.int md), .val (.int y), .val (.int a), .val (.int b), .val (.int (md &&& (7 : Int32)))] [(.int (md &&& (7 : Int32)))]))
  refine Go.st (fun _ k' => XS.iconst X0.here hx rfl (hb hby d3_8) k') ?_
  show Go p e below s _ _ _ (s₁.setTop (mkF m 9 #[.val (.int md), .val (.int y), .val (.int a), .val (.int b), .val (.int (md &&& (7 : Int32)))] [(.int (1 : Int32)), (.int (md &&& (7 : Int32)))]))
  by_cases hc1 : (md &&& (7 : Int32)) = (1 : Int32)
  · refine Go.st (fun _ k' => XS.icmpNo X0.here hx rfl (hb hby d3_9) rfl (XT.ii_ne_f hc1) k') ?_
    show Go p e below s _ _ _ (s₁.setTop (mkF m 12 #[.val (.int md), .val (.int y), .val (.int a), .val (.int b), .val (.int (md &&& (7 : Int32)))] []))
    refine Go.st (fun _ k' => XS.iloadN X0.here hx rfl (hb hby d3_12) rfl k') ?_
    show Go p e below s _ _ _ (s₁.setTop (mkF m 13 #[.val (.int md), .val (.int y), .val (.int a), .val (.int b), .val (.int (md &&& (7 : Int32)))] [(.int a)]))
    refine Go.ret X0 hx hlk (t := .int) Bd.returns rfl (Or.inl ⟨rfl, Or.inl rfl, _, rfl⟩) (hb hby d3_13) (by decide) (by decide) e0 ?_
    exact ⟨(by simp [fpick, hc1]), N0, rfl⟩
  · refine Go.st (fun _ k' => XS.icmpYes X0.here hx rfl (pc0 := 9) (pc' := 14) rfl (hb hby d3_9) rfl (XT.ii_ne_t hc1) (by decide) (by decide) k') ?_
    show Go p e below s _ _ _ (s₁.setTop (mkF m 14 #[.val (.int md), .val (.int y), .val (.int a), .val (.int b), .val (.int (md &&& (7 : Int32)))] []))
    refine Go.st (fun _ k' => XS.iload X0.here hx rfl (hb hby d3_14) rfl k') ?_
    show Go p e below s _ _ _ (s₁.setTop (mkF m 16 #[.val (.int md), .val (.int y), .val (.int a), .val (.int b), .val (.int (md &&& (7 : Int32)))] [(.int (md &&& (7 : Int32)))]))
    refine Go.st (fun _ k' => XS.iconst X0.here hx rfl (hb hby d3_16) k') ?_
    show Go p e below s _ _ _ (s₁.setTop (mkF m 17 #[.val (.int md), .val (.int y), .val (.int a), .val (.int b), .val (.int (md &&& (7 : Int32)))] [(.int (2 : Int32)), (.int (md &&& (7 : Int32)))]))
    by_cases hc2 : (md &&& (7 : Int32)) = (2 : Int32)
    · refine Go.st (fun _ k' => XS.icmpNo X0.here hx rfl (hb hby d3_17) rfl (XT.ii_ne_f hc2) k') ?_
      show Go p e below s _ _ _ (s₁.setTop (mkF m 20 #[.val (.int md), .val (.int y), .val (.int a), .val (.int b), .val (.int (md &&& (7 : Int32)))] []))
      refine Go.st (fun _ k' => XS.iloadN X0.here hx rfl (hb hby d3_20) rfl k') ?_
      show Go p e below s _ _ _ (s₁.setTop (mkF m 21 #[.val (.int md), .val (.int y), .val (.int a), .val (.int b), .val (.int (md &&& (7 : Int32)))] [(.int b)]))
      refine Go.ret X0 hx hlk (t := .int) Bd.returns rfl (Or.inl ⟨rfl, Or.inl rfl, _, rfl⟩) (hb hby d3_21) (by decide) (by decide) e0 ?_
      exact ⟨(by simp [fpick, hc1, hc2]), N0, rfl⟩
    · refine Go.st (fun _ k' => XS.icmpYes X0.here hx rfl (pc0 := 17) (pc' := 22) rfl (hb hby d3_17) rfl (XT.ii_ne_t hc2) (by decide) (by decide) k') ?_
      show Go p e below s _ _ _ (s₁.setTop (mkF m 22 #[.val (.int md), .val (.int y), .val (.int a), .val (.int b), .val (.int (md &&& (7 : Int32)))] []))
      refine Go.st (fun _ k' => XS.iload X0.here hx rfl (hb hby d3_22) rfl k') ?_
      show Go p e below s _ _ _ (s₁.setTop (mkF m 24 #[.val (.int md), .val (.int y), .val (.int a), .val (.int b), .val (.int (md &&& (7 : Int32)))] [(.int (md &&& (7 : Int32)))]))
      refine Go.st (fun _ k' => XS.iconst X0.here hx rfl (hb hby d3_24) k') ?_
      show Go p e below s _ _ _ (s₁.setTop (mkF m 25 #[.val (.int md), .val (.int y), .val (.int a), .val (.int b), .val (.int (md &&& (7 : Int32)))] [(.int (3 : Int32)), (.int (md &&& (7 : Int32)))]))
      by_cases hc3 : (md &&& (7 : Int32)) = (3 : Int32)
      · refine Go.st (fun _ k' => XS.icmpNo X0.here hx rfl (hb hby d3_25) rfl (XT.ii_ne_f hc3) k') ?_
        show Go p e below s _ _ _ (s₁.setTop (mkF m 28 #[.val (.int md), .val (.int y), .val (.int a), .val (.int b), .val (.int (md &&& (7 : Int32)))] []))
        refine Go.st (fun _ k' => XS.iloadN X0.here hx rfl (hb hby d3_28) rfl k') ?_
        show Go p e below s _ _ _ (s₁.setTop (mkF m 29 #[.val (.int md), .val (.int y), .val (.int a), .val (.int b), .val (.int (md &&& (7 : Int32)))] [(.int a)]))
        refine Go.st (fun _ k' => XS.iconst X0.here hx rfl (hb hby d3_29) k') ?_
        show Go p e below s _ _ _ (s₁.setTop (mkF m 30 #[.val (.int md), .val (.int y), .val (.int a), .val (.int b), .val (.int (md &&& (7 : Int32)))] [(.int (1 : Int32)), (.int a)]))
        refine Go.st (fun _ k' => XS.isub X0.here hx rfl (hb hby d3_30) rfl k') ?_
        show Go p e below s _ _ _ (s₁.setTop (mkF m 31 #[.val (.int md), .val (.int y), .val (.int a), .val (.int b), .val (.int (md &&& (7 : Int32)))] [(.int (a - (1 : Int32)))]))
        refine Go.ret X0 hx hlk (t := .int) Bd.returns rfl (Or.inl ⟨rfl, Or.inl rfl, _, rfl⟩) (hb hby d3_31) (by decide) (by decide) e0 ?_
        exact ⟨(by simp [fpick, hc1, hc2, hc3]), N0, rfl⟩
      · refine Go.st (fun _ k' => XS.icmpYes X0.here hx rfl (pc0 := 25) (pc' := 32) rfl (hb hby d3_25) rfl (XT.ii_ne_t hc3) (by decide) (by decide) k') ?_
        show Go p e below s _ _ _ (s₁.setTop (mkF m 32 #[.val (.int md), .val (.int y), .val (.int a), .val (.int b), .val (.int (md &&& (7 : Int32)))] []))
        refine Go.st (fun _ k' => XS.iload X0.here hx rfl (hb hby d3_32) rfl k') ?_
        show Go p e below s _ _ _ (s₁.setTop (mkF m 34 #[.val (.int md), .val (.int y), .val (.int a), .val (.int b), .val (.int (md &&& (7 : Int32)))] [(.int (md &&& (7 : Int32)))]))
        refine Go.st (fun _ k' => XS.iconst X0.here hx rfl (hb hby d3_34) k') ?_
        show Go p e below s _ _ _ (s₁.setTop (mkF m 35 #[.val (.int md), .val (.int y), .val (.int a), .val (.int b), .val (.int (md &&& (7 : Int32)))] [(.int (4 : Int32)), (.int (md &&& (7 : Int32)))]))
        by_cases hc4 : (md &&& (7 : Int32)) = (4 : Int32)
        · refine Go.st (fun _ k' => XS.icmpNo X0.here hx rfl (hb hby d3_35) rfl (XT.ii_ne_f hc4) k') ?_
          show Go p e below s _ _ _ (s₁.setTop (mkF m 38 #[.val (.int md), .val (.int y), .val (.int a), .val (.int b), .val (.int (md &&& (7 : Int32)))] []))
          refine Go.st (fun _ k' => XS.iloadN X0.here hx rfl (hb hby d3_38) rfl k') ?_
          show Go p e below s _ _ _ (s₁.setTop (mkF m 39 #[.val (.int md), .val (.int y), .val (.int a), .val (.int b), .val (.int (md &&& (7 : Int32)))] [(.int b)]))
          refine Go.st (fun _ k' => XS.iconst X0.here hx rfl (hb hby d3_39) k') ?_
          show Go p e below s _ _ _ (s₁.setTop (mkF m 40 #[.val (.int md), .val (.int y), .val (.int a), .val (.int b), .val (.int (md &&& (7 : Int32)))] [(.int (1 : Int32)), (.int b)]))
          refine Go.st (fun _ k' => XS.iadd X0.here hx rfl (hb hby d3_40) rfl k') ?_
          show Go p e below s _ _ _ (s₁.setTop (mkF m 41 #[.val (.int md), .val (.int y), .val (.int a), .val (.int b), .val (.int (md &&& (7 : Int32)))] [(.int (b + (1 : Int32)))]))
          refine Go.ret X0 hx hlk (t := .int) Bd.returns rfl (Or.inl ⟨rfl, Or.inl rfl, _, rfl⟩) (hb hby d3_41) (by decide) (by decide) e0 ?_
          exact ⟨(by simp [fpick, hc1, hc2, hc3, hc4]), N0, rfl⟩
        · refine Go.st (fun _ k' => XS.icmpYes X0.here hx rfl (pc0 := 35) (pc' := 42) rfl (hb hby d3_35) rfl (XT.ii_ne_t hc4) (by decide) (by decide) k') ?_
          show Go p e below s _ _ _ (s₁.setTop (mkF m 42 #[.val (.int md), .val (.int y), .val (.int a), .val (.int b), .val (.int (md &&& (7 : Int32)))] []))
          refine Go.st (fun _ k' => XS.iloadN X0.here hx rfl (hb hby d3_42) rfl k') ?_
          show Go p e below s _ _ _ (s₁.setTop (mkF m 43 #[.val (.int md), .val (.int y), .val (.int a), .val (.int b), .val (.int (md &&& (7 : Int32)))] [(.int y)]))
          refine Go.ret X0 hx hlk (t := .int) Bd.returns rfl (Or.inl ⟨rfl, Or.inl rfl, _, rfl⟩) (hb hby d3_43) (by decide) (by decide) e0 ?_
          exact ⟨(by simp [fpick, hc1, hc2, hc3, hc4]), N0, rfl⟩
theorem d4_0 : decode jdk_29_method_65_code 0 = .ok (.iload_n 0, 1) := by decide +kernel
theorem d4_1 : decode jdk_29_method_65_code 1 = .ok (.iload_n 1, 1) := by decide +kernel
theorem d4_2 : decode jdk_29_method_65_code 2 = .ok (.if_icmp .lt 7, 3) := by decide +kernel
theorem d4_9 : decode jdk_29_method_65_code 9 = .ok (.iload_n 1, 1) := by decide +kernel
theorem d4_10 : decode jdk_29_method_65_code 10 = .ok (.ireturn, 1) := by decide +kernel
theorem d4_5 : decode jdk_29_method_65_code 5 = .ok (.iload_n 0, 1) := by decide +kernel
theorem d4_6 : decode jdk_29_method_65_code 6 = .ok (.goto 4, 3) := by decide +kernel
theorem ef_rm4 (m : MethodId) (a : Int32) (b : Int32) : entryFrame m #[(.int a), (.int b)] 2 = mkF m 0 #[.val (.int a), .val (.int b)] [] := by first | (simp [entryFrame, mkF, argsToLocals, Value.category]; done) | rfl
def Q4 (Z : State) (a : Int32) (b : Int32) (h0 : Heap) (n0 : Nat) (v : Option Value) (h : Heap) (L : List Loc) : Prop := v = some (.int (fmax a b)) ∧ Fr n0 L ∧ h = h0
set_option maxRecDepth 65536 in
set_option maxHeartbeats 40000000 in
theorem rm4 (l : Launch) (Z : State) (a0 : Array Value) (hw : ∀ d ∈ tables_1, d.before a0 Z = true) (ws : List Jvm.Cond) (a : Int32) (b : Int32) (h0 : Heap) (n0 : Nat) (O0 : Old Z n0 h0) :
    MetFree l (⟨"java/lang/Math", "max", "(II)I"⟩ : MethodName) (head1 (Jvm.Cond.code (⟨"java/lang/Math", "max", "(II)I"⟩ : MethodName) jdk_29_method_65_code 2 (some .int) :: ws) ({ frames := 0, cells := 0, slots := 0, locals := 0 } : Room)) (fun ay U => ay = #[(.int a), (.int b)] ∧ Z.Warmed39 U.vm ∧ U.heap = h0) (fun _ _ _ _ _ => True) (fun _ U o U' => ∃ v L, o = .returned v ∧ Q4 Z a b h0 n0 v U'.heap L ∧ FrameEnd U o U' L ({ frames := 0, cells := 0, slots := 0, locals := 0 } : Room).cells ({ frames := 0, cells := 0, slots := 0, locals := 0 } : Room).slots) := by
  refine MetFree.of_bodySF (Jvm.Free.JP.mathPlain rfl (by decide +kernel)) hisR ?_
  intro p e s m args below meth c s₁ Bd hml0 hP hK
  obtain ⟨rfl, hZ, hh⟩ := hP
  have hx := Bd.exec
  have hby := Bd.bytes
  have hlk : meth.locks = false := BodyLoose.notSynchronized Bd
  have hml : c.maxLocals = 2 := hml0
  have hown : s.vm.findClass "java/lang/Math" = some m.cls := findClass_of_methodNamed Bd.named
  have hnm := (name_of_methodNamed Bd.named Bd.method).1
  have X0 : Stand p l e ({ frames := 0, cells := 0, slots := 0, locals := 0 } : Room) s m #[(.int a), (.int b)] below meth c s₁ [] 0 0 := Stand.of_body Bd
  have e0 : s₁.heap = h0 := by rw [← hh, Bd.state]; rfl
  have N0 := Fr.nil n0
  suffices hgo : Go p e below s 0 0 (Q4 Z a b h0 n0) (s₁.setTop (mkF m 0 #[.val (.int a), .val (.int b)] [])) by
    obtain ⟨t, o, h1, h2⟩ := hgo; exact ⟨t, o, castTop (ef_rm4 m a b) h1, h2⟩
  show Go p e below s _ _ _ (s₁.setTop (mkF m 0 #[.val (.int a), .val (.int b)] []))
  refine Go.st (fun _ k' => XS.iloadN X0.here hx rfl (hb hby d4_0) rfl k') ?_
  show Go p e below s _ _ _ (s₁.setTop (mkF m 1 #[.val (.int a), .val (.int b)] [(.int a)]))
  refine Go.st (fun _ k' => XS.iloadN X0.here hx rfl (hb hby d4_1) rfl k') ?_
  show Go p e below s _ _ _ (s₁.setTop (mkF m 2 #[.val (.int a), .val (.int b)] [(.int b), (.int a)]))
  by_cases hc1 : a < b
  · refine Go.st (fun _ k' => XS.icmpYes X0.here hx rfl (pc0 := 2) (pc' := 9) rfl (hb hby d4_2) rfl (XT.ii_lt_t hc1) (by decide) (by decide) k') ?_
    show Go p e below s _ _ _ (s₁.setTop (mkF m 9 #[.val (.int a), .val (.int b)] []))
    refine Go.st (fun _ k' => XS.iloadN X0.here hx rfl (hb hby d4_9) rfl k') ?_
    show Go p e below s _ _ _ (s₁.setTop (mkF m 10 #[.val (.int a), .val (.int b)] [(.int b)]))
    refine Go.ret X0 hx hlk (t := .int) Bd.returns rfl (Or.inl ⟨rfl, Or.inl rfl, _, rfl⟩) (hb hby d4_10) (by decide) (by decide) e0 ?_
    exact ⟨(by simp [fmax, hc1]), N0, rfl⟩
  · refine Go.st (fun _ k' => XS.icmpNo X0.here hx rfl (hb hby d4_2) rfl (XT.ii_lt_f hc1) k') ?_
    show Go p e below s _ _ _ (s₁.setTop (mkF m 5 #[.val (.int a), .val (.int b)] []))
    refine Go.st (fun _ k' => XS.iloadN X0.here hx rfl (hb hby d4_5) rfl k') ?_
    show Go p e below s _ _ _ (s₁.setTop (mkF m 6 #[.val (.int a), .val (.int b)] [(.int a)]))
    refine Go.st (fun _ k' => XS.goto X0.here hx rfl (pc0 := 6) (pc' := 10) rfl (hb hby d4_6) (by decide) (by decide) k') ?_
    show Go p e below s _ _ _ (s₁.setTop (mkF m 10 #[.val (.int a), .val (.int b)] [(.int a)]))
    refine Go.ret X0 hx hlk (t := .int) Bd.returns rfl (Or.inl ⟨rfl, Or.inl rfl, _, rfl⟩) (hb hby d4_10) (by decide) (by decide) e0 ?_
    exact ⟨(by simp [fmax, hc1]), N0, rfl⟩
theorem d5_0 : decode jdk_29_method_69_code 0 = .ok (.iload_n 0, 1) := by decide +kernel
theorem d5_1 : decode jdk_29_method_69_code 1 = .ok (.iload_n 1, 1) := by decide +kernel
theorem d5_2 : decode jdk_29_method_69_code 2 = .ok (.if_icmp .gt 7, 3) := by decide +kernel
theorem d5_9 : decode jdk_29_method_69_code 9 = .ok (.iload_n 1, 1) := by decide +kernel
theorem d5_10 : decode jdk_29_method_69_code 10 = .ok (.ireturn, 1) := by decide +kernel
theorem d5_5 : decode jdk_29_method_69_code 5 = .ok (.iload_n 0, 1) := by decide +kernel
theorem d5_6 : decode jdk_29_method_69_code 6 = .ok (.goto 4, 3) := by decide +kernel
theorem ef_rm5 (m : MethodId) (a : Int32) (b : Int32) : entryFrame m #[(.int a), (.int b)] 2 = mkF m 0 #[.val (.int a), .val (.int b)] [] := by first | (simp [entryFrame, mkF, argsToLocals, Value.category]; done) | rfl
def Q5 (Z : State) (a : Int32) (b : Int32) (h0 : Heap) (n0 : Nat) (v : Option Value) (h : Heap) (L : List Loc) : Prop := v = some (.int (fmin a b)) ∧ Fr n0 L ∧ h = h0
set_option maxRecDepth 65536 in
set_option maxHeartbeats 40000000 in
theorem rm5 (l : Launch) (Z : State) (a0 : Array Value) (hw : ∀ d ∈ tables_1, d.before a0 Z = true) (ws : List Jvm.Cond) (a : Int32) (b : Int32) (h0 : Heap) (n0 : Nat) (O0 : Old Z n0 h0) :
    MetFree l (⟨"java/lang/Math", "min", "(II)I"⟩ : MethodName) (head1 (Jvm.Cond.code (⟨"java/lang/Math", "min", "(II)I"⟩ : MethodName) jdk_29_method_69_code 2 (some .int) :: ws) ({ frames := 0, cells := 0, slots := 0, locals := 0 } : Room)) (fun ay U => ay = #[(.int a), (.int b)] ∧ Z.Warmed39 U.vm ∧ U.heap = h0) (fun _ _ _ _ _ => True) (fun _ U o U' => ∃ v L, o = .returned v ∧ Q5 Z a b h0 n0 v U'.heap L ∧ FrameEnd U o U' L ({ frames := 0, cells := 0, slots := 0, locals := 0 } : Room).cells ({ frames := 0, cells := 0, slots := 0, locals := 0 } : Room).slots) := by
  refine MetFree.of_bodySF (Jvm.Free.JP.mathPlain rfl (by decide +kernel)) hisR ?_
  intro p e s m args below meth c s₁ Bd hml0 hP hK
  obtain ⟨rfl, hZ, hh⟩ := hP
  have hx := Bd.exec
  have hby := Bd.bytes
  have hlk : meth.locks = false := BodyLoose.notSynchronized Bd
  have hml : c.maxLocals = 2 := hml0
  have hown : s.vm.findClass "java/lang/Math" = some m.cls := findClass_of_methodNamed Bd.named
  have hnm := (name_of_methodNamed Bd.named Bd.method).1
  have X0 : Stand p l e ({ frames := 0, cells := 0, slots := 0, locals := 0 } : Room) s m #[(.int a), (.int b)] below meth c s₁ [] 0 0 := Stand.of_body Bd
  have e0 : s₁.heap = h0 := by rw [← hh, Bd.state]; rfl
  have N0 := Fr.nil n0
  suffices hgo : Go p e below s 0 0 (Q5 Z a b h0 n0) (s₁.setTop (mkF m 0 #[.val (.int a), .val (.int b)] [])) by
    obtain ⟨t, o, h1, h2⟩ := hgo; exact ⟨t, o, castTop (ef_rm5 m a b) h1, h2⟩
  show Go p e below s _ _ _ (s₁.setTop (mkF m 0 #[.val (.int a), .val (.int b)] []))
  refine Go.st (fun _ k' => XS.iloadN X0.here hx rfl (hb hby d5_0) rfl k') ?_
  show Go p e below s _ _ _ (s₁.setTop (mkF m 1 #[.val (.int a), .val (.int b)] [(.int a)]))
  refine Go.st (fun _ k' => XS.iloadN X0.here hx rfl (hb hby d5_1) rfl k') ?_
  show Go p e below s _ _ _ (s₁.setTop (mkF m 2 #[.val (.int a), .val (.int b)] [(.int b), (.int a)]))
  by_cases hc1 : b < a
  · refine Go.st (fun _ k' => XS.icmpYes X0.here hx rfl (pc0 := 2) (pc' := 9) rfl (hb hby d5_2) rfl (XT.ii_gt_t hc1) (by decide) (by decide) k') ?_
    show Go p e below s _ _ _ (s₁.setTop (mkF m 9 #[.val (.int a), .val (.int b)] []))
    refine Go.st (fun _ k' => XS.iloadN X0.here hx rfl (hb hby d5_9) rfl k') ?_
    show Go p e below s _ _ _ (s₁.setTop (mkF m 10 #[.val (.int a), .val (.int b)] [(.int b)]))
    refine Go.ret X0 hx hlk (t := .int) Bd.returns rfl (Or.inl ⟨rfl, Or.inl rfl, _, rfl⟩) (hb hby d5_10) (by decide) (by decide) e0 ?_
    exact ⟨(by simp [fmin, hc1]), N0, rfl⟩
  · refine Go.st (fun _ k' => XS.icmpNo X0.here hx rfl (hb hby d5_2) rfl (XT.ii_gt_f hc1) k') ?_
    show Go p e below s _ _ _ (s₁.setTop (mkF m 5 #[.val (.int a), .val (.int b)] []))
    refine Go.st (fun _ k' => XS.iloadN X0.here hx rfl (hb hby d5_5) rfl k') ?_
    show Go p e below s _ _ _ (s₁.setTop (mkF m 6 #[.val (.int a), .val (.int b)] [(.int a)]))
    refine Go.st (fun _ k' => XS.goto X0.here hx rfl (pc0 := 6) (pc' := 10) rfl (hb hby d5_6) (by decide) (by decide) k') ?_
    show Go p e below s _ _ _ (s₁.setTop (mkF m 10 #[.val (.int a), .val (.int b)] [(.int a)]))
    refine Go.ret X0 hx hlk (t := .int) Bd.returns rfl (Or.inl ⟨rfl, Or.inl rfl, _, rfl⟩) (hb hby d5_10) (by decide) (by decide) e0 ?_
    exact ⟨(by simp [fmin, hc1]), N0, rfl⟩
theorem d6_0 : decode prog_11_method_2_code 0 = .ok (.iload_n 1, 1) := by decide +kernel
theorem d6_1 : decode prog_11_method_2_code 1 = .ok (.aload_n 0, 1) := by decide +kernel
theorem d6_2 : decode prog_11_method_2_code 2 = .ok (.getfield 7, 3) := by decide +kernel
theorem d6_5 : decode prog_11_method_2_code 5 = .ok (.if_icmp .lt 15, 3) := by decide +kernel
theorem d6_20 : decode prog_11_method_2_code 20 = .ok (.iconst 0, 1) := by decide +kernel
theorem d6_21 : decode prog_11_method_2_code 21 = .ok (.ireturn, 1) := by decide +kernel
theorem d6_8 : decode prog_11_method_2_code 8 = .ok (.iload_n 1, 1) := by decide +kernel
theorem d6_9 : decode prog_11_method_2_code 9 = .ok (.aload_n 0, 1) := by decide +kernel
theorem d6_10 : decode prog_11_method_2_code 10 = .ok (.getfield 13, 3) := by decide +kernel
theorem d6_13 : decode prog_11_method_2_code 13 = .ok (.if_icmp .gt 7, 3) := by decide +kernel
theorem d6_16 : decode prog_11_method_2_code 16 = .ok (.iconst 1, 1) := by decide +kernel
theorem d6_17 : decode prog_11_method_2_code 17 = .ok (.goto 4, 3) := by decide +kernel
theorem ef_rm6 (m : MethodId) (ob : Addr) (tt : Int32) : entryFrame m #[(.ref ob), (.int tt)] 2 = mkF m 0 #[.val (.ref ob), .val (.int tt)] [] := by first | (simp [entryFrame, mkF, argsToLocals, Value.category]; done) | rfl
def Q6 (Z : State) (ob : Addr) (tt : Int32) (a : Int32) (b : Int32) (h0 : Heap) (n0 : Nat) (v : Option Value) (h : Heap) (L : List Loc) : Prop := v = some (.int (fallow tt a b)) ∧ Fr n0 L ∧ h = h0
set_option maxRecDepth 65536 in
set_option maxHeartbeats 40000000 in
theorem rm6 (l : Launch) (Z : State) (a0 : Array Value) (hw : ∀ d ∈ tables_1, d.before a0 Z = true) (ws : List Jvm.Cond) (ob : Addr) (tt : Int32) (a : Int32) (b : Int32) (h0 : Heap) (n0 : Nat) (O0 : Old Z n0 h0) (F0 : Fld Z h0 ob "com/example/tenure_of_partitions/tenureofpartitions/GroupSettings" "minSessionTimeoutMs" "I" (.int a)) (F1 : Fld Z h0 ob "com/example/tenure_of_partitions/tenureofpartitions/GroupSettings" "maxSessionTimeoutMs" "I" (.int b)) :
    MetFree l (⟨"com/example/tenure_of_partitions/tenureofpartitions/GroupSettings", "allowsSessionTimeout", "(I)Z"⟩ : MethodName) (head1 (Jvm.Cond.code (⟨"com/example/tenure_of_partitions/tenureofpartitions/GroupSettings", "allowsSessionTimeout", "(I)Z"⟩ : MethodName) prog_11_method_2_code 2 (some .boolean) :: ws) ({ frames := 0, cells := 0, slots := 0, locals := 0 } : Room)) (fun ay U => ay = #[(.ref ob), (.int tt)] ∧ Z.Warmed39 U.vm ∧ U.heap = h0) (fun _ _ _ _ _ => True) (fun _ U o U' => ∃ v L, o = .returned v ∧ Q6 Z ob tt a b h0 n0 v U'.heap L ∧ FrameEnd U o U' L ({ frames := 0, cells := 0, slots := 0, locals := 0 } : Room).cells ({ frames := 0, cells := 0, slots := 0, locals := 0 } : Room).slots) := by
  refine MetFree.of_bodySF (plainFor_of_name pn_com_example_tenure_of_partitions_tenureofpartitions_GroupSettings) hisR ?_
  intro p e s m args below meth c s₁ Bd hml0 hP hK
  obtain ⟨rfl, hZ, hh⟩ := hP
  have hx := Bd.exec
  have hby := Bd.bytes
  have hlk : meth.locks = false := BodyLoose.notSynchronized Bd
  have hml : c.maxLocals = 2 := hml0
  have hown : s.vm.findClass "com/example/tenure_of_partitions/tenureofpartitions/GroupSettings" = some m.cls := findClass_of_methodNamed Bd.named
  have hnm := (name_of_methodNamed Bd.named Bd.method).1
  have X0 : Stand p l e ({ frames := 0, cells := 0, slots := 0, locals := 0 } : Room) s m #[(.ref ob), (.int tt)] below meth c s₁ [] 0 0 := Stand.of_body Bd
  have e0 : s₁.heap = h0 := by rw [← hh, Bd.state]; rfl
  have N0 := Fr.nil n0
  suffices hgo : Go p e below s 0 0 (Q6 Z ob tt a b h0 n0) (s₁.setTop (mkF m 0 #[.val (.ref ob), .val (.int tt)] [])) by
    obtain ⟨t, o, h1, h2⟩ := hgo; exact ⟨t, o, castTop (ef_rm6 m ob tt) h1, h2⟩
  show Go p e below s _ _ _ (s₁.setTop (mkF m 0 #[.val (.ref ob), .val (.int tt)] []))
  refine Go.st (fun _ k' => XS.iloadN X0.here hx rfl (hb hby d6_0) rfl k') ?_
  show Go p e below s _ _ _ (s₁.setTop (mkF m 1 #[.val (.ref ob), .val (.int tt)] [(.int tt)]))
  refine Go.st (fun _ k' => XS.aloadN X0.here hx rfl (hb hby d6_1) rfl rfl k') ?_
  show Go p e below s _ _ _ (s₁.setTop (mkF m 2 #[.val (.ref ob), .val (.int tt)] [(.ref ob), (.int tt)]))
  obtain ⟨T1, X1, e1, st1⟩ := getF X0 hx hZ hown (host := "") (Or.inl (wdx hw 9 rfl)) Via.refl e0 F0 (g := (mkF m 2 #[.val (.ref ob), .val (.int tt)] [(.ref ob), (.int tt)])) rfl rfl (hb hby d6_2)
  refine Go.st st1 ?_
  show Go p e below s _ _ _ (T1.setTop (mkF m 5 #[.val (.ref ob), .val (.int tt)] [(.int a), (.int tt)]))
  by_cases hc2 : tt < a
  · refine Go.st (fun _ k' => XS.icmpYes X1.here hx rfl (pc0 := 5) (pc' := 20) rfl (hb hby d6_5) rfl (XT.ii_lt_t hc2) (by decide) (by decide) k') ?_
    show Go p e below s _ _ _ (T1.setTop (mkF m 20 #[.val (.ref ob), .val (.int tt)] []))
    refine Go.st (fun _ k' => XS.iconst X1.here hx rfl (hb hby d6_20) k') ?_
    show Go p e below s _ _ _ (T1.setTop (mkF m 21 #[.val (.ref ob), .val (.int tt)] [(.int (0 : Int32))]))
    refine Go.retB X1 hx hlk (t := .boolean) Bd.returns (by simp) (hb hby d6_21) (by decide) (by decide) e1 ?_
    exact ⟨(by simp [fallow, nar, hc2]), N0, rfl⟩
  · refine Go.st (fun _ k' => XS.icmpNo X1.here hx rfl (hb hby d6_5) rfl (XT.ii_lt_f hc2) k') ?_
    show Go p e below s _ _ _ (T1.setTop (mkF m 8 #[.val (.ref ob), .val (.int tt)] []))
    refine Go.st (fun _ k' => XS.iloadN X1.here hx rfl (hb hby d6_8) rfl k') ?_
    show Go p e below s _ _ _ (T1.setTop (mkF m 9 #[.val (.ref ob), .val (.int tt)] [(.int tt)]))
    refine Go.st (fun _ k' => XS.aloadN X1.here hx rfl (hb hby d6_9) rfl rfl k') ?_
    show Go p e below s _ _ _ (T1.setTop (mkF m 10 #[.val (.ref ob), .val (.int tt)] [(.ref ob), (.int tt)]))
    obtain ⟨T3, X3, e3, st3⟩ := getF X1 hx hZ hown (host := "") (Or.inl (wdx hw 11 rfl)) Via.refl e1 F1 (g := (mkF m 10 #[.val (.ref ob), .val (.int tt)] [(.ref ob), (.int tt)])) rfl rfl (hb hby d6_10)
    refine Go.st st3 ?_
    show Go p e below s _ _ _ (T3.setTop (mkF m 13 #[.val (.ref ob), .val (.int tt)] [(.int b), (.int tt)]))
    by_cases hc4 : b < tt
    · refine Go.st (fun _ k' => XS.icmpYes X3.here hx rfl (pc0 := 13) (pc' := 20) rfl (hb hby d6_13) rfl (XT.ii_gt_t hc4) (by decide) (by decide) k') ?_
      show Go p e below s _ _ _ (T3.setTop (mkF m 20 #[.val (.ref ob), .val (.int tt)] []))
      refine Go.st (fun _ k' => XS.iconst X3.here hx rfl (hb hby d6_20) k') ?_
      show Go p e below s _ _ _ (T3.setTop (mkF m 21 #[.val (.ref ob), .val (.int tt)] [(.int (0 : Int32))]))
      refine Go.retB X3 hx hlk (t := .boolean) Bd.returns (by simp) (hb hby d6_21) (by decide) (by decide) e3 ?_
      exact ⟨(by simp [fallow, nar, hc2, hc4]), N0, rfl⟩
    · refine Go.st (fun _ k' => XS.icmpNo X3.here hx rfl (hb hby d6_13) rfl (XT.ii_gt_f hc4) k') ?_
      show Go p e below s _ _ _ (T3.setTop (mkF m 16 #[.val (.ref ob), .val (.int tt)] []))
      refine Go.st (fun _ k' => XS.iconst X3.here hx rfl (hb hby d6_16) k') ?_
      show Go p e below s _ _ _ (T3.setTop (mkF m 17 #[.val (.ref ob), .val (.int tt)] [(.int (1 : Int32))]))
      refine Go.st (fun _ k' => XS.goto X3.here hx rfl (pc0 := 17) (pc' := 21) rfl (hb hby d6_17) (by decide) (by decide) k') ?_
      show Go p e below s _ _ _ (T3.setTop (mkF m 21 #[.val (.ref ob), .val (.int tt)] [(.int (1 : Int32))]))
      refine Go.retB X3 hx hlk (t := .boolean) Bd.returns (by simp) (hb hby d6_21) (by decide) (by decide) e3 ?_
      exact ⟨(by simp [fallow, nar, hc2, hc4]), N0, rfl⟩
theorem pd__III_V : parseMethodDescriptor "(III)V" = some ⟨[.int, .int, .int], none⟩ := by decide +kernel
theorem pd__IIII_I : parseMethodDescriptor "(IIII)I" = some ⟨[.int, .int, .int, .int], some .int⟩ := by decide +kernel
theorem pd__I_Z : parseMethodDescriptor "(I)Z" = some ⟨[.int], some .boolean⟩ := by decide +kernel
theorem pd__II_I : parseMethodDescriptor "(II)I" = some ⟨[.int, .int], some .int⟩ := by decide +kernel
theorem ef_rm0 (m : MethodId) (mn : Int32) (mx : Int32) (dl : Int32) (xx : Int32) (md : Int32) : entryFrame m #[(.int mn), (.int mx), (.int dl), (.int xx), (.int md)] maxLocals = mkF m 0 #[.val (.int mn), .val (.int mx), .val (.int dl), .val (.int xx), .val (.int md), .unset, .unset, .unset, .unset] [] := by first | (simp [entryFrame, mkF, argsToLocals, Value.category, maxLocals]; done) | rfl
def Q0 (Z : State) (mn : Int32) (mx : Int32) (dl : Int32) (xx : Int32) (md : Int32) (h0 : Heap) (n0 : Nat) (v : Option Value) (h : Heap) (L : List Loc) : Prop := v = some (.int (1 : Int32)) ∧ Fr n0 L ∧ True
set_option maxRecDepth 65536 in
set_option maxHeartbeats 40000000 in
theorem rm0 (l : Launch) (Z : State) (a0 : Array Value) (hw : ∀ d ∈ tables_1, d.before a0 Z = true) (ws : List Jvm.Cond) (mn : Int32) (mx : Int32) (dl : Int32) (xx : Int32) (md : Int32) (h0 : Heap) (n0 : Nat) (O0 : Old Z n0 h0) :
    MetFree l x (head1 (Jvm.Cond.code x code maxLocals ret :: ws) room_1) (fun ay U => ay = #[(.int mn), (.int mx), (.int dl), (.int xx), (.int md)] ∧ Z.Warmed39 U.vm ∧ U.heap = h0) (fun _ _ _ _ _ => True) (fun _ U o U' => ∃ v L, o = .returned v ∧ Q0 Z mn mx dl xx md h0 n0 v U'.heap L ∧ FrameEnd U o U' L room_1.cells room_1.slots) := by
  refine MetFree.of_bodySF (plainFor_of_name pn_com_example_tenure_of_partitions_tenureofpartitions_GroupSettingsAllowsSessionTimeoutPinLaw) hisR ?_
  intro p e s m args below meth c s₁ Bd hml0 hP hK
  obtain ⟨rfl, hZ, hh⟩ := hP
  have hx := Bd.exec
  have hby := Bd.bytes
  have hlk : meth.locks = false := BodyLoose.notSynchronized Bd
  have hml : c.maxLocals = 9 := hml0
  have hown : s.vm.findClass "com/example/tenure_of_partitions/tenureofpartitions/GroupSettingsAllowsSessionTimeoutPinLaw" = some m.cls := findClass_of_methodNamed Bd.named
  have hnm := (name_of_methodNamed Bd.named Bd.method).1
  have X0 : Stand p l e room_1 s m #[(.int mn), (.int mx), (.int dl), (.int xx), (.int md)] below meth c s₁ [] 0 0 := Stand.of_body Bd
  have e0 : s₁.heap = h0 := by rw [← hh, Bd.state]; rfl
  have N0 := Fr.nil n0
  suffices hgo : Go p e below s 16 128 (Q0 Z mn mx dl xx md h0 n0) (s₁.setTop (mkF m 0 #[.val (.int mn), .val (.int mx), .val (.int dl), .val (.int xx), .val (.int md), .unset, .unset, .unset, .unset] [])) by
    obtain ⟨t, o, h1, h2⟩ := hgo; exact ⟨t, o, castTop (ef_rm0 m mn mx dl xx md) h1, h2⟩
  show Go p e below s _ _ _ (s₁.setTop (mkF m 0 #[.val (.int mn), .val (.int mx), .val (.int dl), .val (.int xx), .val (.int md), .unset, .unset, .unset, .unset] []))
  obtain ⟨T1, h1, X1, e1, E1, A1, D1, -, st1⟩ := newO X0 hx hZ hown (wdx hw 0 rfl) (wdx hw 1 rfl) (wdx hw 2 rfl) e0 (g := (mkF m 0 #[.val (.int mn), .val (.int mx), .val (.int dl), .val (.int xx), .val (.int md), .unset, .unset, .unset, .unset] [])) rfl (hb hby at_0) (by decide) (by decide)
  obtain ⟨b1, g1⟩ : ∃ z, z = h0.size := ⟨_, rfl⟩
  rw [← g1] at A1 D1 st1
  refine Go.st st1 ?_
  have g_b1 : n0 ≤ b1 := Nat.le_trans (own_le O0) (Nat.le_of_eq g1.symm)
  have O1 : Old Z n0 h1 := O0.ext E1
  have f2 : Fld Z h1 b1 "com/example/tenure_of_partitions/tenureofpartitions/GroupSettings" "minSessionTimeoutMs" "I" (.int (0 : Int32)) := D1 (Or.inr (wdx hw 10 rfl)) (ty := .int) (by decide)
  have f3 : Fld Z h1 b1 "com/example/tenure_of_partitions/tenureofpartitions/GroupSettings" "maxSessionTimeoutMs" "I" (.int (0 : Int32)) := D1 (Or.inr (wdx hw 12 rfl)) (ty := .int) (by decide)
  have f4 : Fld Z h1 b1 "com/example/tenure_of_partitions/tenureofpartitions/GroupSettings" "initialRebalanceDelayMs" "I" (.int (0 : Int32)) := D1 (Or.inr (wdx hw 14 rfl)) (ty := .int) (by decide)
  show Go p e below s _ _ _ (T1.setTop (mkF m 3 #[.val (.int mn), .val (.int mx), .val (.int dl), .val (.int xx), .val (.int md), .unset, .unset, .unset, .unset] [(.ref b1)]))
  refine Go.st (fun _ k' => XS.dup X1.here hx rfl (hb hby at_3) rfl rfl k') ?_
  show Go p e below s _ _ _ (T1.setTop (mkF m 4 #[.val (.int mn), .val (.int mx), .val (.int dl), .val (.int xx), .val (.int md), .unset, .unset, .unset, .unset] [(.ref b1), (.ref b1)]))
  refine Go.st (fun _ k' => XS.iloadN X1.here hx rfl (hb hby at_4) rfl k') ?_
  show Go p e below s _ _ _ (T1.setTop (mkF m 5 #[.val (.int mn), .val (.int mx), .val (.int dl), .val (.int xx), .val (.int md), .unset, .unset, .unset, .unset] [(.int mn), (.ref b1), (.ref b1)]))
  refine Go.st (fun _ k' => XS.iloadN X1.here hx rfl (hb hby at_5) rfl k') ?_
  show Go p e below s _ _ _ (T1.setTop (mkF m 6 #[.val (.int mn), .val (.int mx), .val (.int dl), .val (.int xx), .val (.int md), .unset, .unset, .unset, .unset] [(.int mx), (.int mn), (.ref b1), (.ref b1)]))
  refine Go.st (fun _ k' => XS.iloadN X1.here hx rfl (hb hby at_6) rfl k') ?_
  show Go p e below s _ _ _ (T1.setTop (mkF m 7 #[.val (.int mn), .val (.int mx), .val (.int dl), .val (.int xx), .val (.int md), .unset, .unset, .unset, .unset] [(.int dl), (.int mx), (.int mn), (.ref b1), (.ref b1)]))
  obtain ⟨_, _, ⟨T5, L5, k5, n5⟩, -, X5, ⟨Lc5, hQ5, l5, y5, z5⟩, st5⟩ := X1.specialBack hx (y := (⟨"com/example/tenure_of_partitions/tenureofpartitions/GroupSettings", "<init>", "(III)V"⟩ : MethodName)) rfl hown (mvT hZ (wdx hw 3 rfl)) (mvT hZ (wdx hw 4 rfl)) (mvT hZ (wdx hw 5 rfl)) (by decide) (backOf (W := 1) (rm1 l Z a0 hw [] b1 mn mx dl h1 n0 O1 A1 f2 f3 f4 g_b1) hZ (wdx hw 5 rfl) (wdx hw 2 rfl) (by decide) (by decide)) (g := (mkF m 7 #[.val (.int mn), .val (.int mx), .val (.int dl), .val (.int xx), .val (.int md), .unset, .unset, .unset, .unset] [(.int dl), (.int mx), (.int mn), (.ref b1), (.ref b1)])) rfl (by rw [hml]; rfl) (Steps.refl _) (a := b1) (argsL := [(.int mn), (.int mx), (.int dl)]) (rest := [(.ref b1)]) (lenOf pd__III_V rfl) rfl (by show 2 * 0 + _ ≤ _; exact Nat.le_of_eq rfl) (hb hby at_7) (fun _ _ => ⟨rfl, e1, (by exact Nat.le_of_ble_eq_true rfl), (by exact Nat.le_of_ble_eq_true rfl)⟩)
  dsimp only [Pt.U, Pt.locs, Pt.cells, Pt.slots] at X5 l5 y5 z5 st5 hQ5
  subst l5 y5 z5
  obtain ⟨rfl, Nq5, Kq5, f6, f7, f8⟩ := hQ5
  have N5 := Fr.app N0 Nq5
  refine Go.tr st5 ?_
  have f9 : Exa Z T5.heap b1 "com/example/tenure_of_partitions/tenureofpartitions/GroupSettings" := A1.keep Kq5
  have O5 : Old Z n0 T5.heap := O1.keep Kq5 (allS g_b1 all0)
  show Go p e below s _ _ _ (T5.setTop (mkF m 10 #[.val (.int mn), .val (.int mx), .val (.int dl), .val (.int xx), .val (.int md), .unset, .unset, .unset, .unset] [(.ref b1)]))
  refine Go.st (fun _ k' => XS.astore X5.here hx rfl (hb hby at_10) rfl rfl (l' := #[.val (.int mn), .val (.int mx), .val (.int dl), .val (.int xx), .val (.int md), .val (.ref b1), .unset, .unset, .unset]) rfl k') ?_
  show Go p e below s _ _ _ (T5.setTop (mkF m 12 #[.val (.int mn), .val (.int mx), .val (.int dl), .val (.int xx), .val (.int md), .val (.ref b1), .unset, .unset, .unset] []))
  refine Go.st (fun _ k' => XS.iload X5.here hx rfl (hb hby at_12) rfl k') ?_
  show Go p e below s _ _ _ (T5.setTop (mkF m 14 #[.val (.int mn), .val (.int mx), .val (.int dl), .val (.int xx), .val (.int md), .val (.ref b1), .unset, .unset, .unset] [(.int md)]))
  refine Go.st (fun _ k' => XS.iloadN X5.here hx rfl (hb hby at_14) rfl k') ?_
  show Go p e below s _ _ _ (T5.setTop (mkF m 15 #[.val (.int mn), .val (.int mx), .val (.int dl), .val (.int xx), .val (.int md), .val (.ref b1), .unset, .unset, .unset] [(.int xx), (.int md)]))
  refine Go.st (fun _ k' => XS.iloadN X5.here hx rfl (hb hby at_15) rfl k') ?_
  show Go p e below s _ _ _ (T5.setTop (mkF m 16 #[.val (.int mn), .val (.int mx), .val (.int dl), .val (.int xx), .val (.int md), .val (.ref b1), .unset, .unset, .unset] [(.int mn), (.int xx), (.int md)]))
  refine Go.st (fun _ k' => XS.iloadN X5.here hx rfl (hb hby at_16) rfl k') ?_
  show Go p e below s _ _ _ (T5.setTop (mkF m 17 #[.val (.int mn), .val (.int mx), .val (.int dl), .val (.int xx), .val (.int md), .val (.ref b1), .unset, .unset, .unset] [(.int mx), (.int mn), (.int xx), (.int md)]))
  obtain ⟨_, _, ⟨T10, L10, k10, n10⟩, -, X10, ⟨Lc10, hQ10, l10, y10, z10⟩, st10⟩ := Jvm.LawKit.callS X5 hx (y := (⟨"com/example/tenure_of_partitions/tenureofpartitions/GroupSettingsAllowsSessionTimeoutPinLaw", "pick", "(IIII)I"⟩ : MethodName)) hown (mvT hZ (wdx hw 15 rfl)) (mvT hZ (wdx hw 16 rfl)) (mvT hZ (wdx hw 17 rfl)) (mvT hZ (wdx hw 18 rfl)) (by decide) (backOf (W := 0) (rm3 l Z a0 hw [] md xx mn mx T5.heap n0 O5 ) hZ (wdx hw 18 rfl) (wdx hw 17 rfl) (by decide) (by decide)) (g := (mkF m 17 #[.val (.int mn), .val (.int mx), .val (.int dl), .val (.int xx), .val (.int md), .val (.ref b1), .unset, .unset, .unset] [(.int mx), (.int mn), (.int xx), (.int md)])) rfl (by rw [hml]; rfl) (argsL := [(.int md), (.int xx), (.int mn), (.int mx)]) (rest := []) (lenOf pd__IIII_I rfl) rfl (by show 2 * 0 + _ ≤ _; exact Nat.le_of_eq rfl) (hb hby at_17) (fun _ _ => ⟨rfl, rfl, (by exact Nat.le_of_ble_eq_true rfl), (by exact Nat.le_of_ble_eq_true rfl)⟩)
  dsimp only [Pt.U, Pt.locs, Pt.cells, Pt.slots] at X10 l10 y10 z10 st10 hQ10
  subst l10 y10 z10
  obtain ⟨rfl, Nq10, eq10⟩ := hQ10
  have N10 := Fr.app N5 Nq10
  refine Go.st st10 ?_
  show Go p e below s _ _ _ (T10.setTop (mkF m 20 #[.val (.int mn), .val (.int mx), .val (.int dl), .val (.int xx), .val (.int md), .val (.ref b1), .unset, .unset, .unset] [(.int (fpick md xx mn mx))]))
  refine Go.st (fun _ k' => XS.istore X10.here hx rfl (hb hby at_20) rfl (l' := #[.val (.int mn), .val (.int mx), .val (.int dl), .val (.int xx), .val (.int md), .val (.ref b1), .val (.int (fpick md xx mn mx)), .unset, .unset]) rfl k') ?_
  show Go p e below s _ _ _ (T10.setTop (mkF m 22 #[.val (.int mn), .val (.int mx), .val (.int dl), .val (.int xx), .val (.int md), .val (.ref b1), .val (.int (fpick md xx mn mx)), .unset, .unset] []))
  refine Go.st (fun _ k' => XS.iloadN X10.here hx rfl (hb hby at_22) rfl k') ?_
  show Go p e below s _ _ _ (T10.setTop (mkF m 23 #[.val (.int mn), .val (.int mx), .val (.int dl), .val (.int xx), .val (.int md), .val (.ref b1), .val (.int (fpick md xx mn mx)), .unset, .unset] [(.int mn)]))
  refine Go.st (fun _ k' => XS.iloadN X10.here hx rfl (hb hby at_23) rfl k') ?_
  show Go p e below s _ _ _ (T10.setTop (mkF m 24 #[.val (.int mn), .val (.int mx), .val (.int dl), .val (.int xx), .val (.int md), .val (.ref b1), .val (.int (fpick md xx mn mx)), .unset, .unset] [(.int mx), (.int mn)]))
  by_cases hc11 : mx < mn
  · refine Go.st (fun _ k' => XS.icmpYes X10.here hx rfl (pc0 := 24) (pc' := 46) rfl (hb hby at_24) rfl (XT.ii_gt_t hc11) (by decide) (by decide) k') ?_
    show Go p e below s _ _ _ (T10.setTop (mkF m 46 #[.val (.int mn), .val (.int mx), .val (.int dl), .val (.int xx), .val (.int md), .val (.ref b1), .val (.int (fpick md xx mn mx)), .unset, .unset] []))
    refine Go.st (fun _ k' => XS.iconst X10.here hx rfl (hb hby at_46) k') ?_
    show Go p e below s _ _ _ (T10.setTop (mkF m 47 #[.val (.int mn), .val (.int mx), .val (.int dl), .val (.int xx), .val (.int md), .val (.ref b1), .val (.int (fpick md xx mn mx)), .unset, .unset] [(.int (0 : Int32))]))
    refine Go.st (fun _ k' => XS.istore X10.here hx rfl (hb hby at_47) rfl (l' := #[.val (.int mn), .val (.int mx), .val (.int dl), .val (.int xx), .val (.int md), .val (.ref b1), .val (.int (fpick md xx mn mx)), .val (.int (0 : Int32)), .unset]) rfl k') ?_
    show Go p e below s _ _ _ (T10.setTop (mkF m 49 #[.val (.int mn), .val (.int mx), .val (.int dl), .val (.int xx), .val (.int md), .val (.ref b1), .val (.int (fpick md xx mn mx)), .val (.int (0 : Int32)), .unset] []))
    refine Go.st (fun _ k' => XS.aload X10.here hx rfl (hb hby at_49) rfl rfl k') ?_
    show Go p e below s _ _ _ (T10.setTop (mkF m 51 #[.val (.int mn), .val (.int mx), .val (.int dl), .val (.int xx), .val (.int md), .val (.ref b1), .val (.int (fpick md xx mn mx)), .val (.int (0 : Int32)), .unset] [(.ref b1)]))
    refine Go.st (fun _ k' => XS.iload X10.here hx rfl (hb hby at_51) rfl k') ?_
    show Go p e below s _ _ _ (T10.setTop (mkF m 53 #[.val (.int mn), .val (.int mx), .val (.int dl), .val (.int xx), .val (.int md), .val (.ref b1), .val (.int (fpick md xx mn mx)), .val (.int (0 : Int32)), .unset] [(.int (fpick md xx mn mx)), (.ref b1)]))
    obtain ⟨cq12, kq12, q12a, q12b, q12c⟩ := isOf hZ eq10 f9
    obtain ⟨_, _, ⟨T12, L12, k12, n12⟩, -, X12, ⟨Lc12, hQ12, l12, y12, z12⟩, st12⟩ := X10.virtualBack hx (y := (⟨"com/example/tenure_of_partitions/tenureofpartitions/GroupSettings", "allowsSessionTimeout", "(I)Z"⟩ : MethodName)) (z := (⟨"com/example/tenure_of_partitions/tenureofpartitions/GroupSettings", "allowsSessionTimeout", "(I)Z"⟩ : MethodName)) hown (mvT hZ (wdx hw 26 rfl)) (mvT hZ (wdx hw 27 rfl)) (notFace_of_selects (args := #[]) (mvT hZ (wdx hw 29 rfl))) (mvT hZ (wdx hw 29 rfl)) (mvT hZ (wdx hw 28 rfl)) (by decide) (backOf (W := 0) (rm6 l Z a0 hw [] b1 (fpick md xx mn mx) mn mx T5.heap n0 O5 f6 f7) hZ (wdx hw 30 rfl) (wdx hw 2 rfl) (by decide) (by decide)) q12a q12c (g := (mkF m 53 #[.val (.int mn), .val (.int mx), .val (.int dl), .val (.int xx), .val (.int md), .val (.ref b1), .val (.int (fpick md xx mn mx)), .val (.int (0 : Int32)), .unset] [(.int (fpick md xx mn mx)), (.ref b1)])) rfl (by rw [hml]; rfl) (Steps.refl _) (argsL := [(.int (fpick md xx mn mx))]) (rest := []) (lenOf pd__I_Z rfl) rfl (by show 2 * 0 + _ ≤ _; exact Nat.le_of_eq rfl) (hb hby at_53) (fun _ _ => ⟨rfl, eq10, (by exact Nat.le_of_ble_eq_true rfl), (by exact Nat.le_of_ble_eq_true rfl)⟩)
    dsimp only [Pt.U, Pt.locs, Pt.cells, Pt.slots] at X12 l12 y12 z12 st12 hQ12
    subst l12 y12 z12
    obtain ⟨rfl, Nq12, eq12⟩ := hQ12
    have N12 := Fr.app N10 Nq12
    refine Go.tr st12 ?_
    show Go p e below s _ _ _ (T12.setTop (mkF m 56 #[.val (.int mn), .val (.int mx), .val (.int dl), .val (.int xx), .val (.int md), .val (.ref b1), .val (.int (fpick md xx mn mx)), .val (.int (0 : Int32)), .unset] [(.int (fallow (fpick md xx mn mx) mn mx))]))
    refine Go.st (fun _ k' => XS.istore X12.here hx rfl (hb hby at_56) rfl (l' := #[.val (.int mn), .val (.int mx), .val (.int dl), .val (.int xx), .val (.int md), .val (.ref b1), .val (.int (fpick md xx mn mx)), .val (.int (0 : Int32)), .val (.int (fallow (fpick md xx mn mx) mn mx))]) rfl k') ?_
    show Go p e below s _ _ _ (T12.setTop (mkF m 58 #[.val (.int mn), .val (.int mx), .val (.int dl), .val (.int xx), .val (.int md), .val (.ref b1), .val (.int (fpick md xx mn mx)), .val (.int (0 : Int32)), .val (.int (fallow (fpick md xx mn mx) mn mx))] []))
    refine Go.st (fun _ k' => XS.iload X12.here hx rfl (hb hby at_58) rfl k') ?_
    show Go p e below s _ _ _ (T12.setTop (mkF m 60 #[.val (.int mn), .val (.int mx), .val (.int dl), .val (.int xx), .val (.int md), .val (.ref b1), .val (.int (fpick md xx mn mx)), .val (.int (0 : Int32)), .val (.int (fallow (fpick md xx mn mx) mn mx))] [(.int (fallow (fpick md xx mn mx) mn mx))]))
    refine Go.st (fun _ k' => XS.iload X12.here hx rfl (hb hby at_60) rfl k') ?_
    show Go p e below s _ _ _ (T12.setTop (mkF m 62 #[.val (.int mn), .val (.int mx), .val (.int dl), .val (.int xx), .val (.int md), .val (.ref b1), .val (.int (fpick md xx mn mx)), .val (.int (0 : Int32)), .val (.int (fallow (fpick md xx mn mx) mn mx))] [(.int (0 : Int32)), (.int (fallow (fpick md xx mn mx) mn mx))]))
    by_cases hc13 : (fallow (fpick md xx mn mx) mn mx) = (0 : Int32)
    · refine Go.st (fun _ k' => XS.icmpNo X12.here hx rfl (hb hby at_62) rfl (XT.ii_ne_f hc13) k') ?_
      show Go p e below s _ _ _ (T12.setTop (mkF m 65 #[.val (.int mn), .val (.int mx), .val (.int dl), .val (.int xx), .val (.int md), .val (.ref b1), .val (.int (fpick md xx mn mx)), .val (.int (0 : Int32)), .val (.int (fallow (fpick md xx mn mx) mn mx))] []))
      refine Go.st (fun _ k' => XS.iconst X12.here hx rfl (hb hby at_65) k') ?_
      show Go p e below s _ _ _ (T12.setTop (mkF m 66 #[.val (.int mn), .val (.int mx), .val (.int dl), .val (.int xx), .val (.int md), .val (.ref b1), .val (.int (fpick md xx mn mx)), .val (.int (0 : Int32)), .val (.int (fallow (fpick md xx mn mx) mn mx))] [(.int (1 : Int32))]))
      refine Go.st (fun _ k' => XS.goto X12.here hx rfl (pc0 := 66) (pc' := 70) rfl (hb hby at_66) (by decide) (by decide) k') ?_
      show Go p e below s _ _ _ (T12.setTop (mkF m 70 #[.val (.int mn), .val (.int mx), .val (.int dl), .val (.int xx), .val (.int md), .val (.ref b1), .val (.int (fpick md xx mn mx)), .val (.int (0 : Int32)), .val (.int (fallow (fpick md xx mn mx) mn mx))] [(.int (1 : Int32))]))
      refine Go.retB X12 hx hlk (t := .boolean) Bd.returns (by simp) (hb hby at_70) (by decide) (by decide) eq12 ?_
      exact ⟨rfl, N12, trivial⟩
    · refine Go.st (fun _ k' => XS.icmpYes X12.here hx rfl (pc0 := 62) (pc' := 69) rfl (hb hby at_62) rfl (XT.ii_ne_t hc13) (by decide) (by decide) k') ?_
      show Go p e below s _ _ _ (T12.setTop (mkF m 69 #[.val (.int mn), .val (.int mx), .val (.int dl), .val (.int xx), .val (.int md), .val (.ref b1), .val (.int (fpick md xx mn mx)), .val (.int (0 : Int32)), .val (.int (fallow (fpick md xx mn mx) mn mx))] []))
      refine Go.st (fun _ k' => XS.iconst X12.here hx rfl (hb hby at_69) k') ?_
      show Go p e below s _ _ _ (T12.setTop (mkF m 70 #[.val (.int mn), .val (.int mx), .val (.int dl), .val (.int xx), .val (.int md), .val (.ref b1), .val (.int (fpick md xx mn mx)), .val (.int (0 : Int32)), .val (.int (fallow (fpick md xx mn mx) mn mx))] [(.int (0 : Int32))]))
      refine Go.retB X12 hx hlk (t := .boolean) Bd.returns (by simp) (hb hby at_70) (by decide) (by decide) eq12 ?_
      exact absurd ((own_law _ _ _).trans (by simp [hc11])) hc13
  · refine Go.st (fun _ k' => XS.icmpNo X10.here hx rfl (hb hby at_24) rfl (XT.ii_gt_f hc11) k') ?_
    show Go p e below s _ _ _ (T10.setTop (mkF m 27 #[.val (.int mn), .val (.int mx), .val (.int dl), .val (.int xx), .val (.int md), .val (.ref b1), .val (.int (fpick md xx mn mx)), .unset, .unset] []))
    refine Go.st (fun _ k' => XS.iload X10.here hx rfl (hb hby at_27) rfl k') ?_
    show Go p e below s _ _ _ (T10.setTop (mkF m 29 #[.val (.int mn), .val (.int mx), .val (.int dl), .val (.int xx), .val (.int md), .val (.ref b1), .val (.int (fpick md xx mn mx)), .unset, .unset] [(.int (fpick md xx mn mx))]))
    refine Go.st (fun _ k' => XS.iloadN X10.here hx rfl (hb hby at_29) rfl k') ?_
    show Go p e below s _ _ _ (T10.setTop (mkF m 30 #[.val (.int mn), .val (.int mx), .val (.int dl), .val (.int xx), .val (.int md), .val (.ref b1), .val (.int (fpick md xx mn mx)), .unset, .unset] [(.int mn), (.int (fpick md xx mn mx))]))
    obtain ⟨_, _, ⟨T14, L14, k14, n14⟩, -, X14, ⟨Lc14, hQ14, l14, y14, z14⟩, st14⟩ := Jvm.LawKit.callS X10 hx (y := (⟨"java/lang/Math", "max", "(II)I"⟩ : MethodName)) hown (mvT hZ (wdx hw 19 rfl)) (mvT hZ (wdx hw 20 rfl)) (mvT hZ (wdx hw 21 rfl)) (mvT hZ (wdx hw 22 rfl)) (by decide) (backOf (W := 0) (rm4 l Z a0 hw [] (fpick md xx mn mx) mn T5.heap n0 O5 ) hZ (wdx hw 22 rfl) (wdx hw 21 rfl) (by decide) (by decide)) (g := (mkF m 30 #[.val (.int mn), .val (.int mx), .val (.int dl), .val (.int xx), .val (.int md), .val (.ref b1), .val (.int (fpick md xx mn mx)), .unset, .unset] [(.int mn), (.int (fpick md xx mn mx))])) rfl (by rw [hml]; rfl) (argsL := [(.int (fpick md xx mn mx)), (.int mn)]) (rest := []) (lenOf pd__II_I rfl) rfl (by show 2 * 0 + _ ≤ _; exact Nat.le_of_eq rfl) (hb hby at_30) (fun _ _ => ⟨rfl, eq10, (by exact Nat.le_of_ble_eq_true rfl), (by exact Nat.le_of_ble_eq_true rfl)⟩)
    dsimp only [Pt.U, Pt.locs, Pt.cells, Pt.slots] at X14 l14 y14 z14 st14 hQ14
    subst l14 y14 z14
    obtain ⟨rfl, Nq14, eq14⟩ := hQ14
    have N14 := Fr.app N10 Nq14
    refine Go.st st14 ?_
    show Go p e below s _ _ _ (T14.setTop (mkF m 33 #[.val (.int mn), .val (.int mx), .val (.int dl), .val (.int xx), .val (.int md), .val (.ref b1), .val (.int (fpick md xx mn mx)), .unset, .unset] [(.int (fmax (fpick md xx mn mx) mn))]))
    refine Go.st (fun _ k' => XS.iloadN X14.here hx rfl (hb hby at_33) rfl k') ?_
    show Go p e below s _ _ _ (T14.setTop (mkF m 34 #[.val (.int mn), .val (.int mx), .val (.int dl), .val (.int xx), .val (.int md), .val (.ref b1), .val (.int (fpick md xx mn mx)), .unset, .unset] [(.int mx), (.int (fmax (fpick md xx mn mx) mn))]))
    obtain ⟨_, _, ⟨T15, L15, k15, n15⟩, -, X15, ⟨Lc15, hQ15, l15, y15, z15⟩, st15⟩ := Jvm.LawKit.callS X14 hx (y := (⟨"java/lang/Math", "min", "(II)I"⟩ : MethodName)) hown (mvT hZ (wdx hw 23 rfl)) (mvT hZ (wdx hw 24 rfl)) (mvT hZ (wdx hw 21 rfl)) (mvT hZ (wdx hw 25 rfl)) (by decide) (backOf (W := 0) (rm5 l Z a0 hw [] (fmax (fpick md xx mn mx) mn) mx T5.heap n0 O5 ) hZ (wdx hw 25 rfl) (wdx hw 21 rfl) (by decide) (by decide)) (g := (mkF m 34 #[.val (.int mn), .val (.int mx), .val (.int dl), .val (.int xx), .val (.int md), .val (.ref b1), .val (.int (fpick md xx mn mx)), .unset, .unset] [(.int mx), (.int (fmax (fpick md xx mn mx) mn))])) rfl (by rw [hml]; rfl) (argsL := [(.int (fmax (fpick md xx mn mx) mn)), (.int mx)]) (rest := []) (lenOf pd__II_I rfl) rfl (by show 2 * 0 + _ ≤ _; exact Nat.le_of_eq rfl) (hb hby at_34) (fun _ _ => ⟨rfl, eq14, (by exact Nat.le_of_ble_eq_true rfl), (by exact Nat.le_of_ble_eq_true rfl)⟩)
    dsimp only [Pt.U, Pt.locs, Pt.cells, Pt.slots] at X15 l15 y15 z15 st15 hQ15
    subst l15 y15 z15
    obtain ⟨rfl, Nq15, eq15⟩ := hQ15
    have N15 := Fr.app N14 Nq15
    refine Go.st st15 ?_
    show Go p e below s _ _ _ (T15.setTop (mkF m 37 #[.val (.int mn), .val (.int mx), .val (.int dl), .val (.int xx), .val (.int md), .val (.ref b1), .val (.int (fpick md xx mn mx)), .unset, .unset] [(.int (fmin (fmax (fpick md xx mn mx) mn) mx))]))
    refine Go.st (fun _ k' => XS.iload X15.here hx rfl (hb hby at_37) rfl k') ?_
    show Go p e below s _ _ _ (T15.setTop (mkF m 39 #[.val (.int mn), .val (.int mx), .val (.int dl), .val (.int xx), .val (.int md), .val (.ref b1), .val (.int (fpick md xx mn mx)), .unset, .unset] [(.int (fpick md xx mn mx)), (.int (fmin (fmax (fpick md xx mn mx) mn) mx))]))
    by_cases hc16 : (fmin (fmax (fpick md xx mn mx) mn) mx) = (fpick md xx mn mx)
    · refine Go.st (fun _ k' => XS.icmpNo X15.here hx rfl (hb hby at_39) rfl (XT.ii_ne_f hc16) k') ?_
      show Go p e below s _ _ _ (T15.setTop (mkF m 42 #[.val (.int mn), .val (.int mx), .val (.int dl), .val (.int xx), .val (.int md), .val (.ref b1), .val (.int (fpick md xx mn mx)), .unset, .unset] []))
      refine Go.st (fun _ k' => XS.iconst X15.here hx rfl (hb hby at_42) k') ?_
      show Go p e below s _ _ _ (T15.setTop (mkF m 43 #[.val (.int mn), .val (.int mx), .val (.int dl), .val (.int xx), .val (.int md), .val (.ref b1), .val (.int (fpick md xx mn mx)), .unset, .unset] [(.int (1 : Int32))]))
      refine Go.st (fun _ k' => XS.goto X15.here hx rfl (pc0 := 43) (pc' := 47) rfl (hb hby at_43) (by decide) (by decide) k') ?_
      show Go p e below s _ _ _ (T15.setTop (mkF m 47 #[.val (.int mn), .val (.int mx), .val (.int dl), .val (.int xx), .val (.int md), .val (.ref b1), .val (.int (fpick md xx mn mx)), .unset, .unset] [(.int (1 : Int32))]))
      refine Go.st (fun _ k' => XS.istore X15.here hx rfl (hb hby at_47) rfl (l' := #[.val (.int mn), .val (.int mx), .val (.int dl), .val (.int xx), .val (.int md), .val (.ref b1), .val (.int (fpick md xx mn mx)), .val (.int (1 : Int32)), .unset]) rfl k') ?_
      show Go p e below s _ _ _ (T15.setTop (mkF m 49 #[.val (.int mn), .val (.int mx), .val (.int dl), .val (.int xx), .val (.int md), .val (.ref b1), .val (.int (fpick md xx mn mx)), .val (.int (1 : Int32)), .unset] []))
      refine Go.st (fun _ k' => XS.aload X15.here hx rfl (hb hby at_49) rfl rfl k') ?_
      show Go p e below s _ _ _ (T15.setTop (mkF m 51 #[.val (.int mn), .val (.int mx), .val (.int dl), .val (.int xx), .val (.int md), .val (.ref b1), .val (.int (fpick md xx mn mx)), .val (.int (1 : Int32)), .unset] [(.ref b1)]))
      refine Go.st (fun _ k' => XS.iload X15.here hx rfl (hb hby at_51) rfl k') ?_
      show Go p e below s _ _ _ (T15.setTop (mkF m 53 #[.val (.int mn), .val (.int mx), .val (.int dl), .val (.int xx), .val (.int md), .val (.ref b1), .val (.int (fpick md xx mn mx)), .val (.int (1 : Int32)), .unset] [(.int (fpick md xx mn mx)), (.ref b1)]))
      obtain ⟨cq17, kq17, q17a, q17b, q17c⟩ := isOf hZ eq15 f9
      obtain ⟨_, _, ⟨T17, L17, k17, n17⟩, -, X17, ⟨Lc17, hQ17, l17, y17, z17⟩, st17⟩ := X15.virtualBack hx (y := (⟨"com/example/tenure_of_partitions/tenureofpartitions/GroupSettings", "allowsSessionTimeout", "(I)Z"⟩ : MethodName)) (z := (⟨"com/example/tenure_of_partitions/tenureofpartitions/GroupSettings", "allowsSessionTimeout", "(I)Z"⟩ : MethodName)) hown (mvT hZ (wdx hw 26 rfl)) (mvT hZ (wdx hw 27 rfl)) (notFace_of_selects (args := #[]) (mvT hZ (wdx hw 29 rfl))) (mvT hZ (wdx hw 29 rfl)) (mvT hZ (wdx hw 28 rfl)) (by decide) (backOf (W := 0) (rm6 l Z a0 hw [] b1 (fpick md xx mn mx) mn mx T5.heap n0 O5 f6 f7) hZ (wdx hw 30 rfl) (wdx hw 2 rfl) (by decide) (by decide)) q17a q17c (g := (mkF m 53 #[.val (.int mn), .val (.int mx), .val (.int dl), .val (.int xx), .val (.int md), .val (.ref b1), .val (.int (fpick md xx mn mx)), .val (.int (1 : Int32)), .unset] [(.int (fpick md xx mn mx)), (.ref b1)])) rfl (by rw [hml]; rfl) (Steps.refl _) (argsL := [(.int (fpick md xx mn mx))]) (rest := []) (lenOf pd__I_Z rfl) rfl (by show 2 * 0 + _ ≤ _; exact Nat.le_of_eq rfl) (hb hby at_53) (fun _ _ => ⟨rfl, eq15, (by exact Nat.le_of_ble_eq_true rfl), (by exact Nat.le_of_ble_eq_true rfl)⟩)
      dsimp only [Pt.U, Pt.locs, Pt.cells, Pt.slots] at X17 l17 y17 z17 st17 hQ17
      subst l17 y17 z17
      obtain ⟨rfl, Nq17, eq17⟩ := hQ17
      have N17 := Fr.app N15 Nq17
      refine Go.tr st17 ?_
      show Go p e below s _ _ _ (T17.setTop (mkF m 56 #[.val (.int mn), .val (.int mx), .val (.int dl), .val (.int xx), .val (.int md), .val (.ref b1), .val (.int (fpick md xx mn mx)), .val (.int (1 : Int32)), .unset] [(.int (fallow (fpick md xx mn mx) mn mx))]))
      refine Go.st (fun _ k' => XS.istore X17.here hx rfl (hb hby at_56) rfl (l' := #[.val (.int mn), .val (.int mx), .val (.int dl), .val (.int xx), .val (.int md), .val (.ref b1), .val (.int (fpick md xx mn mx)), .val (.int (1 : Int32)), .val (.int (fallow (fpick md xx mn mx) mn mx))]) rfl k') ?_
      show Go p e below s _ _ _ (T17.setTop (mkF m 58 #[.val (.int mn), .val (.int mx), .val (.int dl), .val (.int xx), .val (.int md), .val (.ref b1), .val (.int (fpick md xx mn mx)), .val (.int (1 : Int32)), .val (.int (fallow (fpick md xx mn mx) mn mx))] []))
      refine Go.st (fun _ k' => XS.iload X17.here hx rfl (hb hby at_58) rfl k') ?_
      show Go p e below s _ _ _ (T17.setTop (mkF m 60 #[.val (.int mn), .val (.int mx), .val (.int dl), .val (.int xx), .val (.int md), .val (.ref b1), .val (.int (fpick md xx mn mx)), .val (.int (1 : Int32)), .val (.int (fallow (fpick md xx mn mx) mn mx))] [(.int (fallow (fpick md xx mn mx) mn mx))]))
      refine Go.st (fun _ k' => XS.iload X17.here hx rfl (hb hby at_60) rfl k') ?_
      show Go p e below s _ _ _ (T17.setTop (mkF m 62 #[.val (.int mn), .val (.int mx), .val (.int dl), .val (.int xx), .val (.int md), .val (.ref b1), .val (.int (fpick md xx mn mx)), .val (.int (1 : Int32)), .val (.int (fallow (fpick md xx mn mx) mn mx))] [(.int (1 : Int32)), (.int (fallow (fpick md xx mn mx) mn mx))]))
      by_cases hc18 : (fallow (fpick md xx mn mx) mn mx) = (1 : Int32)
      · refine Go.st (fun _ k' => XS.icmpNo X17.here hx rfl (hb hby at_62) rfl (XT.ii_ne_f hc18) k') ?_
        show Go p e below s _ _ _ (T17.setTop (mkF m 65 #[.val (.int mn), .val (.int mx), .val (.int dl), .val (.int xx), .val (.int md), .val (.ref b1), .val (.int (fpick md xx mn mx)), .val (.int (1 : Int32)), .val (.int (fallow (fpick md xx mn mx) mn mx))] []))
        refine Go.st (fun _ k' => XS.iconst X17.here hx rfl (hb hby at_65) k') ?_
        show Go p e below s _ _ _ (T17.setTop (mkF m 66 #[.val (.int mn), .val (.int mx), .val (.int dl), .val (.int xx), .val (.int md), .val (.ref b1), .val (.int (fpick md xx mn mx)), .val (.int (1 : Int32)), .val (.int (fallow (fpick md xx mn mx) mn mx))] [(.int (1 : Int32))]))
        refine Go.st (fun _ k' => XS.goto X17.here hx rfl (pc0 := 66) (pc' := 70) rfl (hb hby at_66) (by decide) (by decide) k') ?_
        show Go p e below s _ _ _ (T17.setTop (mkF m 70 #[.val (.int mn), .val (.int mx), .val (.int dl), .val (.int xx), .val (.int md), .val (.ref b1), .val (.int (fpick md xx mn mx)), .val (.int (1 : Int32)), .val (.int (fallow (fpick md xx mn mx) mn mx))] [(.int (1 : Int32))]))
        refine Go.retB X17 hx hlk (t := .boolean) Bd.returns (by simp) (hb hby at_70) (by decide) (by decide) eq17 ?_
        exact ⟨rfl, N17, trivial⟩
      · refine Go.st (fun _ k' => XS.icmpYes X17.here hx rfl (pc0 := 62) (pc' := 69) rfl (hb hby at_62) rfl (XT.ii_ne_t hc18) (by decide) (by decide) k') ?_
        show Go p e below s _ _ _ (T17.setTop (mkF m 69 #[.val (.int mn), .val (.int mx), .val (.int dl), .val (.int xx), .val (.int md), .val (.ref b1), .val (.int (fpick md xx mn mx)), .val (.int (1 : Int32)), .val (.int (fallow (fpick md xx mn mx) mn mx))] []))
        refine Go.st (fun _ k' => XS.iconst X17.here hx rfl (hb hby at_69) k') ?_
        show Go p e below s _ _ _ (T17.setTop (mkF m 70 #[.val (.int mn), .val (.int mx), .val (.int dl), .val (.int xx), .val (.int md), .val (.ref b1), .val (.int (fpick md xx mn mx)), .val (.int (1 : Int32)), .val (.int (fallow (fpick md xx mn mx) mn mx))] [(.int (0 : Int32))]))
        refine Go.retB X17 hx hlk (t := .boolean) Bd.returns (by simp) (hb hby at_70) (by decide) (by decide) eq17 ?_
        exact absurd ((own_law _ _ _).trans (by simp [hc11, hc16])) hc18
    · refine Go.st (fun _ k' => XS.icmpYes X15.here hx rfl (pc0 := 39) (pc' := 46) rfl (hb hby at_39) rfl (XT.ii_ne_t hc16) (by decide) (by decide) k') ?_
      show Go p e below s _ _ _ (T15.setTop (mkF m 46 #[.val (.int mn), .val (.int mx), .val (.int dl), .val (.int xx), .val (.int md), .val (.ref b1), .val (.int (fpick md xx mn mx)), .unset, .unset] []))
      refine Go.st (fun _ k' => XS.iconst X15.here hx rfl (hb hby at_46) k') ?_
      show Go p e below s _ _ _ (T15.setTop (mkF m 47 #[.val (.int mn), .val (.int mx), .val (.int dl), .val (.int xx), .val (.int md), .val (.ref b1), .val (.int (fpick md xx mn mx)), .unset, .unset] [(.int (0 : Int32))]))
      refine Go.st (fun _ k' => XS.istore X15.here hx rfl (hb hby at_47) rfl (l' := #[.val (.int mn), .val (.int mx), .val (.int dl), .val (.int xx), .val (.int md), .val (.ref b1), .val (.int (fpick md xx mn mx)), .val (.int (0 : Int32)), .unset]) rfl k') ?_
      show Go p e below s _ _ _ (T15.setTop (mkF m 49 #[.val (.int mn), .val (.int mx), .val (.int dl), .val (.int xx), .val (.int md), .val (.ref b1), .val (.int (fpick md xx mn mx)), .val (.int (0 : Int32)), .unset] []))
      refine Go.st (fun _ k' => XS.aload X15.here hx rfl (hb hby at_49) rfl rfl k') ?_
      show Go p e below s _ _ _ (T15.setTop (mkF m 51 #[.val (.int mn), .val (.int mx), .val (.int dl), .val (.int xx), .val (.int md), .val (.ref b1), .val (.int (fpick md xx mn mx)), .val (.int (0 : Int32)), .unset] [(.ref b1)]))
      refine Go.st (fun _ k' => XS.iload X15.here hx rfl (hb hby at_51) rfl k') ?_
      show Go p e below s _ _ _ (T15.setTop (mkF m 53 #[.val (.int mn), .val (.int mx), .val (.int dl), .val (.int xx), .val (.int md), .val (.ref b1), .val (.int (fpick md xx mn mx)), .val (.int (0 : Int32)), .unset] [(.int (fpick md xx mn mx)), (.ref b1)]))
      obtain ⟨cq19, kq19, q19a, q19b, q19c⟩ := isOf hZ eq15 f9
      obtain ⟨_, _, ⟨T19, L19, k19, n19⟩, -, X19, ⟨Lc19, hQ19, l19, y19, z19⟩, st19⟩ := X15.virtualBack hx (y := (⟨"com/example/tenure_of_partitions/tenureofpartitions/GroupSettings", "allowsSessionTimeout", "(I)Z"⟩ : MethodName)) (z := (⟨"com/example/tenure_of_partitions/tenureofpartitions/GroupSettings", "allowsSessionTimeout", "(I)Z"⟩ : MethodName)) hown (mvT hZ (wdx hw 26 rfl)) (mvT hZ (wdx hw 27 rfl)) (notFace_of_selects (args := #[]) (mvT hZ (wdx hw 29 rfl))) (mvT hZ (wdx hw 29 rfl)) (mvT hZ (wdx hw 28 rfl)) (by decide) (backOf (W := 0) (rm6 l Z a0 hw [] b1 (fpick md xx mn mx) mn mx T5.heap n0 O5 f6 f7) hZ (wdx hw 30 rfl) (wdx hw 2 rfl) (by decide) (by decide)) q19a q19c (g := (mkF m 53 #[.val (.int mn), .val (.int mx), .val (.int dl), .val (.int xx), .val (.int md), .val (.ref b1), .val (.int (fpick md xx mn mx)), .val (.int (0 : Int32)), .unset] [(.int (fpick md xx mn mx)), (.ref b1)])) rfl (by rw [hml]; rfl) (Steps.refl _) (argsL := [(.int (fpick md xx mn mx))]) (rest := []) (lenOf pd__I_Z rfl) rfl (by show 2 * 0 + _ ≤ _; exact Nat.le_of_eq rfl) (hb hby at_53) (fun _ _ => ⟨rfl, eq15, (by exact Nat.le_of_ble_eq_true rfl), (by exact Nat.le_of_ble_eq_true rfl)⟩)
      dsimp only [Pt.U, Pt.locs, Pt.cells, Pt.slots] at X19 l19 y19 z19 st19 hQ19
      subst l19 y19 z19
      obtain ⟨rfl, Nq19, eq19⟩ := hQ19
      have N19 := Fr.app N15 Nq19
      refine Go.tr st19 ?_
      show Go p e below s _ _ _ (T19.setTop (mkF m 56 #[.val (.int mn), .val (.int mx), .val (.int dl), .val (.int xx), .val (.int md), .val (.ref b1), .val (.int (fpick md xx mn mx)), .val (.int (0 : Int32)), .unset] [(.int (fallow (fpick md xx mn mx) mn mx))]))
      refine Go.st (fun _ k' => XS.istore X19.here hx rfl (hb hby at_56) rfl (l' := #[.val (.int mn), .val (.int mx), .val (.int dl), .val (.int xx), .val (.int md), .val (.ref b1), .val (.int (fpick md xx mn mx)), .val (.int (0 : Int32)), .val (.int (fallow (fpick md xx mn mx) mn mx))]) rfl k') ?_
      show Go p e below s _ _ _ (T19.setTop (mkF m 58 #[.val (.int mn), .val (.int mx), .val (.int dl), .val (.int xx), .val (.int md), .val (.ref b1), .val (.int (fpick md xx mn mx)), .val (.int (0 : Int32)), .val (.int (fallow (fpick md xx mn mx) mn mx))] []))
      refine Go.st (fun _ k' => XS.iload X19.here hx rfl (hb hby at_58) rfl k') ?_
      show Go p e below s _ _ _ (T19.setTop (mkF m 60 #[.val (.int mn), .val (.int mx), .val (.int dl), .val (.int xx), .val (.int md), .val (.ref b1), .val (.int (fpick md xx mn mx)), .val (.int (0 : Int32)), .val (.int (fallow (fpick md xx mn mx) mn mx))] [(.int (fallow (fpick md xx mn mx) mn mx))]))
      refine Go.st (fun _ k' => XS.iload X19.here hx rfl (hb hby at_60) rfl k') ?_
      show Go p e below s _ _ _ (T19.setTop (mkF m 62 #[.val (.int mn), .val (.int mx), .val (.int dl), .val (.int xx), .val (.int md), .val (.ref b1), .val (.int (fpick md xx mn mx)), .val (.int (0 : Int32)), .val (.int (fallow (fpick md xx mn mx) mn mx))] [(.int (0 : Int32)), (.int (fallow (fpick md xx mn mx) mn mx))]))
      by_cases hc20 : (fallow (fpick md xx mn mx) mn mx) = (0 : Int32)
      · refine Go.st (fun _ k' => XS.icmpNo X19.here hx rfl (hb hby at_62) rfl (XT.ii_ne_f hc20) k') ?_
        show Go p e below s _ _ _ (T19.setTop (mkF m 65 #[.val (.int mn), .val (.int mx), .val (.int dl), .val (.int xx), .val (.int md), .val (.ref b1), .val (.int (fpick md xx mn mx)), .val (.int (0 : Int32)), .val (.int (fallow (fpick md xx mn mx) mn mx))] []))
        refine Go.st (fun _ k' => XS.iconst X19.here hx rfl (hb hby at_65) k') ?_
        show Go p e below s _ _ _ (T19.setTop (mkF m 66 #[.val (.int mn), .val (.int mx), .val (.int dl), .val (.int xx), .val (.int md), .val (.ref b1), .val (.int (fpick md xx mn mx)), .val (.int (0 : Int32)), .val (.int (fallow (fpick md xx mn mx) mn mx))] [(.int (1 : Int32))]))
        refine Go.st (fun _ k' => XS.goto X19.here hx rfl (pc0 := 66) (pc' := 70) rfl (hb hby at_66) (by decide) (by decide) k') ?_
        show Go p e below s _ _ _ (T19.setTop (mkF m 70 #[.val (.int mn), .val (.int mx), .val (.int dl), .val (.int xx), .val (.int md), .val (.ref b1), .val (.int (fpick md xx mn mx)), .val (.int (0 : Int32)), .val (.int (fallow (fpick md xx mn mx) mn mx))] [(.int (1 : Int32))]))
        refine Go.retB X19 hx hlk (t := .boolean) Bd.returns (by simp) (hb hby at_70) (by decide) (by decide) eq19 ?_
        exact ⟨rfl, N19, trivial⟩
      · refine Go.st (fun _ k' => XS.icmpYes X19.here hx rfl (pc0 := 62) (pc' := 69) rfl (hb hby at_62) rfl (XT.ii_ne_t hc20) (by decide) (by decide) k') ?_
        show Go p e below s _ _ _ (T19.setTop (mkF m 69 #[.val (.int mn), .val (.int mx), .val (.int dl), .val (.int xx), .val (.int md), .val (.ref b1), .val (.int (fpick md xx mn mx)), .val (.int (0 : Int32)), .val (.int (fallow (fpick md xx mn mx) mn mx))] []))
        refine Go.st (fun _ k' => XS.iconst X19.here hx rfl (hb hby at_69) k') ?_
        show Go p e below s _ _ _ (T19.setTop (mkF m 70 #[.val (.int mn), .val (.int mx), .val (.int dl), .val (.int xx), .val (.int md), .val (.ref b1), .val (.int (fpick md xx mn mx)), .val (.int (0 : Int32)), .val (.int (fallow (fpick md xx mn mx) mn mx))] [(.int (0 : Int32))]))
        refine Go.retB X19 hx hlk (t := .boolean) Bd.returns (by simp) (hb hby at_70) (by decide) (by decide) eq19 ?_
        exact absurd ((own_law _ _ _).trans (by simp [hc11, hc16])) hc20
set_option maxRecDepth 65536 in
set_option maxHeartbeats 40000000 in
theorem comes_1 {Post : Tables → Env → Array Value → State → Outcome → State → Prop} (hpost : ∀ tb e args s v u, (limb_1_1.after args s (.returned v) u = true ∧ limb_1_2.after args s (.returned v) u = true ∧ True) → FrameEnd s (.returned v) u (Jvm.fieldLocs frame_1_writes args s ++ Jvm.arrayLocs frame_1_arrays args s ++ Jvm.staticLocs frame_1_statics s) 16 128 → Post tb e args s (.returned v) u) :
    ArmFor flags0 classFile x code maxLocals ret World_1 tables_1 room_1 Calls_1 rest_1 Pre_1 Post := by
  intro l hfl _ _ p e ha hc hk s m args below hf hA hF happ hP
  obtain ⟨hcalls, hrest, hpre⟩ := hP
  obtain ⟨-, -, -, hnamed, -, -, -, hat⟩ := (Spec.applies_iff hf).mp happ
  obtain ⟨hg, hn⟩ := and_e (Cond.before_iff.mp (show (Jvm.Cond.and given_1 narrow_1).before args s = true from hpre))
  obtain ⟨hcnt, hg0⟩ := and_e hg
  obtain ⟨ha0, hg1⟩ := and_e hg0
  obtain ⟨ha1, hg2⟩ := and_e hg1
  obtain ⟨ha2, hg3⟩ := and_e hg2
  obtain ⟨ha3, hg4⟩ := and_e hg3
  have ha4 := hg4
  obtain ⟨w0, w1, w2, w3, w4, rfl⟩ : ∃ w0 w1 w2 w3 w4 : Value, args = #[w0, w1, w2, w3, w4] := by
    have hs : args.size = 5 := by simpa [Cond.value, given_1] using hcnt
    obtain ⟨L⟩ := args
    match L, hs with
    | [w0, w1, w2, w3, w4], _ => exact ⟨w0, w1, w2, w3, w4, rfl⟩
  have hw := fun d (hd : d ∈ tables_1) => atoms_spec (ws := Jvm.Cond.code x code maxLocals ret :: tables_1) hat d (List.mem_cons_of_mem _ hd)
  have hfit : Fit s := fun {y c} hc i hi => by
    obtain ⟨ha, rfl⟩ := Array.getElem?_eq_some_iff.mp hc
    have q := List.all_eq_true.mp ((Array.all_eq_true_iff_forall_mem.mp hF) _ (Array.getElem_mem ha)) i (List.mem_range.mpr hi)
    simpa [Array.getElem?_eq_getElem hi] using q
  obtain ⟨i0, ei0⟩ := is_v ha0
  obtain rfl : w0 = (.int i0) := Option.some.inj ei0
  obtain ⟨i1, ei1⟩ := is_v ha1
  obtain rfl : w1 = (.int i1) := Option.some.inj ei1
  obtain ⟨i2, ei2⟩ := is_v ha2
  obtain rfl : w2 = (.int i2) := Option.some.inj ei2
  obtain ⟨i3, ei3⟩ := is_v ha3
  obtain rfl : w3 = (.int i3) := Option.some.inj ei3
  obtain ⟨i4, ei4⟩ := is_v ha4
  obtain rfl : w4 = (.int i4) := Option.some.inj ei4
  obtain ⟨n, o, h1, h2, h3, _, L, rfl, ⟨rfl, N, -⟩, hq⟩ := rm0 l s _ hw tables_1 i0 i1 i2 i3 i4 s.heap s.heap.size (Old.start s)  p e ha hc hk s m _ below hf ((Spec.applies_iff_loose hf).mp happ).1 ⟨rfl, State.Warmed39.refl s, rfl⟩ trivial
  refine ⟨n, _, h1, h2, h3, hpost _ _ _ _ _ _ ⟨Cond.after_iff.mpr rfl, Cond.after_iff.mpr (eq_i res_at (Term.int_eval (1)) rfl), trivial⟩ ⟨hq.1, hq.2.1, (hq.2.2.sift fun y hy => Or.inr (N y hy)).mono (by decide) (by decide)⟩⟩
theorem main_1_1 : Claimed_1_1 := comes_1 fun _ _ _ _ _ _ h hF => ⟨h.1, hF⟩
theorem main_1_2 : Claimed_1_2 := comes_1 fun _ _ _ _ _ _ h hF => ⟨h.2.1, hF⟩
end Jvm.Pilot.@@N@@
namespace Jvm.Pilot.@@N@@
open Jvm Jvm.ClassFile Sem Op Lib Jvm.Free Jvm.Stand Jvm.Pilot.@@N@@.Jvm.D
/-! MADE BY PROGRAM (witnessworld.py) out of the Statement's table words and the real class files: 10 classes; the members and pool entries that the words name. The judged class is class 1, her method 2. -/
namespace start1
open Jvm.ClassFile
def u (s : String) : CpInfo := .utf8 (stringToUtf16 s)
/-- a pool by its gaps: so many unusable entries, then the entry; so many at the end -/
def gap : Nat → List CpInfo → List CpInfo
  | 0, r => r
  | n + 1, r => .unusable :: gap n r
def poolList (es : List (Nat × CpInfo)) (last : Nat) : List CpInfo := es.foldr (fun e r => gap e.1 (e.2 :: r)) (gap last [])
def pool (es : List (Nat × CpInfo)) (last : Nat) : Array CpInfo := ⟨poolList es last⟩
def fileOf (pool : Array CpInfo) (this : Nat) (attrs : Array Attribute := #[]) (ms : Array MethodInfo := #[]) (fl : Nat := 33) (sup : Nat := 0) (ifs : Array Nat := #[]) (fds : Array FieldInfo := #[]) : ClassFile where
  minorVersion := 0
  majorVersion := 65
  constantPool := pool
  accessFlags := fl
  thisClass := this
  superClass := sup
  interfaces := ifs
  fields := fds
  methods := ms
  attributes := attrs
def plain (name : String) (sup : Option ClassId) : Class where
  name := name
  kind := .ordinary
  loader := none
  accessFlags := 33
  super := sup
  interfaces := #[]
  cf := none
  fields := #[]
  methods := #[]
  instanceTypes := #[]
  staticTypes := #[]
  resolved := #[]
  callSites := []
  init := .initialized
  statics := none
  mirror := none

def pool0 : Array CpInfo := pool [(5, u "<init>"), (0, u "()V"), (1, .class_ 10), (1, u "java/lang/Object")] 113

def k0c0 : Code := { maxStack := 0, maxLocals := 1, code := object_method_1_code, exceptionTable := #[], attributes := #[] }
def k0m0 : Method := { name := "<init>", desc := "()V", sig := { parameters := [], returnType := none }, accessFlags := 1, code := some k0c0 }
/-- java/lang/Object -/
def k0 : Class := { plain "java/lang/Object" none with
  accessFlags := 33
  interfaces := #[]
  cf := some (fileOf pool0 8 #[] #[{ accessFlags := 1, nameIndex := 5, descriptorIndex := 6, attributes := #[] }] 33 0 #[] #[])
  fields := #[]
  methods := #[k0m0]
  instanceTypes := #[]
  staticTypes := #[]
  resolved := Array.replicate 124 none
  statics := none }

def pool1 : Array CpInfo := pool [(2, .class_ 4), (1, u "java/lang/Object"), (0, u "<init>"), (0, u "()V"), (0, .class_ 8), (0, u "com/example/tenure_of_partitions/tenureofpartitions/GroupSettings"), (0, .methodref 7 10), (0, .nameAndType 5 11), (0, u "(III)V"), (0, .methodref 13 14), (0, .class_ 15), (0, .nameAndType 16 17), (0, u "com/example/tenure_of_partitions/tenureofpartitions/GroupSettingsAllowsSessionTimeoutPinLaw"), (0, u "pick"), (0, u "(IIII)I"), (0, .methodref 19 20), (0, .class_ 21), (0, .nameAndType 22 23), (0, u "java/lang/Math"), (0, u "max"), (0, u "(II)I"), (0, .methodref 19 25), (0, .nameAndType 26 23), (0, u "min"), (0, .methodref 7 28), (0, .nameAndType 29 30), (0, u "allowsSessionTimeout"), (0, u "(I)Z"), (3, u "law"), (0, u "(IIIII)Z")] 2

def k1m0 : Method := { name := "<init>", desc := "()V", sig := { parameters := [], returnType := none }, accessFlags := 1, code := none }
def k1c1 : Code := { maxStack := 2, maxLocals := 5, code := method_2_code, exceptionTable := #[], attributes := #[] }
def k1m1 : Method := { name := "pick", desc := "(IIII)I", sig := { parameters := [.int, .int, .int, .int], returnType := some .int }, accessFlags := 10, code := some k1c1 }
def k1c2 : Code := { maxStack := 5, maxLocals := 9, code := code, exceptionTable := #[], attributes := #[] }
def k1m2 : Method := { name := "law", desc := "(IIIII)Z", sig := { parameters := [.int, .int, .int, .int, .int], returnType := some .boolean }, accessFlags := 9, code := some k1c2 }
/-- com/example/tenure_of_partitions/tenureofpartitions/GroupSettingsAllowsSessionTimeoutPinLaw -/
def k1 : Class := { plain "com/example/tenure_of_partitions/tenureofpartitions/GroupSettingsAllowsSessionTimeoutPinLaw" (some 0) with
  accessFlags := 49
  interfaces := #[]
  cf := some (fileOf pool1 13 #[] #[{ accessFlags := 1, nameIndex := 5, descriptorIndex := 6, attributes := #[] }, { accessFlags := 10, nameIndex := 16, descriptorIndex := 17, attributes := #[] }, { accessFlags := 9, nameIndex := 34, descriptorIndex := 35, attributes := #[] }] 49 2 #[] #[])
  fields := #[]
  methods := #[k1m0, k1m1, k1m2]
  instanceTypes := #[]
  staticTypes := #[]
  resolved := Array.replicate 38 none
  statics := none }

def pool2 : Array CpInfo := pool [(1, .methodref 2 3), (0, .class_ 4), (0, .nameAndType 5 6), (0, u "java/lang/Object"), (0, u "<init>"), (0, u "()V"), (0, .fieldref 8 9), (0, .class_ 10), (0, .nameAndType 11 12), (0, u "com/example/tenure_of_partitions/tenureofpartitions/GroupSettings"), (0, u "minSessionTimeoutMs"), (0, u "I"), (0, .fieldref 8 14), (0, .nameAndType 15 12), (0, u "maxSessionTimeoutMs"), (0, .fieldref 8 17), (0, .nameAndType 18 12), (0, u "initialRebalanceDelayMs"), (0, u "(III)V"), (2, u "allowsSessionTimeout"), (0, u "(I)Z")] 5

def k2c0 : Code := { maxStack := 2, maxLocals := 4, code := prog_11_method_1_code, exceptionTable := #[], attributes := #[] }
def k2m0 : Method := { name := "<init>", desc := "(III)V", sig := { parameters := [.int, .int, .int], returnType := none }, accessFlags := 0, code := some k2c0 }
def k2c1 : Code := { maxStack := 2, maxLocals := 2, code := prog_11_method_2_code, exceptionTable := #[], attributes := #[] }
def k2m1 : Method := { name := "allowsSessionTimeout", desc := "(I)Z", sig := { parameters := [.int], returnType := some .boolean }, accessFlags := 0, code := some k2c1 }
/-- com/example/tenure_of_partitions/tenureofpartitions/GroupSettings -/
def k2 : Class := { plain "com/example/tenure_of_partitions/tenureofpartitions/GroupSettings" (some 0) with
  accessFlags := 48
  interfaces := #[]
  cf := some (fileOf pool2 8 #[] #[{ accessFlags := 0, nameIndex := 5, descriptorIndex := 19, attributes := #[] }, { accessFlags := 0, nameIndex := 22, descriptorIndex := 23, attributes := #[] }] 48 2 #[] #[{ accessFlags := 18, nameIndex := 11, descriptorIndex := 12, attributes := #[] }, { accessFlags := 18, nameIndex := 15, descriptorIndex := 12, attributes := #[] }, { accessFlags := 18, nameIndex := 18, descriptorIndex := 12, attributes := #[] }])
  fields := #[{ name := "minSessionTimeoutMs", type := .int, accessFlags := 18, slot := 0, constantValue := 0 }, { name := "maxSessionTimeoutMs", type := .int, accessFlags := 18, slot := 1, constantValue := 0 }, { name := "initialRebalanceDelayMs", type := .int, accessFlags := 18, slot := 2, constantValue := 0 }]
  methods := #[k2m0, k2m1]
  instanceTypes := #[.int, .int, .int]
  staticTypes := #[]
  resolved := Array.replicate 29 none
  statics := none }

def pool3 : Array CpInfo := pool [(1, .class_ 2), (0, u "java/lang/Math"), (1, .class_ 6), (1, u "java/lang/Object"), (0, u "<init>"), (0, u "()V"), (89, .class_ 100), (1, u "java/lang/Math$RandomNumberGeneratorHolder"), (71, u "negativeZeroFloatBits"), (0, u "J"), (2, u "negativeZeroDoubleBits"), (21, u "max"), (2, u "min"), (43, u "$assertionsDisabled"), (0, u "Z"), (88, u "(II)I"), (2, u "twoToTheDoubleScaleDown"), (0, u "D"), (4, u "twoToTheDoubleScaleUp"), (9, u "E"), (3, u "PI"), (2, u "TAU"), (2, u "DEGREES_TO_RADIANS"), (0, u "RADIANS_TO_DEGREES")] 94

def k3m0 : Method := { name := "<init>", desc := "()V", sig := { parameters := [], returnType := none }, accessFlags := 2, code := none }
def k3c1 : Code := { maxStack := 2, maxLocals := 2, code := jdk_29_method_65_code, exceptionTable := #[], attributes := #[] }
def k3m1 : Method := { name := "max", desc := "(II)I", sig := { parameters := [.int, .int], returnType := some .int }, accessFlags := 9, code := some k3c1 }
def k3c2 : Code := { maxStack := 2, maxLocals := 2, code := jdk_29_method_69_code, exceptionTable := #[], attributes := #[] }
def k3m2 : Method := { name := "min", desc := "(II)I", sig := { parameters := [.int, .int], returnType := some .int }, accessFlags := 9, code := some k3c2 }
/-- java/lang/Math -/
def k3 : Class := { plain "java/lang/Math" (some 0) with
  accessFlags := 49
  interfaces := #[]
  cf := some (fileOf pool3 1 #[.nestMembers #[98]] #[{ accessFlags := 2, nameIndex := 7, descriptorIndex := 8, attributes := #[] }, { accessFlags := 9, nameIndex := 198, descriptorIndex := 335, attributes := #[] }, { accessFlags := 9, nameIndex := 201, descriptorIndex := 335, attributes := #[] }] 49 4 #[] #[{ accessFlags := 25, nameIndex := 354, descriptorIndex := 339, attributes := #[] }, { accessFlags := 25, nameIndex := 358, descriptorIndex := 339, attributes := #[] }, { accessFlags := 25, nameIndex := 361, descriptorIndex := 339, attributes := #[] }, { accessFlags := 26, nameIndex := 364, descriptorIndex := 339, attributes := #[] }, { accessFlags := 26, nameIndex := 365, descriptorIndex := 339, attributes := #[] }, { accessFlags := 26, nameIndex := 172, descriptorIndex := 173, attributes := #[] }, { accessFlags := 26, nameIndex := 176, descriptorIndex := 173, attributes := #[] }, { accessFlags := 8, nameIndex := 344, descriptorIndex := 339, attributes := #[] }, { accessFlags := 8, nameIndex := 338, descriptorIndex := 339, attributes := #[] }, { accessFlags := 4120, nameIndex := 245, descriptorIndex := 246, attributes := #[] }])
  fields := #[{ name := "E", type := .double, accessFlags := 25, slot := 0, constantValue := 0 }, { name := "PI", type := .double, accessFlags := 25, slot := 1, constantValue := 0 }, { name := "TAU", type := .double, accessFlags := 25, slot := 2, constantValue := 0 }, { name := "DEGREES_TO_RADIANS", type := .double, accessFlags := 26, slot := 3, constantValue := 0 }, { name := "RADIANS_TO_DEGREES", type := .double, accessFlags := 26, slot := 4, constantValue := 0 }, { name := "negativeZeroFloatBits", type := .long, accessFlags := 26, slot := 5, constantValue := 0 }, { name := "negativeZeroDoubleBits", type := .long, accessFlags := 26, slot := 6, constantValue := 0 }, { name := "twoToTheDoubleScaleUp", type := .double, accessFlags := 8, slot := 7, constantValue := 0 }, { name := "twoToTheDoubleScaleDown", type := .double, accessFlags := 8, slot := 8, constantValue := 0 }, { name := "$assertionsDisabled", type := .boolean, accessFlags := 4120, slot := 9, constantValue := 0 }]
  methods := #[k3m0, k3m1, k3m2]
  instanceTypes := #[]
  staticTypes := #[.double, .double, .double, .double, .double, .long, .long, .double, .double, .boolean]
  resolved := Array.replicate 460 none
  statics := none }

def pool4 : Array CpInfo := pool [(1, u "java/lang/Cloneable"), (0, .class_ 1), (0, u "java/lang/Object"), (0, .class_ 3)] 3

/-- java/lang/Cloneable -/
def k4 : Class := { plain "java/lang/Cloneable" (some 0) with
  accessFlags := 1537
  interfaces := #[]
  cf := some (fileOf pool4 2 #[] #[] 1537 4 #[] #[])
  fields := #[]
  methods := #[]
  instanceTypes := #[]
  staticTypes := #[]
  resolved := Array.replicate 8 none
  statics := none }

def pool5 : Array CpInfo := pool [(1, u "java/io/Serializable"), (0, .class_ 1), (0, u "java/lang/Object"), (0, .class_ 3)] 3

/-- java/io/Serializable -/
def k5 : Class := { plain "java/io/Serializable" (some 0) with
  accessFlags := 1537
  interfaces := #[]
  cf := some (fileOf pool5 2 #[] #[] 1537 4 #[] #[])
  fields := #[]
  methods := #[]
  instanceTypes := #[]
  staticTypes := #[]
  resolved := Array.replicate 8 none
  statics := none }

/-- the primitive byte -/
def k6 : Class := { plain "byte" none with kind := .primitive 'B', accessFlags := 0x411 }
/-- [B -/
def k7 : Class := { plain "[B" (some 0) with kind := .array 6 .byte, interfaces := #[4, 5], accessFlags := 1041 }

/-- the primitive int -/
def k8 : Class := { plain "int" none with kind := .primitive 'I', accessFlags := 0x411 }
/-- [I -/
def k9 : Class := { plain "[I" (some 0) with kind := .array 8 .int, interfaces := #[4, 5], accessFlags := 1041 }

def heap : Heap := #[]
def classes : Array Class := #[k0, k1, k2, k3, k4, k5, k6, k7, k8, k9]
def interned : List (Array UInt16 × Addr) := []
def slotsUsed : Nat := 0
def theMethod : MethodId := ⟨1, 2⟩
def args0 : Array Value := #[.int 5, .int 5, .int 5, .int 5, .int 5]
def aboutOver (below : List Frame) : State where
  vm := { classes := classes, interned := interned.toArray }
  heap := heap
  slotsUsed := slotsUsed
  threads := #[{ frames := .invoking theMethod args0 :: below }]
def below0 : List Frame := [.native { method := ⟨0, 0⟩, args := #[] }]
def about1 : State := aboutOver below0
def p0 : Program := .bare "" "" ""
def e0 : Env := launch0.env 0 0 0
theorem w_frames : about1.frames = Frame.invoking theMethod args0 :: below0 := rfl
set_option maxRecDepth 65536 in
theorem w_args : argsFit about1.vm theMethod args0 = true := by decide +kernel
set_option maxRecDepth 65536 in
theorem w_heap : heapFits about1 = true := by decide +kernel
set_option maxRecDepth 65536 in
theorem w_runnable : about1.curStatus? = some .runnable := by decide +kernel
set_option maxRecDepth 65536 in
theorem w_alone : about1.alone = true := by decide +kernel
set_option maxRecDepth 65536 in
theorem w_named : about1.methodNamed? x = some theMethod := by decide +kernel
set_option maxRecDepth 65536 in
theorem w_hears : about1.hears theMethod below0 = true := by decide +kernel
set_option maxRecDepth 65536 in
theorem w_ripe : about1.ripe theMethod args0 below0 = true := by decide +kernel
theorem w_running : about1.status = .running := rfl
set_option maxRecDepth 65536 in
theorem w_room : about1.hasRoom e0.platform room_1 = true :=
  launch0.hasRoom_least _ room_1 (by decide +kernel) (by decide +kernel) (by decide +kernel) (by decide +kernel) (by decide +kernel) (by decide +kernel)
theorem allAtoms_all (ts : List Jvm.Cond) (a : Array Jvm.Value) (st : Jvm.State) : (allAtoms ts).before a st = ts.all (fun c => c.before a st) := by
  induction ts with
  | nil => rfl
  | cons c t ih =>
    show (Jvm.Cond.and c (allAtoms t)).before a st = _
    rw [Jvm.Cond.before_and, ih, List.all_cons]
def words1 : List Jvm.Cond := Jvm.Cond.code x code maxLocals ret :: tables_1
/-- a 'code' word, met by the world's own term for the bytes: nothing is compared byte by byte -/
theorem code_word {y : MethodName} {bytes : ByteArray} {mx : Nat} {rt : Option FieldType} {a : Array Value} {s : State} {m : MethodId} {meth : Method} {c : Code} (h1 : s.methodNamed? y = some m) (h2 : s.vm.method? m = some meth) (h3 : meth.code = some c) (h4 : c.code = bytes)
    (h5 : (c.maxLocals == mx && c.exceptionTable.isEmpty && decide (c.maxStack ≤ mostOperands) && decide (meth.sig.returnType = rt) && !meth.locks && decide (parseMethodDescriptor y.desc = some meth.sig)) = true) : (Jvm.Cond.code y bytes mx rt).before a s = true := by
  simp only [Bool.and_eq_true, beq_iff_eq, Bool.not_eq_true', decide_eq_true_eq] at h5
  obtain ⟨⟨⟨⟨⟨g1, g2⟩, g3⟩, g4⟩, g5⟩, g6⟩ := h5
  simp [Cond.before, Cond.holds, Cond.value, h1, h2, h3, h4, g1, g2, g3, g4, g5, g6]
def isCode : Jvm.Cond → Bool
  | .code _ _ _ _ => true
  | _ => false
theorem all_split {L : List Jvm.Cond} {P : Jvm.Cond → Bool} (h1 : L.all (fun c => isCode c || P c) = true) (h2 : ∀ c ∈ L.filter isCode, P c = true) : L.all P = true := by
  refine List.all_eq_true.mpr fun c hc => ?_
  have h := List.all_eq_true.mp h1 c hc
  rcases Bool.eq_false_or_eq_true (isCode c) with hi | hi
  · exact h2 c (List.mem_filter.mpr ⟨hc, hi⟩)
  · simpa [hi] using h
set_option maxRecDepth 65536 in
theorem w_c0 : (Jvm.Cond.code x code maxLocals ret).before args0 about1 = true := code_word (m := ⟨1, 2⟩) (meth := k1m2) (c := k1c2) (by decide +kernel) rfl rfl rfl (by decide +kernel)
set_option maxRecDepth 65536 in
theorem w_c1 : (Jvm.Cond.code ({ cls := "com/example/tenure_of_partitions/tenureofpartitions/GroupSettings", name := "<init>", desc := "(III)V" } : Jvm.MethodName) prog_11_method_1_code (4 : Nat) (Option.none : Option Jvm.ClassFile.FieldType)).before args0 about1 = true := code_word (m := ⟨2, 0⟩) (meth := k2m0) (c := k2c0) (by decide +kernel) rfl rfl rfl (by decide +kernel)
set_option maxRecDepth 65536 in
theorem w_c2 : (Jvm.Cond.code ({ cls := "java/lang/Object", name := "<init>", desc := "()V" } : Jvm.MethodName) object_method_1_code (1 : Nat) (Option.none : Option Jvm.ClassFile.FieldType)).before args0 about1 = true := code_word (m := ⟨0, 0⟩) (meth := k0m0) (c := k0c0) (by decide +kernel) rfl rfl rfl (by decide +kernel)
set_option maxRecDepth 65536 in
theorem w_c3 : (Jvm.Cond.code ({ cls := "com/example/tenure_of_partitions/tenureofpartitions/GroupSettingsAllowsSessionTimeoutPinLaw", name := "pick", desc := "(IIII)I" } : Jvm.MethodName) method_2_code (5 : Nat) (Option.some Jvm.ClassFile.FieldType.int)).before args0 about1 = true := code_word (m := ⟨1, 1⟩) (meth := k1m1) (c := k1c1) (by decide +kernel) rfl rfl rfl (by decide +kernel)
set_option maxRecDepth 65536 in
theorem w_c4 : (Jvm.Cond.code ({ cls := "java/lang/Math", name := "max", desc := "(II)I" } : Jvm.MethodName) jdk_29_method_65_code (2 : Nat) (Option.some Jvm.ClassFile.FieldType.int)).before args0 about1 = true := code_word (m := ⟨3, 1⟩) (meth := k3m1) (c := k3c1) (by decide +kernel) rfl rfl rfl (by decide +kernel)
set_option maxRecDepth 65536 in
theorem w_c5 : (Jvm.Cond.code ({ cls := "java/lang/Math", name := "min", desc := "(II)I" } : Jvm.MethodName) jdk_29_method_69_code (2 : Nat) (Option.some Jvm.ClassFile.FieldType.int)).before args0 about1 = true := code_word (m := ⟨3, 2⟩) (meth := k3m2) (c := k3c2) (by decide +kernel) rfl rfl rfl (by decide +kernel)
set_option maxRecDepth 65536 in
theorem w_c6 : (Jvm.Cond.code ({ cls := "com/example/tenure_of_partitions/tenureofpartitions/GroupSettings", name := "allowsSessionTimeout", desc := "(I)Z" } : Jvm.MethodName) prog_11_method_2_code (2 : Nat) (Option.some Jvm.ClassFile.FieldType.boolean)).before args0 about1 = true := code_word (m := ⟨2, 1⟩) (meth := k2m1) (c := k2c1) (by decide +kernel) rfl rfl rfl (by decide +kernel)
def codes1 : List Jvm.Cond := [Jvm.Cond.code x code maxLocals ret, Jvm.Cond.code ({ cls := "com/example/tenure_of_partitions/tenureofpartitions/GroupSettings", name := "<init>", desc := "(III)V" } : Jvm.MethodName) prog_11_method_1_code (4 : Nat) (Option.none : Option Jvm.ClassFile.FieldType), Jvm.Cond.code ({ cls := "java/lang/Object", name := "<init>", desc := "()V" } : Jvm.MethodName) object_method_1_code (1 : Nat) (Option.none : Option Jvm.ClassFile.FieldType), Jvm.Cond.code ({ cls := "com/example/tenure_of_partitions/tenureofpartitions/GroupSettingsAllowsSessionTimeoutPinLaw", name := "pick", desc := "(IIII)I" } : Jvm.MethodName) method_2_code (5 : Nat) (Option.some Jvm.ClassFile.FieldType.int), Jvm.Cond.code ({ cls := "java/lang/Math", name := "max", desc := "(II)I" } : Jvm.MethodName) jdk_29_method_65_code (2 : Nat) (Option.some Jvm.ClassFile.FieldType.int), Jvm.Cond.code ({ cls := "java/lang/Math", name := "min", desc := "(II)I" } : Jvm.MethodName) jdk_29_method_69_code (2 : Nat) (Option.some Jvm.ClassFile.FieldType.int), Jvm.Cond.code ({ cls := "com/example/tenure_of_partitions/tenureofpartitions/GroupSettings", name := "allowsSessionTimeout", desc := "(I)Z" } : Jvm.MethodName) prog_11_method_2_code (2 : Nat) (Option.some Jvm.ClassFile.FieldType.boolean)]
set_option maxRecDepth 65536 in
theorem codes_eq : words1.filter isCode = codes1 := rfl
theorem w_codes : ∀ c ∈ words1.filter isCode, c.before args0 about1 = true := by
  rw [codes_eq]
  intro c hc
  simp only [codes1, List.mem_cons, List.not_mem_nil, or_false] at hc
  rcases hc with rfl | rfl | rfl | rfl | rfl | rfl | rfl
  · exact w_c0
  · exact w_c1
  · exact w_c2
  · exact w_c3
  · exact w_c4
  · exact w_c5
  · exact w_c6
set_option maxRecDepth 65536 in
theorem w_t1 : (words1.take 24).all (fun c => isCode c || c.before args0 about1) = true := by decide +kernel
set_option maxRecDepth 65536 in
theorem w_t2 : (words1.drop 24).all (fun c => isCode c || c.before args0 about1) = true := by decide +kernel
theorem w_tables : (allAtoms (Jvm.Cond.code x code maxLocals ret :: tables_1)).before args0 about1 = true := by
  rw [allAtoms_all]
  show words1.all (fun c => c.before args0 about1) = true
  refine all_split ?_ w_codes
  rw [← List.take_append_drop 24 words1, List.all_append, w_t1, w_t2]
  rfl
set_option maxRecDepth 65536 in
theorem w_case : (Jvm.Cond.and given_1 narrow_1).before args0 about1 = true := by decide +kernel
theorem w_applies : (headSpec (Jvm.Cond.code x code maxLocals ret :: tables_1) room_1).applies x e0.platform about1 = true :=
  (Spec.applies_iff w_frames).mpr ⟨w_running, w_runnable, w_alone, w_named, w_hears, w_ripe, w_room, w_tables⟩
theorem atStart : AtStart classFile x code maxLocals ret World_1 tables_1 room_1 Calls_1 rest_1 Pre_1 launch0 p0 e0 about1 theMethod args0 below0 :=
  ⟨lists_1, trivial, launch0.admits_env _ _ _, launch0.least_env, fairChoices_fair.cas, fairChoices_fair.clock, w_frames, w_args, w_heap, w_applies, trivial, trivial, w_case⟩
end start1
theorem witness_1 : WitnessClaimed_1 := ⟨start1.p0, start1.e0, start1.about1, start1.theMethod, start1.args0, start1.below0, start1.atStart⟩
end Jvm.Pilot.@@N@@
