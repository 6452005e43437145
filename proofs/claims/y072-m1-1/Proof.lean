import JvmDerived
import JvmDerived.Pilot.@@N@@Statement
import JvmDerived.Pilot.@@N@@Code
set_option linter.unusedVariables false
set_option linter.unusedSimpArgs false
namespace Jvm.Pilot.@@N@@
open Jvm Jvm.ClassFile Sem Op Lib Jvm.Free Jvm.Stand Jvm.LawKit Jvm.RoadKit Bundle Jvm.Pilot.@@N@@.Jvm.D
theorem wdx {a0 : Array Value} {Z : State} (hw : ∀ d ∈ tables_1, d.before a0 Z = true) (i : Nat) {d : Jvm.Cond} (h : tables_1[i]? = some d) : d.before a0 Z = true := hw d (List.mem_of_getElem? h)
/-! the walk in one predicate: from S the run comes to an end at which Q holds -/
def Go (p : Program) (e : Env) (below : List Frame) (s : State) (rc rs : Nat) (Q : Option Value → Heap → List Loc → Prop) (S : State) : Prop :=
  ∃ t o, Steps p.tables e below S t ∧ t.status = .running ∧ Ended t below o ∧ ∃ v L, o = .returned v ∧ Q v t.heap L ∧ FrameEnd s o t L rc rs
section Pre
variable {p : Program} {l : Launch} {e : Env} {R : Room} {s : State} {m : MethodId} {args : Array Value} {below : List Frame} {meth : Method} {c : Code} {T : State} {locs : List Loc} {cells slots rc rs : Nat} {Q : Option Value → Heap → List Loc → Prop} {S S' : State} {h : Heap} {Z : State} {n0 : Nat}
theorem Go.st (k : ∀ t, Steps p.tables e below S' t → Steps p.tables e below S t) (g : Go p e below s rc rs Q S') : Go p e below s rc rs Q S := by
  obtain ⟨t, o, h, r⟩ := g; exact ⟨t, o, k t h, r⟩
theorem Go.tr (k : Steps p.tables e below S S') (g : Go p e below s rc rs Q S') : Go p e below s rc rs Q S := by
  obtain ⟨t, o, h, r⟩ := g; exact ⟨t, o, k.trans h, r⟩
theorem Go.ret (X : Stand p l e R s m args below meth c T locs cells slots) (hx : p.tables.exec = Jvm.exec) (hlk : meth.locks = false) {pc : Nat} {Ls : Array Slot} {w : Value} {t : FieldType} {i : Instr} {rest : List Value} (hret : meth.sig.returnType = some t) (hn : narrow t w = w)
    (hi : (i = .ireturn ∧ (t = .int ∨ t = .boolean ∨ t = .byte ∨ t = .char ∨ t = .short) ∧ ∃ z, w = .int z) ∨ (i = .lreturn ∧ t = .long ∧ ∃ z, w = .long z) ∨ (i = .dreturn ∧ t = .double ∧ ∃ z, w = .double z) ∨ (i = .freturn ∧ t = .float ∧ ∃ z, w = .float z) ∨ (i = .areturn ∧ t.isReference = true ∧ w.isRef = true))
    (hd : decode c.code pc = .ok (i, 1)) (hc : cells ≤ rc) (hs : slots ≤ rs) (hh : T.heap = h) (hq : Q (some w) h locs) : Go p e below s rc rs Q (T.setTop (mkF m pc Ls (w :: rest))) := by
  obtain ⟨fs, hr, hrun, hended, hW, hsame⟩ := X.leave (v := some w) (fun h => by rw [hret] at h; cases h) hlk
  subst hh
  exact ⟨_, _, retOut X hx hret hn hi hd hr, hrun, hended, _, _, rfl, hq, ⟨_, rfl⟩, hW, hsame.mono hc hs⟩
theorem Go.retB (X : Stand p l e R s m args below meth c T locs cells slots) (hx : p.tables.exec = Jvm.exec) (hlk : meth.locks = false) {pc : Nat} {Ls : Array Slot} {z : Int32} {t : FieldType} {rest : List Value} (hret : meth.sig.returnType = some t) (ht : t = .boolean ∨ t = .byte ∨ t = .char ∨ t = .short)
    (hd : decode c.code pc = .ok (.ireturn, 1)) (hc : cells ≤ rc) (hs : slots ≤ rs) (hh : T.heap = h) (hq : Q (some (.int (nar t z))) h locs) : Go p e below s rc rs Q (T.setTop (mkF m pc Ls (.int z :: rest))) := by
  obtain ⟨fs, hr, hrun, hended, hW, hsame⟩ := X.leave (v := some (.int (nar t z))) (fun h => by rw [hret] at h; cases h) hlk
  subst hh
  exact ⟨_, _, retN X hx hret ht hd hr, hrun, hended, _, _, rfl, hq, ⟨_, rfl⟩, hW, hsame.mono hc hs⟩
theorem Go.retV (X : Stand p l e R s m args below meth c T locs cells slots) (hx : p.tables.exec = Jvm.exec) (hlk : meth.locks = false) {pc : Nat} {Ls : Array Slot} (hret : meth.sig.returnType = none)
    (hd : decode c.code pc = .ok (.return_, 1)) (hc : cells ≤ rc) (hs : slots ≤ rs) (hh : T.heap = h) (hq : Q none h locs) : Go p e below s rc rs Q (T.setTop (mkF m pc Ls [])) := by
  obtain ⟨fs, hr, hrun, hended, hW, hsame⟩ := X.leave (v := none) (fun _ => rfl) hlk
  subst hh
  exact ⟨_, _, X.returnOut hx hret hd hr, hrun, hended, _, _, rfl, hq, ⟨_, rfl⟩, hW, hsame.mono hc hs⟩
theorem own_le (O : Old Z n0 h) : n0 ≤ h.size := O.1 ▸ O.2.1
theorem own_nb (b : Bool) : nar .boolean (if b then 1 else 0) = if b then 1 else 0 := by cases b <;> rfl
end Pre
theorem own_ch (u : Int32) : ¬ (255 : Int32) < (u &&& (255 : Int32)).toUInt32.toUInt16.toUInt32.toInt32 := by
  rw [i2c_mask, Int32.lt_iff_toInt_lt]
  have := c_mask u 255 8 (by decide) (by decide)
  have e : (255 : Int32).toInt = 255 := rfl
  omega
theorem own_cn (u : Int32) : ¬ (255 : Int32) < nar .char ((u &&& (255 : Int32)).toUInt32.toUInt16.toUInt32.toInt32) := by
  have e : nar .char ((u &&& (255 : Int32)).toUInt32.toUInt16.toUInt32.toInt32) = (u &&& (255 : Int32)).toUInt32.toUInt16.toUInt32.toInt32 := by
    rw [i2c_mask]; exact i2c_mask u
  rw [e]; exact own_ch u
theorem own_cs {s : State} {args : Array Value} {C n d : String} (h1 : (Jvm.Cond.isInt (Term.static C n d)).value args s none s [] = some true) (h2 : (Jvm.Cond.not (Jvm.Cond.eq (Term.static C n d) (Term.int 0))).value args s none s [] = some true) (hi : (Jvm.Cond.initializedFor C n d).before args s = true) : ∃ z : Int32, Sta s s.heap C n d (.int z) ∧ ¬ z = 0 := by
  obtain ⟨z, ev⟩ := is_v h1
  refine ⟨z, Sta.start ev (Or.inl hi), fun q => ?_⟩
  subst q
  have h3 : (Jvm.Cond.eq (Term.static C n d) (Term.int 0)).value args s none s [] = some true := eq_i ev rfl rfl
  rw [Cond.value, h3] at h2
  cases h2
theorem own_c4 (u : Int32) : u &&& (3 : Int32) = 0 ∨ u &&& (3 : Int32) = 1 ∨ u &&& (3 : Int32) = 2 ∨ u &&& (3 : Int32) = 3 := by
  have h := c_mask u 3 2 (by decide) (by decide)
  generalize u &&& (3 : Int32) = y at *
  have : y.toInt = 0 ∨ y.toInt = 1 ∨ y.toInt = 2 ∨ y.toInt = 3 := by omega
  rcases this with h | h | h | h
  · exact Or.inl (Int32.toInt_inj.mp h)
  · exact Or.inr (Or.inl (Int32.toInt_inj.mp h))
  · exact Or.inr (Or.inr (Or.inl (Int32.toInt_inj.mp h)))
  · exact Or.inr (Or.inr (Or.inr (Int32.toInt_inj.mp h)))
theorem d2_0 : decode jdk_43_method_3_code 0 = .ok (.iload_n 0, 1) := by decide +kernel
theorem d2_1 : decode jdk_43_method_3_code 1 = .ok (.sipush 255, 3) := by decide +kernel
theorem d2_4 : decode jdk_43_method_3_code 4 = .ok (.if_icmp .gt 7, 3) := by decide +kernel
theorem d2_11 : decode jdk_43_method_3_code 11 = .ok (.iconst 0, 1) := by decide +kernel
theorem d2_12 : decode jdk_43_method_3_code 12 = .ok (.ireturn, 1) := by decide +kernel
theorem d2_7 : decode jdk_43_method_3_code 7 = .ok (.iconst 1, 1) := by decide +kernel
theorem d2_8 : decode jdk_43_method_3_code 8 = .ok (.goto 4, 3) := by decide +kernel
theorem pn_java_lang_StringLatin1 : plainName "java/lang/StringLatin1" = true := by first | (simp [plainName, overriddenIn]; done) | decide +kernel
theorem ef_rm2 (m : MethodId) (cc : Int32) : entryFrame m #[(.int cc)] 1 = mkF m 0 #[.val (.int cc)] [] := by first | (simp [entryFrame, mkF, argsToLocals, Value.category]; done) | rfl
def Q2 (Z : State) (cc : Int32) (h0 : Heap) (n0 : Nat) (v : Option Value) (h : Heap) (L : List Loc) : Prop := v = some (.int (if (255 : Int32) < cc then (0 : Int32) else 1)) ∧ Fr n0 L ∧ h = h0
set_option maxRecDepth 65536 in
set_option maxHeartbeats 40000000 in
theorem rm2 (l : Launch) (Z : State) (a0 : Array Value) (hw : ∀ d ∈ tables_1, d.before a0 Z = true) (ws : List Jvm.Cond) (cc : Int32) (h0 : Heap) (n0 : Nat) (O0 : Old Z n0 h0) :
    MetFree l (⟨"java/lang/StringLatin1", "canEncode", "(C)Z"⟩ : MethodName) (head1 (Jvm.Cond.code (⟨"java/lang/StringLatin1", "canEncode", "(C)Z"⟩ : MethodName) jdk_43_method_3_code 1 (some .boolean) :: ws) ({ frames := 0, cells := 0, slots := 0, locals := 0 } : Room)) (fun ay U => ay = #[(.int cc)] ∧ Z.Warmed39 U.vm ∧ U.heap = h0) (fun _ _ _ _ _ => True) (fun _ U o U' => ∃ v L, o = .returned v ∧ Q2 Z cc h0 n0 v U'.heap L ∧ FrameEnd U o U' L ({ frames := 0, cells := 0, slots := 0, locals := 0 } : Room).cells ({ frames := 0, cells := 0, slots := 0, locals := 0 } : Room).slots) := by
  refine MetFree.of_bodySF (plainFor_of_name pn_java_lang_StringLatin1) hisR ?_
  intro p e s m args below meth c s₁ Bd hml0 hP hK
  obtain ⟨rfl, hZ, hh⟩ := hP
  have hx := Bd.exec
  have hby := Bd.bytes
  have hlk : meth.locks = false := BodyLoose.notSynchronized Bd
  have hml : c.maxLocals = 1 := hml0
  have hown : s.vm.findClass "java/lang/StringLatin1" = some m.cls := findClass_of_methodNamed Bd.named
  have hnm := (name_of_methodNamed Bd.named Bd.method).1
  have X0 : Stand p l e ({ frames := 0, cells := 0, slots := 0, locals := 0 } : Room) s m #[(.int cc)] below meth c s₁ [] 0 0 := Stand.of_body Bd
  have e0 : s₁.heap = h0 := by rw [← hh, Bd.state]; rfl
  have N0 := Fr.nil n0
  suffices hgo : Go p e below s 0 0 (Q2 Z cc h0 n0) (s₁.setTop (mkF m 0 #[.val (.int cc)] [])) by
    obtain ⟨t, o, h1, h2⟩ := hgo; exact ⟨t, o, castTop (ef_rm2 m cc) h1, h2⟩
  show Go p e below s _ _ _ (s₁.setTop (mkF m 0 #[.val (.int cc)] []))
  refine Go.st (fun _ k' => XS.iloadN X0.here hx rfl (hb hby d2_0) rfl k') ?_
  show Go p e below s _ _ _ (s₁.setTop (mkF m 1 #[.val (.int cc)] [(.int cc)]))
  refine Go.st (fun _ k' => XS.sipush X0.here hx rfl (hb hby d2_1) k') ?_
  show Go p e below s _ _ _ (s₁.setTop (mkF m 4 #[.val (.int cc)] [(.int (255 : Int32)), (.int cc)]))
  by_cases hc1 : (255 : Int32) < cc
  · refine Go.st (fun _ k' => XS.icmpYes X0.here hx rfl (pc0 := 4) (pc' := 11) rfl (hb hby d2_4) rfl (XT.ii_gt_t hc1) (by decide) (by decide) k') ?_
    show Go p e below s _ _ _ (s₁.setTop (mkF m 11 #[.val (.int cc)] []))
    refine Go.st (fun _ k' => XS.iconst X0.here hx rfl (hb hby d2_11) k') ?_
    show Go p e below s _ _ _ (s₁.setTop (mkF m 12 #[.val (.int cc)] [(.int (0 : Int32))]))
    refine Go.retB X0 hx hlk (t := .boolean) Bd.returns (by simp) (hb hby d2_12) (by decide) (by decide) e0 ?_
    exact ⟨(by simp [nar, hc1]), N0, rfl⟩
  · refine Go.st (fun _ k' => XS.icmpNo X0.here hx rfl (hb hby d2_4) rfl (XT.ii_gt_f hc1) k') ?_
    show Go p e below s _ _ _ (s₁.setTop (mkF m 7 #[.val (.int cc)] []))
    refine Go.st (fun _ k' => XS.iconst X0.here hx rfl (hb hby d2_7) k') ?_
    show Go p e below s _ _ _ (s₁.setTop (mkF m 8 #[.val (.int cc)] [(.int (1 : Int32))]))
    refine Go.st (fun _ k' => XS.goto X0.here hx rfl (pc0 := 8) (pc' := 12) rfl (hb hby d2_8) (by decide) (by decide) k') ?_
    show Go p e below s _ _ _ (s₁.setTop (mkF m 12 #[.val (.int cc)] [(.int (1 : Int32))]))
    refine Go.retB X0 hx hlk (t := .boolean) Bd.returns (by simp) (hb hby d2_12) (by decide) (by decide) e0 ?_
    exact ⟨(by simp [nar, hc1]), N0, rfl⟩
theorem d3_0 : decode jdk_43_method_46_code 0 = .ok (.iconst 1, 1) := by decide +kernel
theorem d3_1 : decode jdk_43_method_46_code 1 = .ok (.newarray .byte, 2) := by decide +kernel
theorem d3_3 : decode jdk_43_method_46_code 3 = .ok (.dup, 1) := by decide +kernel
theorem d3_4 : decode jdk_43_method_46_code 4 = .ok (.iconst 0, 1) := by decide +kernel
theorem d3_5 : decode jdk_43_method_46_code 5 = .ok (.iload_n 0, 1) := by decide +kernel
theorem d3_6 : decode jdk_43_method_46_code 6 = .ok (.i2b, 1) := by decide +kernel
theorem d3_7 : decode jdk_43_method_46_code 7 = .ok (.bastore, 1) := by decide +kernel
theorem d3_8 : decode jdk_43_method_46_code 8 = .ok (.areturn, 1) := by decide +kernel
theorem ef_rm3 (m : MethodId) (cc : Int32) : entryFrame m #[(.int cc)] 1 = mkF m 0 #[.val (.int cc)] [] := by first | (simp [entryFrame, mkF, argsToLocals, Value.category]; done) | rfl
def Q3 (Z : State) (cc : Int32) (h0 : Heap) (n0 : Nat) (v : Option Value) (h : Heap) (L : List Loc) : Prop := ∃ (rr : Addr) (kr : ClassId), v = some (.ref rr) ∧ Fr n0 L ∧ Keep h0 h [] ∧ Arv Z h rr kr .byte (1 : Int32) [(.int (nar .byte (cc.toInt8.toInt32)))] (.int (0 : Int32)) ∧ h0.size ≤ rr
set_option maxRecDepth 65536 in
set_option maxHeartbeats 40000000 in
theorem rm3 (l : Launch) (Z : State) (a0 : Array Value) (hw : ∀ d ∈ tables_1, d.before a0 Z = true) (ws : List Jvm.Cond) (cc : Int32) (h0 : Heap) (n0 : Nat) (O0 : Old Z n0 h0) :
    MetFree l (⟨"java/lang/StringLatin1", "toBytes", "(C)[B"⟩ : MethodName) (head1 (Jvm.Cond.code (⟨"java/lang/StringLatin1", "toBytes", "(C)[B"⟩ : MethodName) jdk_43_method_46_code 1 (some (.array .byte)) :: ws) ({ frames := 0, cells := 1, slots := 1, locals := 0 } : Room)) (fun ay U => ay = #[(.int cc)] ∧ Z.Warmed39 U.vm ∧ U.heap = h0) (fun _ _ _ _ _ => True) (fun _ U o U' => ∃ v L, o = .returned v ∧ Q3 Z cc h0 n0 v U'.heap L ∧ FrameEnd U o U' L ({ frames := 0, cells := 1, slots := 1, locals := 0 } : Room).cells ({ frames := 0, cells := 1, slots := 1, locals := 0 } : Room).slots) := by
  refine MetFree.of_bodySF (plainFor_of_name pn_java_lang_StringLatin1) hisR ?_
  intro p e s m args below meth c s₁ Bd hml0 hP hK
  obtain ⟨rfl, hZ, hh⟩ := hP
  have hx := Bd.exec
  have hby := Bd.bytes
  have hlk : meth.locks = false := BodyLoose.notSynchronized Bd
  have hml : c.maxLocals = 1 := hml0
  have hown : s.vm.findClass "java/lang/StringLatin1" = some m.cls := findClass_of_methodNamed Bd.named
  have hnm := (name_of_methodNamed Bd.named Bd.method).1
  have X0 : Stand p l e ({ frames := 0, cells := 1, slots := 1, locals := 0 } : Room) s m #[(.int cc)] below meth c s₁ [] 0 0 := Stand.of_body Bd
  have e0 : s₁.heap = h0 := by rw [← hh, Bd.state]; rfl
  have N0 := Fr.nil n0
  suffices hgo : Go p e below s 1 1 (Q3 Z cc h0 n0) (s₁.setTop (mkF m 0 #[.val (.int cc)] [])) by
    obtain ⟨t, o, h1, h2⟩ := hgo; exact ⟨t, o, castTop (ef_rm3 m cc) h1, h2⟩
  show Go p e below s _ _ _ (s₁.setTop (mkF m 0 #[.val (.int cc)] []))
  refine Go.st (fun _ k' => XS.iconst X0.here hx rfl (hb hby d3_0) k') ?_
  show Go p e below s _ _ _ (s₁.setTop (mkF m 1 #[.val (.int cc)] [(.int (1 : Int32))]))
  obtain ⟨T1, h1, k1, X1, e1, E1, A1, st1⟩ := newP X0 hx hZ (wdx hw 14 rfl) e0 (g := (mkF m 1 #[.val (.int cc)] [(.int (1 : Int32))])) rfl (hb hby d3_1) rfl (by decide) (cap := 1) (by decide) (by decide) (by decide) (by decide)
  obtain ⟨b1, g1⟩ : ∃ z, z = h0.size := ⟨_, rfl⟩
  rw [← g1] at A1 st1
  refine Go.st st1 ?_
  have g_b1 : n0 ≤ b1 := Nat.le_trans (own_le O0) (Nat.le_of_eq g1.symm)
  have z_b1 : h0.size ≤ b1 := Nat.le_of_eq g1.symm
  have O1 : Old Z n0 h1 := O0.ext E1
  have K1 : Keep h0 h1 [] := (Keep.refl h0 []).ext E1
  have f2 : Arv Z h1 b1 k1 .byte (1 : Int32) [(.int (0 : Int32))] (.int (0 : Int32)) := (Arv.new A1 (by decide)).pad (pad_rep [] (.int (0 : Int32)) 1)
  show Go p e below s _ _ _ (T1.setTop (mkF m 3 #[.val (.int cc)] [(.ref b1)]))
  refine Go.st (fun _ k' => XS.dup X1.here hx rfl (hb hby d3_3) rfl rfl k') ?_
  show Go p e below s _ _ _ (T1.setTop (mkF m 4 #[.val (.int cc)] [(.ref b1), (.ref b1)]))
  refine Go.st (fun _ k' => XS.iconst X1.here hx rfl (hb hby d3_4) k') ?_
  show Go p e below s _ _ _ (T1.setTop (mkF m 5 #[.val (.int cc)] [(.int (0 : Int32)), (.ref b1), (.ref b1)]))
  refine Go.st (fun _ k' => XS.iloadN X1.here hx rfl (hb hby d3_5) rfl k') ?_
  show Go p e below s _ _ _ (T1.setTop (mkF m 6 #[.val (.int cc)] [(.int cc), (.int (0 : Int32)), (.ref b1), (.ref b1)]))
  refine Go.st (fun _ k' => XS.i2b X1.here hx rfl (hb hby d3_6) rfl k') ?_
  show Go p e below s _ _ _ (T1.setTop (mkF m 7 #[.val (.int cc)] [(.int (cc.toInt8.toInt32)), (.int (0 : Int32)), (.ref b1), (.ref b1)]))
  obtain ⟨cl3, Ar3, qc3, Sz3, Nn3, Ha3, Gf3⟩ := id f2
  obtain ⟨T3, h3, X3, e3, W3, st3⟩ := stB X1 hx hZ e1 Ar3 (j := (0 : Int32)) (inb_of Sz3 ⟨by decide, by decide⟩) (g := (mkF m 7 #[.val (.int cc)] [(.int (cc.toInt8.toInt32)), (.int (0 : Int32)), (.ref b1), (.ref b1)])) rfl rfl (hb hby d3_7)
  refine Go.st st3 ?_
  have O3 : Old Z n0 h3 := O1.wr W3 g_b1
  have N3 := Fr.snoc X3 N0 g_b1
  have K3 : Keep h0 h3 [] := K1.wr W3 (Or.inr z_b1)
  have f4 : Arv Z h3 b1 k1 .byte (1 : Int32) [(.int (nar .byte (cc.toInt8.toInt32)))] (.int (0 : Int32)) := Arv.set Ar3 qc3 Sz3 Nn3 Ha3 Gf3 (fits_nar_byte _) W3 0 rfl (Nat.le_of_ble_eq_true rfl)
  show Go p e below s _ _ _ (T3.setTop (mkF m 8 #[.val (.int cc)] [(.ref b1)]))
  refine Go.ret X3 hx hlk (t := (.array .byte)) Bd.returns rfl (Or.inr (Or.inr (Or.inr (Or.inr ⟨rfl, rfl, rfl⟩)))) (hb hby d3_8) (by decide) (by decide) e3 ?_
  exact ⟨b1, k1, rfl, N3, K3, f4, z_b1⟩
theorem d4_0 : decode jdk_42_method_151_code 0 = .ok (.aload_n 0, 1) := by decide +kernel
theorem d4_1 : decode jdk_42_method_151_code 1 = .ok (.invokespecial 1, 3) := by decide +kernel
theorem d4_4 : decode jdk_42_method_151_code 4 = .ok (.aload_n 0, 1) := by decide +kernel
theorem d4_5 : decode jdk_42_method_151_code 5 = .ok (.aload_n 1, 1) := by decide +kernel
theorem d4_6 : decode jdk_42_method_151_code 6 = .ok (.putfield 9, 3) := by decide +kernel
theorem d4_9 : decode jdk_42_method_151_code 9 = .ok (.aload_n 0, 1) := by decide +kernel
theorem d4_10 : decode jdk_42_method_151_code 10 = .ok (.iload_n 2, 1) := by decide +kernel
theorem d4_11 : decode jdk_42_method_151_code 11 = .ok (.putfield 15, 3) := by decide +kernel
theorem d4_14 : decode jdk_42_method_151_code 14 = .ok (.return_, 1) := by decide +kernel
theorem pn_java_lang_String : plainName "java/lang/String" = true := by first | (simp [plainName, overriddenIn]; done) | decide +kernel
theorem ef_rm4 (m : MethodId) (ob : Addr) (bb : Addr) : entryFrame m #[(.ref ob), (.ref bb), (.int (0 : Int32))] 3 = mkF m 0 #[.val (.ref ob), .val (.ref bb), .val (.int (0 : Int32))] [] := by first | (simp [entryFrame, mkF, argsToLocals, Value.category]; done) | rfl
def Q4 (Z : State) (ob : Addr) (bb : Addr) (h0 : Heap) (n0 : Nat) (v : Option Value) (h : Heap) (L : List Loc) : Prop := v = none ∧ Fr n0 L ∧ Keep h0 h [ob] ∧ Fld Z h ob "java/lang/String" "value" "[B" (.ref bb) ∧ Fld Z h ob "java/lang/String" "coder" "B" (.int (0 : Int32))
set_option maxRecDepth 65536 in
set_option maxHeartbeats 40000000 in
theorem rm4 (l : Launch) (Z : State) (a0 : Array Value) (hw : ∀ d ∈ tables_1, d.before a0 Z = true) (ws : List Jvm.Cond) (ob : Addr) (bb : Addr) (h0 : Heap) (n0 : Nat) (O0 : Old Z n0 h0) (E_o : Exa Z h0 ob "java/lang/String") (Fv : Fld Z h0 ob "java/lang/String" "value" "[B" .null) (Fc : Fld Z h0 ob "java/lang/String" "coder" "B" (.int (0 : Int32))) (g_o : n0 ≤ ob) :
    MetFree l (⟨"java/lang/String", "<init>", "([BB)V"⟩ : MethodName) (head1 (Jvm.Cond.code (⟨"java/lang/String", "<init>", "([BB)V"⟩ : MethodName) jdk_42_method_151_code 3 none :: ws) ({ frames := 1, cells := 0, slots := 0, locals := 12 } : Room)) (fun ay U => ay = #[(.ref ob), (.ref bb), (.int (0 : Int32))] ∧ Z.Warmed39 U.vm ∧ U.heap = h0) (fun _ _ _ _ _ => True) (fun _ U o U' => ∃ v L, o = .returned v ∧ Q4 Z ob bb h0 n0 v U'.heap L ∧ FrameEnd U o U' L ({ frames := 1, cells := 0, slots := 0, locals := 12 } : Room).cells ({ frames := 1, cells := 0, slots := 0, locals := 12 } : Room).slots) := by
  refine MetFree.of_bodySF (plainFor_of_name pn_java_lang_String) hisR ?_
  intro p e s m args below meth c s₁ Bd hml0 hP hK
  obtain ⟨rfl, hZ, hh⟩ := hP
  have hx := Bd.exec
  have hby := Bd.bytes
  have hlk : meth.locks = false := BodyLoose.notSynchronized Bd
  have hml : c.maxLocals = 3 := hml0
  have hown : s.vm.findClass "java/lang/String" = some m.cls := findClass_of_methodNamed Bd.named
  have hnm := (name_of_methodNamed Bd.named Bd.method).1
  have X0 : Stand p l e ({ frames := 1, cells := 0, slots := 0, locals := 12 } : Room) s m #[(.ref ob), (.ref bb), (.int (0 : Int32))] below meth c s₁ [] 0 0 := Stand.of_body Bd
  have e0 : s₁.heap = h0 := by rw [← hh, Bd.state]; rfl
  have N0 := Fr.nil n0
  suffices hgo : Go p e below s 0 0 (Q4 Z ob bb h0 n0) (s₁.setTop (mkF m 0 #[.val (.ref ob), .val (.ref bb), .val (.int (0 : Int32))] [])) by
    obtain ⟨t, o, h1, h2⟩ := hgo; exact ⟨t, o, castTop (ef_rm4 m ob bb) h1, h2⟩
  show Go p e below s _ _ _ (s₁.setTop (mkF m 0 #[.val (.ref ob), .val (.ref bb), .val (.int (0 : Int32))] []))
  refine Go.st (fun _ k' => XS.aloadN X0.here hx rfl (hb hby d4_0) rfl rfl k') ?_
  show Go p e below s _ _ _ (s₁.setTop (mkF m 1 #[.val (.ref ob), .val (.ref bb), .val (.int (0 : Int32))] [(.ref ob)]))
  obtain ⟨T1, X1, e1, st1⟩ := initO X0 hx hZ hown (wdx hw 19 rfl) (wdx hw 20 rfl) (wdx hw 21 rfl) e0 (g := (mkF m 1 #[.val (.ref ob), .val (.ref bb), .val (.int (0 : Int32))] [(.ref ob)])) rfl (by rw [hml]; rfl) rfl (hb hby d4_1) (by decide) (W := 0) (by show 2 * 0 + _ ≤ _; exact Nat.le_of_eq rfl) (by decide)
  refine Go.st st1 ?_
  show Go p e below s _ _ _ (T1.setTop (mkF m 4 #[.val (.ref ob), .val (.ref bb), .val (.int (0 : Int32))] []))
  refine Go.st (fun _ k' => XS.aloadN X1.here hx rfl (hb hby d4_4) rfl rfl k') ?_
  show Go p e below s _ _ _ (T1.setTop (mkF m 5 #[.val (.ref ob), .val (.ref bb), .val (.int (0 : Int32))] [(.ref ob)]))
  refine Go.st (fun _ k' => XS.aloadN X1.here hx rfl (hb hby d4_5) rfl rfl k') ?_
  show Go p e below s _ _ _ (T1.setTop (mkF m 6 #[.val (.ref ob), .val (.ref bb), .val (.int (0 : Int32))] [(.ref bb), (.ref ob)]))
  obtain ⟨T2, h2, X2, e2, W2, st2⟩ := putF X1 hx hZ hown (host := "") (Or.inl (wdx hw 22 rfl)) Via.refl e1 Fv E_o (Or.inr ⟨(wdx hw 23 rfl), rfl, hnm⟩) (wdx hw 10 rfl) (ty := (.array .byte)) (by decide) rfl rfl (g := (mkF m 6 #[.val (.ref ob), .val (.ref bb), .val (.int (0 : Int32))] [(.ref bb), (.ref ob)])) rfl rfl (hb hby d4_6)
  refine Go.st st2 ?_
  have f3 : Exa Z h2 ob "java/lang/String" := E_o.wr W2
  have f4 : Fld Z h2 ob "java/lang/String" "value" "[B" (.ref bb) := Fv.same W2
  have f5 : Fld Z h2 ob "java/lang/String" "coder" "B" (.int (0 : Int32)) := Fc.other W2 (Or.inr (slot_ne (Or.inr (wdx hw 25 rfl)) (Or.inr (wdx hw 23 rfl)) (by decide) (t := .byte) (t' := (.array .byte)) (by decide) (by decide)))
  have O2 : Old Z n0 h2 := O0.wr W2 g_o
  have N2 := Fr.snoc X2 N0 g_o
  have K2 : Keep h0 h2 [ob] := (Keep.refl h0 [ob]).wr W2 (Or.inl (by simp))
  show Go p e below s _ _ _ (T2.setTop (mkF m 9 #[.val (.ref ob), .val (.ref bb), .val (.int (0 : Int32))] []))
  refine Go.st (fun _ k' => XS.aloadN X2.here hx rfl (hb hby d4_9) rfl rfl k') ?_
  show Go p e below s _ _ _ (T2.setTop (mkF m 10 #[.val (.ref ob), .val (.ref bb), .val (.int (0 : Int32))] [(.ref ob)]))
  refine Go.st (fun _ k' => XS.iloadN X2.here hx rfl (hb hby d4_10) rfl k') ?_
  show Go p e below s _ _ _ (T2.setTop (mkF m 11 #[.val (.ref ob), .val (.ref bb), .val (.int (0 : Int32))] [(.int (0 : Int32)), (.ref ob)]))
  obtain ⟨T6, h6, X6, e6, W6, st6⟩ := putFN X2 hx hZ hown (wdx hw 24 rfl) Via.refl e2 f5 f3 (Or.inr ⟨(wdx hw 25 rfl), rfl, hnm⟩) (wdx hw 10 rfl) (ty := .byte) (v' := (.int (0 : Int32))) (by decide) rfl rfl (g := (mkF m 11 #[.val (.ref ob), .val (.ref bb), .val (.int (0 : Int32))] [(.int (0 : Int32)), (.ref ob)])) rfl rfl (hb hby d4_11)
  refine Go.st st6 ?_
  have f7 : Exa Z h6 ob "java/lang/String" := f3.wr W6
  have f8 : Fld Z h6 ob "java/lang/String" "value" "[B" (.ref bb) := f4.other W6 (Or.inr (slot_ne (Or.inr (wdx hw 23 rfl)) (Or.inr (wdx hw 25 rfl)) (by decide) (t := (.array .byte)) (t' := .byte) (by decide) (by decide)))
  have f9 : Fld Z h6 ob "java/lang/String" "coder" "B" (.int (0 : Int32)) := f5.same W6
  have O6 : Old Z n0 h6 := O2.wr W6 g_o
  have N6 := Fr.snoc X6 N2 g_o
  have K6 : Keep h0 h6 [ob] := K2.wr W6 (Or.inl (by simp))
  show Go p e below s _ _ _ (T6.setTop (mkF m 14 #[.val (.ref ob), .val (.ref bb), .val (.int (0 : Int32))] []))
  refine Go.retV X6 hx hlk Bd.returns (hb hby d4_14) (by decide) (by decide) e6 ?_
  exact ⟨rfl, N6, K6, f8, f9⟩
theorem d1_0 : decode jdk_42_method_139_code 0 = .ok (.getstatic 38, 3) := by decide +kernel
theorem d1_3 : decode jdk_42_method_139_code 3 = .ok (.ifCond .eq 23, 3) := by decide +kernel
theorem d1_6 : decode jdk_42_method_139_code 6 = .ok (.iload_n 0, 1) := by decide +kernel
theorem pd__C_Z : parseMethodDescriptor "(C)Z" = some ⟨[.char], some .boolean⟩ := by decide +kernel
theorem d1_7 : decode jdk_42_method_139_code 7 = .ok (.invokestatic 1015, 3) := by decide +kernel
theorem d1_10 : decode jdk_42_method_139_code 10 = .ok (.ifCond .eq 16, 3) := by decide +kernel
theorem d1_13 : decode jdk_42_method_139_code 13 = .ok (.new 10, 3) := by decide +kernel
theorem d1_16 : decode jdk_42_method_139_code 16 = .ok (.dup, 1) := by decide +kernel
theorem d1_17 : decode jdk_42_method_139_code 17 = .ok (.iload_n 0, 1) := by decide +kernel
theorem pd__C__B : parseMethodDescriptor "(C)[B" = some ⟨[.char], some (.array .byte)⟩ := by decide +kernel
theorem d1_18 : decode jdk_42_method_139_code 18 = .ok (.invokestatic 1018, 3) := by decide +kernel
theorem d1_21 : decode jdk_42_method_139_code 21 = .ok (.iconst 0, 1) := by decide +kernel
theorem pd___BB_V : parseMethodDescriptor "([BB)V" = some ⟨[(.array .byte), .byte], none⟩ := by decide +kernel
theorem d1_22 : decode jdk_42_method_139_code 22 = .ok (.invokespecial 209, 3) := by decide +kernel
theorem d1_25 : decode jdk_42_method_139_code 25 = .ok (.areturn, 1) := by decide +kernel
theorem ef_rm1 (m : MethodId) (cc : Int32) : entryFrame m #[(.int cc)] 1 = mkF m 0 #[.val (.int cc)] [] := by first | (simp [entryFrame, mkF, argsToLocals, Value.category]; done) | rfl
def Q1 (Z : State) (cc : Int32) (cs : Int32) (h0 : Heap) (n0 : Nat) (v : Option Value) (h : Heap) (L : List Loc) : Prop := ∃ (rr : Addr), v = some (.ref rr) ∧ Fr n0 L ∧ Keep h0 h [] ∧ Exa Z h rr "java/lang/String" ∧ h0.size ≤ rr
set_option maxRecDepth 65536 in
set_option maxHeartbeats 40000000 in
theorem rm1 (l : Launch) (Z : State) (a0 : Array Value) (hw : ∀ d ∈ tables_1, d.before a0 Z = true) (ws : List Jvm.Cond) (cc : Int32) (cs : Int32) (h0 : Heap) (n0 : Nat) (O0 : Old Z n0 h0) (S_cs : Sta Z Z.heap "java/lang/String" "COMPACT_STRINGS" "Z" (.int cs)) (q_cs : ¬ cs = (0 : Int32)) (q_cc : ¬ (255 : Int32) < cc) :
    MetFree l (⟨"java/lang/String", "valueOf", "(C)Ljava/lang/String;"⟩ : MethodName) (head1 (Jvm.Cond.code (⟨"java/lang/String", "valueOf", "(C)Ljava/lang/String;"⟩ : MethodName) jdk_42_method_139_code 1 (some (.object "java/lang/String")) :: ws) ({ frames := 2, cells := 2, slots := 5, locals := 27 } : Room)) (fun ay U => ay = #[(.int cc)] ∧ Z.Warmed39 U.vm ∧ U.heap = h0) (fun _ _ _ _ _ => True) (fun _ U o U' => ∃ v L, o = .returned v ∧ Q1 Z cc cs h0 n0 v U'.heap L ∧ FrameEnd U o U' L ({ frames := 2, cells := 2, slots := 5, locals := 27 } : Room).cells ({ frames := 2, cells := 2, slots := 5, locals := 27 } : Room).slots) := by
  refine MetFree.of_bodySF (plainFor_of_name pn_java_lang_String) hisR ?_
  intro p e s m args below meth c s₁ Bd hml0 hP hK
  obtain ⟨rfl, hZ, hh⟩ := hP
  have hx := Bd.exec
  have hby := Bd.bytes
  have hlk : meth.locks = false := BodyLoose.notSynchronized Bd
  have hml : c.maxLocals = 1 := hml0
  have hown : s.vm.findClass "java/lang/String" = some m.cls := findClass_of_methodNamed Bd.named
  have hnm := (name_of_methodNamed Bd.named Bd.method).1
  have X0 : Stand p l e ({ frames := 2, cells := 2, slots := 5, locals := 27 } : Room) s m #[(.int cc)] below meth c s₁ [] 0 0 := Stand.of_body Bd
  have e0 : s₁.heap = h0 := by rw [← hh, Bd.state]; rfl
  have N0 := Fr.nil n0
  suffices hgo : Go p e below s 2 5 (Q1 Z cc cs h0 n0) (s₁.setTop (mkF m 0 #[.val (.int cc)] [])) by
    obtain ⟨t, o, h1, h2⟩ := hgo; exact ⟨t, o, castTop (ef_rm1 m cc) h1, h2⟩
  show Go p e below s _ _ _ (s₁.setTop (mkF m 0 #[.val (.int cc)] []))
  obtain ⟨T1, X1, e1, st1⟩ := getS2 X0 hx hZ hown (host := "") (Or.inl (wdx hw 4 rfl)) Via.refl e0 (S_cs.ext O0.2) (g := (mkF m 0 #[.val (.int cc)] [])) rfl (hb hby d1_0)
  refine Go.st st1 ?_
  show Go p e below s _ _ _ (T1.setTop (mkF m 3 #[.val (.int cc)] [(.int cs)]))
  refine Go.st (fun _ k' => XS.ifNo X1.here hx rfl (hb hby d1_3) rfl (XT.i0_eq_f q_cs) k') ?_
  show Go p e below s _ _ _ (T1.setTop (mkF m 6 #[.val (.int cc)] []))
  refine Go.st (fun _ k' => XS.iloadN X1.here hx rfl (hb hby d1_6) rfl k') ?_
  show Go p e below s _ _ _ (T1.setTop (mkF m 7 #[.val (.int cc)] [(.int cc)]))
  obtain ⟨_, _, ⟨T2, L2, k2, n2⟩, -, X2, ⟨Lc2, hQ2, l2, y2, z2⟩, st2⟩ := Jvm.LawKit.callS X1 hx (y := (⟨"java/lang/StringLatin1", "canEncode", "(C)Z"⟩ : MethodName)) hown (mvT hZ (wdx hw 5 rfl)) (mvT hZ (wdx hw 6 rfl)) (mvT hZ (wdx hw 7 rfl)) (mvT hZ (wdx hw 8 rfl)) (by decide) (backOf (W := 0) (rm2 l Z a0 hw [] cc h0 n0 O0 ) hZ (wdx hw 8 rfl) (wdx hw 7 rfl) (by decide) (by decide)) (g := (mkF m 7 #[.val (.int cc)] [(.int cc)])) rfl (by rw [hml]; rfl) (argsL := [(.int cc)]) (rest := []) (lenOf pd__C_Z rfl) rfl (by show 2 * 0 + _ ≤ _; exact Nat.le_of_eq rfl) (hb hby d1_7) (fun _ _ => ⟨rfl, e1, (by exact Nat.le_of_ble_eq_true rfl), (by exact Nat.le_of_ble_eq_true rfl)⟩)
  dsimp only [Pt.U, Pt.locs, Pt.cells, Pt.slots] at X2 l2 y2 z2 st2 hQ2
  subst l2 y2 z2
  obtain ⟨rfl, Nq2, eq2⟩ := hQ2
  have N2 := Fr.app N0 Nq2
  refine Go.st st2 ?_
  show Go p e below s _ _ _ (T2.setTop (mkF m 10 #[.val (.int cc)] [(.int (if (255 : Int32) < cc then (0 : Int32) else 1))]))
  refine Go.st (fun _ k' => XS.ifNo X2.here hx rfl (hb hby d1_10) rfl (XT.i0_eq_f (by simp [q_cc])) k') ?_
  show Go p e below s _ _ _ (T2.setTop (mkF m 13 #[.val (.int cc)] []))
  obtain ⟨T3, h3, X3, e3, E3, A3, D3, -, st3⟩ := newO X2 hx hZ hown (wdx hw 9 rfl) (wdx hw 10 rfl) (wdx hw 2 rfl) eq2 (g := (mkF m 13 #[.val (.int cc)] [])) rfl (hb hby d1_13) (by decide) (by decide)
  obtain ⟨b3, g3⟩ : ∃ z, z = h0.size := ⟨_, rfl⟩
  rw [← g3] at A3 D3 st3
  refine Go.st st3 ?_
  have g_b3 : n0 ≤ b3 := Nat.le_trans (own_le O0) (Nat.le_of_eq g3.symm)
  have z_b3 : h0.size ≤ b3 := Nat.le_of_eq g3.symm
  have O3 : Old Z n0 h3 := O0.ext E3
  have K3 : Keep h0 h3 [] := (Keep.refl h0 []).ext E3
  have f4 : Fld Z h3 b3 "java/lang/String" "value" "[B" .null := D3 (Or.inr (wdx hw 23 rfl)) (ty := (.array .byte)) (by decide)
  have f5 : Fld Z h3 b3 "java/lang/String" "coder" "B" (.int (0 : Int32)) := D3 (Or.inr (wdx hw 25 rfl)) (ty := .byte) (by decide)
  show Go p e below s _ _ _ (T3.setTop (mkF m 16 #[.val (.int cc)] [(.ref b3)]))
  refine Go.st (fun _ k' => XS.dup X3.here hx rfl (hb hby d1_16) rfl rfl k') ?_
  show Go p e below s _ _ _ (T3.setTop (mkF m 17 #[.val (.int cc)] [(.ref b3), (.ref b3)]))
  refine Go.st (fun _ k' => XS.iloadN X3.here hx rfl (hb hby d1_17) rfl k') ?_
  show Go p e below s _ _ _ (T3.setTop (mkF m 18 #[.val (.int cc)] [(.int cc), (.ref b3), (.ref b3)]))
  obtain ⟨_, _, ⟨T6, L6, k6, n6⟩, -, X6, ⟨Lc6, hQ6, l6, y6, z6⟩, st6⟩ := Jvm.LawKit.callS X3 hx (y := (⟨"java/lang/StringLatin1", "toBytes", "(C)[B"⟩ : MethodName)) hown (mvT hZ (wdx hw 11 rfl)) (mvT hZ (wdx hw 12 rfl)) (mvT hZ (wdx hw 7 rfl)) (mvT hZ (wdx hw 13 rfl)) (by decide) (backOf (W := 2) (rm3 l Z a0 hw [] cc h3 n0 O3 ) hZ (wdx hw 13 rfl) (wdx hw 7 rfl) (by decide) (by decide)) (g := (mkF m 18 #[.val (.int cc)] [(.int cc), (.ref b3), (.ref b3)])) rfl (by rw [hml]; rfl) (argsL := [(.int cc)]) (rest := [(.ref b3), (.ref b3)]) (lenOf pd__C__B rfl) rfl (by show 2 * 0 + _ ≤ _; exact Nat.le_of_eq rfl) (hb hby d1_18) (fun _ _ => ⟨rfl, e3, (by exact Nat.le_of_ble_eq_true rfl), (by exact Nat.le_of_ble_eq_true rfl)⟩)
  dsimp only [Pt.U, Pt.locs, Pt.cells, Pt.slots] at X6 l6 y6 z6 st6 hQ6
  subst l6 y6 z6
  obtain ⟨rr_6, kr_6, rfl, Nq6, Kq6, f7, szr_6⟩ := hQ6
  have N6 := Fr.app N2 Nq6
  refine Go.st st6 ?_
  have f8 : Exa Z T6.heap b3 "java/lang/String" := A3.keep Kq6
  have f9 : Fld Z T6.heap b3 "java/lang/String" "value" "[B" .null := f4.keep Kq6 nin0
  have f10 : Fld Z T6.heap b3 "java/lang/String" "coder" "B" (.int (0 : Int32)) := f5.keep Kq6 nin0
  have O6 : Old Z n0 T6.heap := O3.keep Kq6 all0
  have K6 : Keep h0 T6.heap [] := K3.trans Kq6 all0
  have g_rr_6 : n0 ≤ rr_6 := Nat.le_trans (own_le O3) szr_6
  have z_rr_6 : h0.size ≤ rr_6 := Nat.le_trans K3.1 szr_6
  have ne11 : b3 ≠ rr_6 := Nat.ne_of_lt (Nat.lt_of_lt_of_le A3.lt szr_6)
  show Go p e below s _ _ _ (T6.setTop (mkF m 21 #[.val (.int cc)] [(.ref rr_6), (.ref b3), (.ref b3)]))
  refine Go.st (fun _ k' => XS.iconst X6.here hx rfl (hb hby d1_21) k') ?_
  show Go p e below s _ _ _ (T6.setTop (mkF m 22 #[.val (.int cc)] [(.int (0 : Int32)), (.ref rr_6), (.ref b3), (.ref b3)]))
  obtain ⟨_, _, ⟨T12, L12, k12, n12⟩, -, X12, ⟨Lc12, hQ12, l12, y12, z12⟩, st12⟩ := X6.specialBack hx (y := (⟨"java/lang/String", "<init>", "([BB)V"⟩ : MethodName)) rfl hown (mvT hZ (wdx hw 15 rfl)) (mvT hZ (wdx hw 16 rfl)) (mvT hZ (wdx hw 18 rfl)) (by decide) (backOf (W := 1) (rm4 l Z a0 hw [] b3 rr_6 T6.heap n0 O6 f8 f9 f10 g_b3) hZ (wdx hw 18 rfl) (wdx hw 2 rfl) (by decide) (by decide)) (g := (mkF m 22 #[.val (.int cc)] [(.int (0 : Int32)), (.ref rr_6), (.ref b3), (.ref b3)])) rfl (by rw [hml]; rfl) (Steps.refl _) (a := b3) (argsL := [(.ref rr_6), (.int (0 : Int32))]) (rest := [(.ref b3)]) (lenOf pd___BB_V rfl) rfl (by show 2 * 0 + _ ≤ _; exact Nat.le_of_eq rfl) (hb hby d1_22) (fun _ _ => ⟨rfl, rfl, (by exact Nat.le_of_ble_eq_true rfl), (by exact Nat.le_of_ble_eq_true rfl)⟩)
  dsimp only [Pt.U, Pt.locs, Pt.cells, Pt.slots] at X12 l12 y12 z12 st12 hQ12
  subst l12 y12 z12
  obtain ⟨rfl, Nq12, Kq12, f13, f14⟩ := hQ12
  have N12 := Fr.app N6 Nq12
  refine Go.tr st12 ?_
  have f15 : Exa Z T12.heap b3 "java/lang/String" := f8.keep Kq12
  have f16 : Arv Z T12.heap rr_6 kr_6 .byte (1 : Int32) [(.int (nar .byte (cc.toInt8.toInt32)))] (.int (0 : Int32)) := f7.keep Kq12 (ninS (Ne.symm ne11) nin0)
  have O12 : Old Z n0 T12.heap := O6.keep Kq12 (allS g_b3 all0)
  have K12 : Keep h0 T12.heap [] := K6.trans Kq12 (allS (Or.inr z_b3) all0)
  show Go p e below s _ _ _ (T12.setTop (mkF m 25 #[.val (.int cc)] [(.ref b3)]))
  refine Go.ret X12 hx hlk (t := (.object "java/lang/String")) Bd.returns rfl (Or.inr (Or.inr (Or.inr (Or.inr ⟨rfl, rfl, rfl⟩)))) (hb hby d1_25) (by decide) (by decide) rfl ?_
  exact ⟨b3, rfl, N12, K12, f15, z_b3⟩
theorem d11_0 : decode jdk_71_method_1_code 0 = .ok (.aload_n 0, 1) := by decide +kernel
theorem d11_1 : decode jdk_71_method_1_code 1 = .ok (.invokespecial 1, 3) := by decide +kernel
theorem d11_4 : decode jdk_71_method_1_code 4 = .ok (.return_, 1) := by decide +kernel
theorem pn_java_util_AbstractMap : plainName "java/util/AbstractMap" = true := by first | (simp [plainName, overriddenIn]; done) | decide +kernel
theorem ef_rm11 (m : MethodId) (ob : Addr) : entryFrame m #[(.ref ob)] 1 = mkF m 0 #[.val (.ref ob)] [] := by first | (simp [entryFrame, mkF, argsToLocals, Value.category]; done) | rfl
def Q11 (Z : State) (ob : Addr) (h0 : Heap) (n0 : Nat) (v : Option Value) (h : Heap) (L : List Loc) : Prop := v = none ∧ Fr n0 L ∧ h = h0
set_option maxRecDepth 65536 in
set_option maxHeartbeats 40000000 in
theorem rm11 (l : Launch) (Z : State) (a0 : Array Value) (hw : ∀ d ∈ tables_1, d.before a0 Z = true) (ws : List Jvm.Cond) (ob : Addr) (h0 : Heap) (n0 : Nat) (O0 : Old Z n0 h0) :
    MetFree l (⟨"java/util/AbstractMap", "<init>", "()V"⟩ : MethodName) (head1 (Jvm.Cond.code (⟨"java/util/AbstractMap", "<init>", "()V"⟩ : MethodName) jdk_71_method_1_code 1 none :: ws) ({ frames := 1, cells := 0, slots := 0, locals := 12 } : Room)) (fun ay U => ay = #[(.ref ob)] ∧ Z.Warmed39 U.vm ∧ U.heap = h0) (fun _ _ _ _ _ => True) (fun _ U o U' => ∃ v L, o = .returned v ∧ Q11 Z ob h0 n0 v U'.heap L ∧ FrameEnd U o U' L ({ frames := 1, cells := 0, slots := 0, locals := 12 } : Room).cells ({ frames := 1, cells := 0, slots := 0, locals := 12 } : Room).slots) := by
  refine MetFree.of_bodySF (plainFor_of_name pn_java_util_AbstractMap) hisR ?_
  intro p e s m args below meth c s₁ Bd hml0 hP hK
  obtain ⟨rfl, hZ, hh⟩ := hP
  have hx := Bd.exec
  have hby := Bd.bytes
  have hlk : meth.locks = false := BodyLoose.notSynchronized Bd
  have hml : c.maxLocals = 1 := hml0
  have hown : s.vm.findClass "java/util/AbstractMap" = some m.cls := findClass_of_methodNamed Bd.named
  have hnm := (name_of_methodNamed Bd.named Bd.method).1
  have X0 : Stand p l e ({ frames := 1, cells := 0, slots := 0, locals := 12 } : Room) s m #[(.ref ob)] below meth c s₁ [] 0 0 := Stand.of_body Bd
  have e0 : s₁.heap = h0 := by rw [← hh, Bd.state]; rfl
  have N0 := Fr.nil n0
  suffices hgo : Go p e below s 0 0 (Q11 Z ob h0 n0) (s₁.setTop (mkF m 0 #[.val (.ref ob)] [])) by
    obtain ⟨t, o, h1, h2⟩ := hgo; exact ⟨t, o, castTop (ef_rm11 m ob) h1, h2⟩
  show Go p e below s _ _ _ (s₁.setTop (mkF m 0 #[.val (.ref ob)] []))
  refine Go.st (fun _ k' => XS.aloadN X0.here hx rfl (hb hby d11_0) rfl rfl k') ?_
  show Go p e below s _ _ _ (s₁.setTop (mkF m 1 #[.val (.ref ob)] [(.ref ob)]))
  obtain ⟨T1, X1, e1, st1⟩ := initO X0 hx hZ hown (wdx hw 67 rfl) (wdx hw 20 rfl) (wdx hw 21 rfl) e0 (g := (mkF m 1 #[.val (.ref ob)] [(.ref ob)])) rfl (by rw [hml]; rfl) rfl (hb hby d11_1) (by decide) (W := 0) (by show 2 * 0 + _ ≤ _; exact Nat.le_of_eq rfl) (by decide)
  refine Go.st st1 ?_
  show Go p e below s _ _ _ (T1.setTop (mkF m 4 #[.val (.ref ob)] []))
  refine Go.retV X1 hx hlk Bd.returns (hb hby d11_4) (by decide) (by decide) e1 ?_
  exact ⟨rfl, N0, rfl⟩
theorem d9_0 : decode jdk_22_method_1_code 0 = .ok (.aload_n 0, 1) := by decide +kernel
theorem d9_1 : decode jdk_22_method_1_code 1 = .ok (.invokespecial 1, 3) := by decide +kernel
theorem d9_4 : decode jdk_22_method_1_code 4 = .ok (.return_, 1) := by decide +kernel
theorem pn_java_util_AbstractCollection : plainName "java/util/AbstractCollection" = true := by first | (simp [plainName, overriddenIn]; done) | decide +kernel
theorem ef_rm9 (m : MethodId) (ob : Addr) : entryFrame m #[(.ref ob)] 1 = mkF m 0 #[.val (.ref ob)] [] := by first | (simp [entryFrame, mkF, argsToLocals, Value.category]; done) | rfl
def Q9 (Z : State) (ob : Addr) (h0 : Heap) (n0 : Nat) (v : Option Value) (h : Heap) (L : List Loc) : Prop := v = none ∧ Fr n0 L ∧ h = h0
set_option maxRecDepth 65536 in
set_option maxHeartbeats 40000000 in
theorem rm9 (l : Launch) (Z : State) (a0 : Array Value) (hw : ∀ d ∈ tables_1, d.before a0 Z = true) (ws : List Jvm.Cond) (ob : Addr) (h0 : Heap) (n0 : Nat) (O0 : Old Z n0 h0) :
    MetFree l (⟨"java/util/AbstractCollection", "<init>", "()V"⟩ : MethodName) (head1 (Jvm.Cond.code (⟨"java/util/AbstractCollection", "<init>", "()V"⟩ : MethodName) jdk_22_method_1_code 1 none :: ws) ({ frames := 1, cells := 0, slots := 0, locals := 12 } : Room)) (fun ay U => ay = #[(.ref ob)] ∧ Z.Warmed39 U.vm ∧ U.heap = h0) (fun _ _ _ _ _ => True) (fun _ U o U' => ∃ v L, o = .returned v ∧ Q9 Z ob h0 n0 v U'.heap L ∧ FrameEnd U o U' L ({ frames := 1, cells := 0, slots := 0, locals := 12 } : Room).cells ({ frames := 1, cells := 0, slots := 0, locals := 12 } : Room).slots) := by
  refine MetFree.of_bodySF (plainFor_of_name pn_java_util_AbstractCollection) hisR ?_
  intro p e s m args below meth c s₁ Bd hml0 hP hK
  obtain ⟨rfl, hZ, hh⟩ := hP
  have hx := Bd.exec
  have hby := Bd.bytes
  have hlk : meth.locks = false := BodyLoose.notSynchronized Bd
  have hml : c.maxLocals = 1 := hml0
  have hown : s.vm.findClass "java/util/AbstractCollection" = some m.cls := findClass_of_methodNamed Bd.named
  have hnm := (name_of_methodNamed Bd.named Bd.method).1
  have X0 : Stand p l e ({ frames := 1, cells := 0, slots := 0, locals := 12 } : Room) s m #[(.ref ob)] below meth c s₁ [] 0 0 := Stand.of_body Bd
  have e0 : s₁.heap = h0 := by rw [← hh, Bd.state]; rfl
  have N0 := Fr.nil n0
  suffices hgo : Go p e below s 0 0 (Q9 Z ob h0 n0) (s₁.setTop (mkF m 0 #[.val (.ref ob)] [])) by
    obtain ⟨t, o, h1, h2⟩ := hgo; exact ⟨t, o, castTop (ef_rm9 m ob) h1, h2⟩
  show Go p e below s _ _ _ (s₁.setTop (mkF m 0 #[.val (.ref ob)] []))
  refine Go.st (fun _ k' => XS.aloadN X0.here hx rfl (hb hby d9_0) rfl rfl k') ?_
  show Go p e below s _ _ _ (s₁.setTop (mkF m 1 #[.val (.ref ob)] [(.ref ob)]))
  obtain ⟨T1, X1, e1, st1⟩ := initO X0 hx hZ hown (wdx hw 53 rfl) (wdx hw 20 rfl) (wdx hw 21 rfl) e0 (g := (mkF m 1 #[.val (.ref ob)] [(.ref ob)])) rfl (by rw [hml]; rfl) rfl (hb hby d9_1) (by decide) (W := 0) (by show 2 * 0 + _ ≤ _; exact Nat.le_of_eq rfl) (by decide)
  refine Go.st st1 ?_
  show Go p e below s _ _ _ (T1.setTop (mkF m 4 #[.val (.ref ob)] []))
  refine Go.retV X1 hx hlk Bd.returns (hb hby d9_4) (by decide) (by decide) e1 ?_
  exact ⟨rfl, N0, rfl⟩
theorem d8_0 : decode jdk_91_method_1_code 0 = .ok (.aload_n 0, 1) := by decide +kernel
theorem pd___V : parseMethodDescriptor "()V" = some ⟨[], none⟩ := by decide +kernel
theorem d8_1 : decode jdk_91_method_1_code 1 = .ok (.invokespecial 1, 3) := by decide +kernel
theorem d8_4 : decode jdk_91_method_1_code 4 = .ok (.return_, 1) := by decide +kernel
theorem pn_java_util_AbstractSet : plainName "java/util/AbstractSet" = true := by first | (simp [plainName, overriddenIn]; done) | decide +kernel
theorem ef_rm8 (m : MethodId) (ob : Addr) : entryFrame m #[(.ref ob)] 1 = mkF m 0 #[.val (.ref ob)] [] := by first | (simp [entryFrame, mkF, argsToLocals, Value.category]; done) | rfl
def Q8 (Z : State) (ob : Addr) (h0 : Heap) (n0 : Nat) (v : Option Value) (h : Heap) (L : List Loc) : Prop := v = none ∧ Fr n0 L ∧ h = h0
set_option maxRecDepth 65536 in
set_option maxHeartbeats 40000000 in
theorem rm8 (l : Launch) (Z : State) (a0 : Array Value) (hw : ∀ d ∈ tables_1, d.before a0 Z = true) (ws : List Jvm.Cond) (ob : Addr) (h0 : Heap) (n0 : Nat) (O0 : Old Z n0 h0) :
    MetFree l (⟨"java/util/AbstractSet", "<init>", "()V"⟩ : MethodName) (head1 (Jvm.Cond.code (⟨"java/util/AbstractSet", "<init>", "()V"⟩ : MethodName) jdk_91_method_1_code 1 none :: ws) ({ frames := 2, cells := 0, slots := 0, locals := 24 } : Room)) (fun ay U => ay = #[(.ref ob)] ∧ Z.Warmed39 U.vm ∧ U.heap = h0) (fun _ _ _ _ _ => True) (fun _ U o U' => ∃ v L, o = .returned v ∧ Q8 Z ob h0 n0 v U'.heap L ∧ FrameEnd U o U' L ({ frames := 2, cells := 0, slots := 0, locals := 24 } : Room).cells ({ frames := 2, cells := 0, slots := 0, locals := 24 } : Room).slots) := by
  refine MetFree.of_bodySF (plainFor_of_name pn_java_util_AbstractSet) hisR ?_
  intro p e s m args below meth c s₁ Bd hml0 hP hK
  obtain ⟨rfl, hZ, hh⟩ := hP
  have hx := Bd.exec
  have hby := Bd.bytes
  have hlk : meth.locks = false := BodyLoose.notSynchronized Bd
  have hml : c.maxLocals = 1 := hml0
  have hown : s.vm.findClass "java/util/AbstractSet" = some m.cls := findClass_of_methodNamed Bd.named
  have hnm := (name_of_methodNamed Bd.named Bd.method).1
  have X0 : Stand p l e ({ frames := 2, cells := 0, slots := 0, locals := 24 } : Room) s m #[(.ref ob)] below meth c s₁ [] 0 0 := Stand.of_body Bd
  have e0 : s₁.heap = h0 := by rw [← hh, Bd.state]; rfl
  have N0 := Fr.nil n0
  suffices hgo : Go p e below s 0 0 (Q8 Z ob h0 n0) (s₁.setTop (mkF m 0 #[.val (.ref ob)] [])) by
    obtain ⟨t, o, h1, h2⟩ := hgo; exact ⟨t, o, castTop (ef_rm8 m ob) h1, h2⟩
  show Go p e below s _ _ _ (s₁.setTop (mkF m 0 #[.val (.ref ob)] []))
  refine Go.st (fun _ k' => XS.aloadN X0.here hx rfl (hb hby d8_0) rfl rfl k') ?_
  show Go p e below s _ _ _ (s₁.setTop (mkF m 1 #[.val (.ref ob)] [(.ref ob)]))
  obtain ⟨_, _, ⟨T1, L1, k1, n1⟩, -, X1, ⟨Lc1, hQ1, l1, y1, z1⟩, st1⟩ := X0.specialBack hx (y := (⟨"java/util/AbstractCollection", "<init>", "()V"⟩ : MethodName)) rfl hown (mvT hZ (wdx hw 47 rfl)) (mvT hZ (wdx hw 48 rfl)) (mvT hZ (wdx hw 52 rfl)) (by decide) (backOf (W := 0) (rm9 l Z a0 hw [] ob h0 n0 O0 ) hZ (wdx hw 52 rfl) (wdx hw 51 rfl) (by decide) (by decide)) (g := (mkF m 1 #[.val (.ref ob)] [(.ref ob)])) rfl (by rw [hml]; rfl) (Steps.refl _) (a := ob) (argsL := []) (rest := []) (lenOf pd___V rfl) rfl (by show 2 * 0 + _ ≤ _; exact Nat.le_of_eq rfl) (hb hby d8_1) (fun _ _ => ⟨rfl, e0, (by exact Nat.le_of_ble_eq_true rfl), (by exact Nat.le_of_ble_eq_true rfl)⟩)
  dsimp only [Pt.U, Pt.locs, Pt.cells, Pt.slots] at X1 l1 y1 z1 st1 hQ1
  subst l1 y1 z1
  obtain ⟨rfl, Nq1, eq1⟩ := hQ1
  have N1 := Fr.app N0 Nq1
  refine Go.tr st1 ?_
  show Go p e below s _ _ _ (T1.setTop (mkF m 4 #[.val (.ref ob)] []))
  refine Go.retV X1 hx hlk Bd.returns (hb hby d8_4) (by decide) (by decide) eq1 ?_
  exact ⟨rfl, N1, rfl⟩
theorem d10_0 : decode jdk_69_method_7_code 0 = .ok (.aload_n 0, 1) := by decide +kernel
theorem d10_1 : decode jdk_69_method_7_code 1 = .ok (.invokespecial 43, 3) := by decide +kernel
theorem d10_4 : decode jdk_69_method_7_code 4 = .ok (.aload_n 0, 1) := by decide +kernel
theorem d10_5 : decode jdk_69_method_7_code 5 = .ok (.ldc 92, 2) := by decide +kernel
theorem d10_7 : decode jdk_69_method_7_code 7 = .ok (.putfield 81, 3) := by decide +kernel
theorem d10_10 : decode jdk_69_method_7_code 10 = .ok (.return_, 1) := by decide +kernel
theorem pn_java_util_HashMap : plainName "java/util/HashMap" = true := by first | (simp [plainName, overriddenIn]; done) | decide +kernel
theorem ef_rm10 (m : MethodId) (ob : Addr) : entryFrame m #[(.ref ob)] 1 = mkF m 0 #[.val (.ref ob)] [] := by first | (simp [entryFrame, mkF, argsToLocals, Value.category]; done) | rfl
def Q10 (Z : State) (ob : Addr) (h0 : Heap) (n0 : Nat) (v : Option Value) (h : Heap) (L : List Loc) : Prop := v = none ∧ Fr n0 L ∧ Keep h0 h [ob]
set_option maxRecDepth 65536 in
set_option maxHeartbeats 40000000 in
theorem rm10 (l : Launch) (Z : State) (a0 : Array Value) (hw : ∀ d ∈ tables_1, d.before a0 Z = true) (ws : List Jvm.Cond) (ob : Addr) (h0 : Heap) (n0 : Nat) (O0 : Old Z n0 h0) (E_o : Exa Z h0 ob "java/util/HashMap") (Fa : Fld Z h0 ob "java/util/HashMap" "loadFactor" "F" (.float (0 : UInt32))) (g_o : n0 ≤ ob) :
    MetFree l (⟨"java/util/HashMap", "<init>", "()V"⟩ : MethodName) (head1 (Jvm.Cond.code (⟨"java/util/HashMap", "<init>", "()V"⟩ : MethodName) jdk_69_method_7_code 1 none :: ws) ({ frames := 2, cells := 0, slots := 0, locals := 24 } : Room)) (fun ay U => ay = #[(.ref ob)] ∧ Z.Warmed39 U.vm ∧ U.heap = h0) (fun _ _ _ _ _ => True) (fun _ U o U' => ∃ v L, o = .returned v ∧ Q10 Z ob h0 n0 v U'.heap L ∧ FrameEnd U o U' L ({ frames := 2, cells := 0, slots := 0, locals := 24 } : Room).cells ({ frames := 2, cells := 0, slots := 0, locals := 24 } : Room).slots) := by
  refine MetFree.of_bodySF (plainFor_of_name pn_java_util_HashMap) hisR ?_
  intro p e s m args below meth c s₁ Bd hml0 hP hK
  obtain ⟨rfl, hZ, hh⟩ := hP
  have hx := Bd.exec
  have hby := Bd.bytes
  have hlk : meth.locks = false := BodyLoose.notSynchronized Bd
  have hml : c.maxLocals = 1 := hml0
  have hown : s.vm.findClass "java/util/HashMap" = some m.cls := findClass_of_methodNamed Bd.named
  have hnm := (name_of_methodNamed Bd.named Bd.method).1
  have X0 : Stand p l e ({ frames := 2, cells := 0, slots := 0, locals := 24 } : Room) s m #[(.ref ob)] below meth c s₁ [] 0 0 := Stand.of_body Bd
  have e0 : s₁.heap = h0 := by rw [← hh, Bd.state]; rfl
  have N0 := Fr.nil n0
  suffices hgo : Go p e below s 0 0 (Q10 Z ob h0 n0) (s₁.setTop (mkF m 0 #[.val (.ref ob)] [])) by
    obtain ⟨t, o, h1, h2⟩ := hgo; exact ⟨t, o, castTop (ef_rm10 m ob) h1, h2⟩
  show Go p e below s _ _ _ (s₁.setTop (mkF m 0 #[.val (.ref ob)] []))
  refine Go.st (fun _ k' => XS.aloadN X0.here hx rfl (hb hby d10_0) rfl rfl k') ?_
  show Go p e below s _ _ _ (s₁.setTop (mkF m 1 #[.val (.ref ob)] [(.ref ob)]))
  obtain ⟨_, _, ⟨T1, L1, k1, n1⟩, -, X1, ⟨Lc1, hQ1, l1, y1, z1⟩, st1⟩ := X0.specialBack hx (y := (⟨"java/util/AbstractMap", "<init>", "()V"⟩ : MethodName)) rfl hown (mvT hZ (wdx hw 61 rfl)) (mvT hZ (wdx hw 62 rfl)) (mvT hZ (wdx hw 66 rfl)) (by decide) (backOf (W := 0) (rm11 l Z a0 hw [] ob h0 n0 O0 ) hZ (wdx hw 66 rfl) (wdx hw 65 rfl) (by decide) (by decide)) (g := (mkF m 1 #[.val (.ref ob)] [(.ref ob)])) rfl (by rw [hml]; rfl) (Steps.refl _) (a := ob) (argsL := []) (rest := []) (lenOf pd___V rfl) rfl (by show 2 * 0 + _ ≤ _; exact Nat.le_of_eq rfl) (hb hby d10_1) (fun _ _ => ⟨rfl, e0, (by exact Nat.le_of_ble_eq_true rfl), (by exact Nat.le_of_ble_eq_true rfl)⟩)
  dsimp only [Pt.U, Pt.locs, Pt.cells, Pt.slots] at X1 l1 y1 z1 st1 hQ1
  subst l1 y1 z1
  obtain ⟨rfl, Nq1, eq1⟩ := hQ1
  have N1 := Fr.app N0 Nq1
  refine Go.tr st1 ?_
  show Go p e below s _ _ _ (T1.setTop (mkF m 4 #[.val (.ref ob)] []))
  refine Go.st (fun _ k' => XS.aloadN X1.here hx rfl (hb hby d10_4) rfl rfl k') ?_
  show Go p e below s _ _ _ (T1.setTop (mkF m 5 #[.val (.ref ob)] [(.ref ob)]))
  refine Go.st (fun _ k' => X1.ldcFloatC hx hown (mvT hZ (wdx hw 68 rfl)) (g := (mkF m 5 #[.val (.ref ob)] [(.ref ob)])) rfl (hb hby d10_5) _ k') ?_
  show Go p e below s _ _ _ (T1.setTop (mkF m 7 #[.val (.ref ob)] [(.float (1061158912 : UInt32)), (.ref ob)]))
  obtain ⟨T2, h2, X2, e2, W2, st2⟩ := putF X1 hx hZ hown (host := "") (Or.inl (wdx hw 69 rfl)) Via.refl eq1 Fa E_o (Or.inr ⟨(wdx hw 70 rfl), rfl, hnm⟩) (wdx hw 55 rfl) (ty := .float) (by decide) rfl rfl (g := (mkF m 7 #[.val (.ref ob)] [(.float (1061158912 : UInt32)), (.ref ob)])) rfl rfl (hb hby d10_7)
  refine Go.st st2 ?_
  have f3 : Exa Z h2 ob "java/util/HashMap" := E_o.wr W2
  have f4 : Fld Z h2 ob "java/util/HashMap" "loadFactor" "F" (.float (1061158912 : UInt32)) := Fa.same W2
  have O2 : Old Z n0 h2 := O0.wr W2 g_o
  have N2 := Fr.snoc X2 N1 g_o
  have K2 : Keep h0 h2 [ob] := (Keep.refl h0 [ob]).wr W2 (Or.inl (by simp))
  show Go p e below s _ _ _ (T2.setTop (mkF m 10 #[.val (.ref ob)] []))
  refine Go.retV X2 hx hlk Bd.returns (hb hby d10_10) (by decide) (by decide) e2 ?_
  exact ⟨rfl, N2, K2⟩
theorem d7_0 : decode jdk_93_method_1_code 0 = .ok (.aload_n 0, 1) := by decide +kernel
theorem d7_1 : decode jdk_93_method_1_code 1 = .ok (.invokespecial 1, 3) := by decide +kernel
theorem d7_4 : decode jdk_93_method_1_code 4 = .ok (.aload_n 0, 1) := by decide +kernel
theorem d7_5 : decode jdk_93_method_1_code 5 = .ok (.new 7, 3) := by decide +kernel
theorem d7_8 : decode jdk_93_method_1_code 8 = .ok (.dup, 1) := by decide +kernel
theorem d7_9 : decode jdk_93_method_1_code 9 = .ok (.invokespecial 9, 3) := by decide +kernel
theorem d7_12 : decode jdk_93_method_1_code 12 = .ok (.putfield 10, 3) := by decide +kernel
theorem d7_15 : decode jdk_93_method_1_code 15 = .ok (.return_, 1) := by decide +kernel
theorem pn_java_util_HashSet : plainName "java/util/HashSet" = true := by first | (simp [plainName, overriddenIn]; done) | decide +kernel
theorem ef_rm7 (m : MethodId) (ob : Addr) : entryFrame m #[(.ref ob)] 1 = mkF m 0 #[.val (.ref ob)] [] := by first | (simp [entryFrame, mkF, argsToLocals, Value.category]; done) | rfl
def Q7 (Z : State) (ob : Addr) (h0 : Heap) (n0 : Nat) (v : Option Value) (h : Heap) (L : List Loc) : Prop := v = none ∧ Fr n0 L ∧ Keep h0 h [ob]
set_option maxRecDepth 65536 in
set_option maxHeartbeats 40000000 in
theorem rm7 (l : Launch) (Z : State) (a0 : Array Value) (hw : ∀ d ∈ tables_1, d.before a0 Z = true) (ws : List Jvm.Cond) (ob : Addr) (h0 : Heap) (n0 : Nat) (O0 : Old Z n0 h0) (E_o : Exa Z h0 ob "java/util/HashSet") (Fa : Fld Z h0 ob "java/util/HashSet" "map" "Ljava/util/HashMap;" .null) (g_o : n0 ≤ ob) :
    MetFree l (⟨"java/util/HashSet", "<init>", "()V"⟩ : MethodName) (head1 (Jvm.Cond.code (⟨"java/util/HashSet", "<init>", "()V"⟩ : MethodName) jdk_93_method_1_code 1 none :: ws) ({ frames := 3, cells := 1, slots := 8, locals := 38 } : Room)) (fun ay U => ay = #[(.ref ob)] ∧ Z.Warmed39 U.vm ∧ U.heap = h0) (fun _ _ _ _ _ => True) (fun _ U o U' => ∃ v L, o = .returned v ∧ Q7 Z ob h0 n0 v U'.heap L ∧ FrameEnd U o U' L ({ frames := 3, cells := 1, slots := 8, locals := 38 } : Room).cells ({ frames := 3, cells := 1, slots := 8, locals := 38 } : Room).slots) := by
  refine MetFree.of_bodySF (plainFor_of_name pn_java_util_HashSet) hisR ?_
  intro p e s m args below meth c s₁ Bd hml0 hP hK
  obtain ⟨rfl, hZ, hh⟩ := hP
  have hx := Bd.exec
  have hby := Bd.bytes
  have hlk : meth.locks = false := BodyLoose.notSynchronized Bd
  have hml : c.maxLocals = 1 := hml0
  have hown : s.vm.findClass "java/util/HashSet" = some m.cls := findClass_of_methodNamed Bd.named
  have hnm := (name_of_methodNamed Bd.named Bd.method).1
  have X0 : Stand p l e ({ frames := 3, cells := 1, slots := 8, locals := 38 } : Room) s m #[(.ref ob)] below meth c s₁ [] 0 0 := Stand.of_body Bd
  have e0 : s₁.heap = h0 := by rw [← hh, Bd.state]; rfl
  have N0 := Fr.nil n0
  suffices hgo : Go p e below s 1 8 (Q7 Z ob h0 n0) (s₁.setTop (mkF m 0 #[.val (.ref ob)] [])) by
    obtain ⟨t, o, h1, h2⟩ := hgo; exact ⟨t, o, castTop (ef_rm7 m ob) h1, h2⟩
  show Go p e below s _ _ _ (s₁.setTop (mkF m 0 #[.val (.ref ob)] []))
  refine Go.st (fun _ k' => XS.aloadN X0.here hx rfl (hb hby d7_0) rfl rfl k') ?_
  show Go p e below s _ _ _ (s₁.setTop (mkF m 1 #[.val (.ref ob)] [(.ref ob)]))
  obtain ⟨_, _, ⟨T1, L1, k1, n1⟩, -, X1, ⟨Lc1, hQ1, l1, y1, z1⟩, st1⟩ := X0.specialBack hx (y := (⟨"java/util/AbstractSet", "<init>", "()V"⟩ : MethodName)) rfl hown (mvT hZ (wdx hw 41 rfl)) (mvT hZ (wdx hw 42 rfl)) (mvT hZ (wdx hw 46 rfl)) (by decide) (backOf (W := 0) (rm8 l Z a0 hw [] ob h0 n0 O0 ) hZ (wdx hw 46 rfl) (wdx hw 45 rfl) (by decide) (by decide)) (g := (mkF m 1 #[.val (.ref ob)] [(.ref ob)])) rfl (by rw [hml]; rfl) (Steps.refl _) (a := ob) (argsL := []) (rest := []) (lenOf pd___V rfl) rfl (by show 2 * 0 + _ ≤ _; exact Nat.le_of_eq rfl) (hb hby d7_1) (fun _ _ => ⟨rfl, e0, (by exact Nat.le_of_ble_eq_true rfl), (by exact Nat.le_of_ble_eq_true rfl)⟩)
  dsimp only [Pt.U, Pt.locs, Pt.cells, Pt.slots] at X1 l1 y1 z1 st1 hQ1
  subst l1 y1 z1
  obtain ⟨rfl, Nq1, eq1⟩ := hQ1
  have N1 := Fr.app N0 Nq1
  refine Go.tr st1 ?_
  show Go p e below s _ _ _ (T1.setTop (mkF m 4 #[.val (.ref ob)] []))
  refine Go.st (fun _ k' => XS.aloadN X1.here hx rfl (hb hby d7_4) rfl rfl k') ?_
  show Go p e below s _ _ _ (T1.setTop (mkF m 5 #[.val (.ref ob)] [(.ref ob)]))
  obtain ⟨T2, h2, X2, e2, E2, A2, D2, -, st2⟩ := newO X1 hx hZ hown (wdx hw 54 rfl) (wdx hw 55 rfl) (wdx hw 56 rfl) eq1 (g := (mkF m 5 #[.val (.ref ob)] [(.ref ob)])) rfl (hb hby d7_5) (by decide) (by decide)
  obtain ⟨b2, g2⟩ : ∃ z, z = h0.size := ⟨_, rfl⟩
  rw [← g2] at A2 D2 st2
  refine Go.st st2 ?_
  have g_b2 : n0 ≤ b2 := Nat.le_trans (own_le O0) (Nat.le_of_eq g2.symm)
  have z_b2 : h0.size ≤ b2 := Nat.le_of_eq g2.symm
  have ne3 : ob ≠ b2 := Nat.ne_of_lt (Nat.lt_of_lt_of_le E_o.lt (Nat.le_of_eq g2.symm))
  have f4 : Exa Z h2 ob "java/util/HashSet" := E_o.ext E2
  have f5 : Fld Z h2 ob "java/util/HashSet" "map" "Ljava/util/HashMap;" .null := Fa.ext E2
  have O2 : Old Z n0 h2 := O0.ext E2
  have K2 : Keep h0 h2 [ob] := (Keep.refl h0 [ob]).ext E2
  have f6 : Fld Z h2 b2 "java/util/HashMap" "loadFactor" "F" (.float (0 : UInt32)) := D2 (Or.inr (wdx hw 70 rfl)) (ty := .float) (by decide)
  show Go p e below s _ _ _ (T2.setTop (mkF m 8 #[.val (.ref ob)] [(.ref b2), (.ref ob)]))
  refine Go.st (fun _ k' => XS.dup X2.here hx rfl (hb hby d7_8) rfl rfl k') ?_
  show Go p e below s _ _ _ (T2.setTop (mkF m 9 #[.val (.ref ob)] [(.ref b2), (.ref b2), (.ref ob)]))
  obtain ⟨_, _, ⟨T7, L7, k7, n7⟩, -, X7, ⟨Lc7, hQ7, l7, y7, z7⟩, st7⟩ := X2.specialBack hx (y := (⟨"java/util/HashMap", "<init>", "()V"⟩ : MethodName)) rfl hown (mvT hZ (wdx hw 57 rfl)) (mvT hZ (wdx hw 58 rfl)) (mvT hZ (wdx hw 60 rfl)) (by decide) (backOf (W := 2) (rm10 l Z a0 hw [] b2 h2 n0 O2 A2 f6 g_b2) hZ (wdx hw 60 rfl) (wdx hw 56 rfl) (by decide) (by decide)) (g := (mkF m 9 #[.val (.ref ob)] [(.ref b2), (.ref b2), (.ref ob)])) rfl (by rw [hml]; rfl) (Steps.refl _) (a := b2) (argsL := []) (rest := [(.ref b2), (.ref ob)]) (lenOf pd___V rfl) rfl (by show 2 * 0 + _ ≤ _; exact Nat.le_of_eq rfl) (hb hby d7_9) (fun _ _ => ⟨rfl, e2, (by exact Nat.le_of_ble_eq_true rfl), (by exact Nat.le_of_ble_eq_true rfl)⟩)
  dsimp only [Pt.U, Pt.locs, Pt.cells, Pt.slots] at X7 l7 y7 z7 st7 hQ7
  subst l7 y7 z7
  obtain ⟨rfl, Nq7, Kq7⟩ := hQ7
  have N7 := Fr.app N1 Nq7
  refine Go.tr st7 ?_
  have f8 : Exa Z T7.heap ob "java/util/HashSet" := f4.keep Kq7
  have f9 : Fld Z T7.heap ob "java/util/HashSet" "map" "Ljava/util/HashMap;" .null := f5.keep Kq7 (ninS ne3 nin0)
  have f10 : Exa Z T7.heap b2 "java/util/HashMap" := A2.keep Kq7
  have O7 : Old Z n0 T7.heap := O2.keep Kq7 (allS g_b2 all0)
  have K7 : Keep h0 T7.heap [ob] := K2.trans Kq7 (allS (Or.inr z_b2) all0)
  show Go p e below s _ _ _ (T7.setTop (mkF m 12 #[.val (.ref ob)] [(.ref b2), (.ref ob)]))
  obtain ⟨T11, h11, X11, e11, W11, st11⟩ := putF X7 hx hZ hown (host := "") (Or.inl (wdx hw 71 rfl)) Via.refl rfl f9 f8 (Or.inl (wdx hw 72 rfl)) (wdx hw 36 rfl) (ty := (.object "java/util/HashMap")) (by decide) rfl rfl (g := (mkF m 12 #[.val (.ref ob)] [(.ref b2), (.ref ob)])) rfl rfl (hb hby d7_12)
  refine Go.st st11 ?_
  have f12 : Exa Z h11 ob "java/util/HashSet" := f8.wr W11
  have f13 : Fld Z h11 ob "java/util/HashSet" "map" "Ljava/util/HashMap;" (.ref b2) := f9.same W11
  have f14 : Exa Z h11 b2 "java/util/HashMap" := f10.wr W11
  have O11 : Old Z n0 h11 := O7.wr W11 g_o
  have N11 := Fr.snoc X11 N7 g_o
  have K11 : Keep h0 h11 [ob] := K7.wr W11 (Or.inl (by simp))
  show Go p e below s _ _ _ (T11.setTop (mkF m 15 #[.val (.ref ob)] []))
  refine Go.retV X11 hx hlk Bd.returns (hb hby d7_15) (by decide) (by decide) e11 ?_
  exact ⟨rfl, N11, K11⟩
theorem d6_0 : decode prog_7_method_1_code 0 = .ok (.aload_n 0, 1) := by decide +kernel
theorem d6_1 : decode prog_7_method_1_code 1 = .ok (.invokespecial 1, 3) := by decide +kernel
theorem d6_4 : decode prog_7_method_1_code 4 = .ok (.aload_n 0, 1) := by decide +kernel
theorem d6_5 : decode prog_7_method_1_code 5 = .ok (.new 7, 3) := by decide +kernel
theorem d6_8 : decode prog_7_method_1_code 8 = .ok (.dup, 1) := by decide +kernel
theorem d6_9 : decode prog_7_method_1_code 9 = .ok (.invokespecial 9, 3) := by decide +kernel
theorem d6_12 : decode prog_7_method_1_code 12 = .ok (.putfield 10, 3) := by decide +kernel
theorem d6_15 : decode prog_7_method_1_code 15 = .ok (.aload_n 0, 1) := by decide +kernel
theorem d6_16 : decode prog_7_method_1_code 16 = .ok (.aload_n 1, 1) := by decide +kernel
theorem d6_17 : decode prog_7_method_1_code 17 = .ok (.invokevirtual 16, 3) := by decide +kernel
theorem d6_20 : decode prog_7_method_1_code 20 = .ok (.checkcast 17, 3) := by decide +kernel
theorem d6_23 : decode prog_7_method_1_code 23 = .ok (.putfield 22, 3) := by decide +kernel
theorem d6_26 : decode prog_7_method_1_code 26 = .ok (.return_, 1) := by decide +kernel
theorem pn_com_example_reportwire_reportwire_Arguments : plainName "com/example/reportwire/reportwire/Arguments" = true := by first | (simp [plainName, overriddenIn]; done) | decide +kernel
theorem ef_rm6_0 (m : MethodId) (ob : Addr) (aa : Addr) : entryFrame m #[(.ref ob), (.ref aa)] 2 = mkF m 0 #[.val (.ref ob), .val (.ref aa)] [] := by first | (simp [entryFrame, mkF, argsToLocals, Value.category]; done) | rfl
def Q6_0 (Z : State) (ob : Addr) (aa : Addr) (ka : ClassId) (h0 : Heap) (n0 : Nat) (v : Option Value) (h : Heap) (L : List Loc) : Prop := ∃ (na : Addr) (kn : ClassId), v = none ∧ Fr n0 L ∧ Keep h0 h [ob] ∧ Fld Z h ob "com/example/reportwire/reportwire/Arguments" "args" "[Ljava/lang/String;" (.ref na) ∧ Fld Z h ob "com/example/reportwire/reportwire/Arguments" "next" "I" (.int (0 : Int32)) ∧ Arv Z h na kn (.object "java/lang/String") (0 : Int32) [] .null ∧ h0.size ≤ na
set_option maxRecDepth 65536 in
set_option maxHeartbeats 40000000 in
theorem rm6_0 (l : Launch) (Z : State) (a0 : Array Value) (hw : ∀ d ∈ tables_1, d.before a0 Z = true) (ws : List Jvm.Cond) (ob : Addr) (aa : Addr) (ka : ClassId) (h0 : Heap) (n0 : Nat) (O0 : Old Z n0 h0) (E_o : Exa Z h0 ob "com/example/reportwire/reportwire/Arguments") (Fo : Fld Z h0 ob "com/example/reportwire/reportwire/Arguments" "optionsGiven" "Ljava/util/Set;" .null) (Fa : Fld Z h0 ob "com/example/reportwire/reportwire/Arguments" "args" "[Ljava/lang/String;" .null) (Fn : Fld Z h0 ob "com/example/reportwire/reportwire/Arguments" "next" "I" (.int (0 : Int32))) (E_a : Exa Z h0 aa "[Ljava/lang/String;") (Va : Arv Z h0 aa ka (.object "java/lang/String") (0 : Int32) [] .null) (g_o : n0 ≤ ob) (ne_oa : ob ≠ aa) :
    MetFree l (⟨"com/example/reportwire/reportwire/Arguments", "<init>", "([Ljava/lang/String;)V"⟩ : MethodName) (head1 (Jvm.Cond.code (⟨"com/example/reportwire/reportwire/Arguments", "<init>", "([Ljava/lang/String;)V"⟩ : MethodName) prog_7_method_1_code 2 none :: ws) ({ frames := 4, cells := 3, slots := 9, locals := 52 } : Room)) (fun ay U => ay = #[(.ref ob), (.ref aa)] ∧ Z.Warmed39 U.vm ∧ U.heap = h0) (fun _ _ _ _ _ => True) (fun _ U o U' => ∃ v L, o = .returned v ∧ Q6_0 Z ob aa ka h0 n0 v U'.heap L ∧ FrameEnd U o U' L ({ frames := 4, cells := 3, slots := 9, locals := 52 } : Room).cells ({ frames := 4, cells := 3, slots := 9, locals := 52 } : Room).slots) := by
  refine MetFree.of_bodySF (plainFor_of_name pn_com_example_reportwire_reportwire_Arguments) hisR ?_
  intro p e s m args below meth c s₁ Bd hml0 hP hK
  obtain ⟨rfl, hZ, hh⟩ := hP
  have hx := Bd.exec
  have hby := Bd.bytes
  have hlk : meth.locks = false := BodyLoose.notSynchronized Bd
  have hml : c.maxLocals = 2 := hml0
  have hown : s.vm.findClass "com/example/reportwire/reportwire/Arguments" = some m.cls := findClass_of_methodNamed Bd.named
  have hnm := (name_of_methodNamed Bd.named Bd.method).1
  have X0 : Stand p l e ({ frames := 4, cells := 3, slots := 9, locals := 52 } : Room) s m #[(.ref ob), (.ref aa)] below meth c s₁ [] 0 0 := Stand.of_body Bd
  have e0 : s₁.heap = h0 := by rw [← hh, Bd.state]; rfl
  have N0 := Fr.nil n0
  suffices hgo : Go p e below s 3 9 (Q6_0 Z ob aa ka h0 n0) (s₁.setTop (mkF m 0 #[.val (.ref ob), .val (.ref aa)] [])) by
    obtain ⟨t, o, h1, h2⟩ := hgo; exact ⟨t, o, castTop (ef_rm6_0 m ob aa) h1, h2⟩
  show Go p e below s _ _ _ (s₁.setTop (mkF m 0 #[.val (.ref ob), .val (.ref aa)] []))
  refine Go.st (fun _ k' => XS.aloadN X0.here hx rfl (hb hby d6_0) rfl rfl k') ?_
  show Go p e below s _ _ _ (s₁.setTop (mkF m 1 #[.val (.ref ob), .val (.ref aa)] [(.ref ob)]))
  obtain ⟨T1, X1, e1, st1⟩ := initO X0 hx hZ hown (wdx hw 34 rfl) (wdx hw 20 rfl) (wdx hw 21 rfl) e0 (g := (mkF m 1 #[.val (.ref ob), .val (.ref aa)] [(.ref ob)])) rfl (by rw [hml]; rfl) rfl (hb hby d6_1) (by decide) (W := 0) (by show 2 * 0 + _ ≤ _; exact Nat.le_of_eq rfl) (by decide)
  refine Go.st st1 ?_
  show Go p e below s _ _ _ (T1.setTop (mkF m 4 #[.val (.ref ob), .val (.ref aa)] []))
  refine Go.st (fun _ k' => XS.aloadN X1.here hx rfl (hb hby d6_4) rfl rfl k') ?_
  show Go p e below s _ _ _ (T1.setTop (mkF m 5 #[.val (.ref ob), .val (.ref aa)] [(.ref ob)]))
  obtain ⟨T2, h2, X2, e2, E2, A2, D2, -, st2⟩ := newO X1 hx hZ hown (wdx hw 35 rfl) (wdx hw 36 rfl) (wdx hw 37 rfl) e1 (g := (mkF m 5 #[.val (.ref ob), .val (.ref aa)] [(.ref ob)])) rfl (hb hby d6_5) (by decide) (by decide)
  obtain ⟨b2, g2⟩ : ∃ z, z = h0.size := ⟨_, rfl⟩
  rw [← g2] at A2 D2 st2
  refine Go.st st2 ?_
  have g_b2 : n0 ≤ b2 := Nat.le_trans (own_le O0) (Nat.le_of_eq g2.symm)
  have z_b2 : h0.size ≤ b2 := Nat.le_of_eq g2.symm
  have ne3 : ob ≠ b2 := Nat.ne_of_lt (Nat.lt_of_lt_of_le E_o.lt (Nat.le_of_eq g2.symm))
  have ne4 : aa ≠ b2 := Nat.ne_of_lt (Nat.lt_of_lt_of_le E_a.lt (Nat.le_of_eq g2.symm))
  have f5 : Exa Z h2 ob "com/example/reportwire/reportwire/Arguments" := E_o.ext E2
  have f6 : Fld Z h2 ob "com/example/reportwire/reportwire/Arguments" "optionsGiven" "Ljava/util/Set;" .null := Fo.ext E2
  have f7 : Fld Z h2 ob "com/example/reportwire/reportwire/Arguments" "args" "[Ljava/lang/String;" .null := Fa.ext E2
  have f8 : Fld Z h2 ob "com/example/reportwire/reportwire/Arguments" "next" "I" (.int (0 : Int32)) := Fn.ext E2
  have f9 : Exa Z h2 aa "[Ljava/lang/String;" := E_a.ext E2
  have f10 : Arv Z h2 aa ka (.object "java/lang/String") (0 : Int32) [] .null := Va.ext E2
  have O2 : Old Z n0 h2 := O0.ext E2
  have K2 : Keep h0 h2 [ob] := (Keep.refl h0 [ob]).ext E2
  have f11 : Fld Z h2 b2 "java/util/HashSet" "map" "Ljava/util/HashMap;" .null := D2 (Or.inl (wdx hw 72 rfl)) (ty := (.object "java/util/HashMap")) (by decide)
  show Go p e below s _ _ _ (T2.setTop (mkF m 8 #[.val (.ref ob), .val (.ref aa)] [(.ref b2), (.ref ob)]))
  refine Go.st (fun _ k' => XS.dup X2.here hx rfl (hb hby d6_8) rfl rfl k') ?_
  show Go p e below s _ _ _ (T2.setTop (mkF m 9 #[.val (.ref ob), .val (.ref aa)] [(.ref b2), (.ref b2), (.ref ob)]))
  obtain ⟨_, _, ⟨T12, L12, k12, n12⟩, -, X12, ⟨Lc12, hQ12, l12, y12, z12⟩, st12⟩ := X2.specialBack hx (y := (⟨"java/util/HashSet", "<init>", "()V"⟩ : MethodName)) rfl hown (mvT hZ (wdx hw 38 rfl)) (mvT hZ (wdx hw 39 rfl)) (mvT hZ (wdx hw 40 rfl)) (by decide) (backOf (W := 2) (rm7 l Z a0 hw [] b2 h2 n0 O2 A2 f11 g_b2) hZ (wdx hw 40 rfl) (wdx hw 37 rfl) (by decide) (by decide)) (g := (mkF m 9 #[.val (.ref ob), .val (.ref aa)] [(.ref b2), (.ref b2), (.ref ob)])) rfl (by rw [hml]; rfl) (Steps.refl _) (a := b2) (argsL := []) (rest := [(.ref b2), (.ref ob)]) (lenOf pd___V rfl) rfl (by show 2 * 0 + _ ≤ _; exact Nat.le_of_eq rfl) (hb hby d6_9) (fun _ _ => ⟨rfl, e2, (by exact Nat.le_of_ble_eq_true rfl), (by exact Nat.le_of_ble_eq_true rfl)⟩)
  dsimp only [Pt.U, Pt.locs, Pt.cells, Pt.slots] at X12 l12 y12 z12 st12 hQ12
  subst l12 y12 z12
  obtain ⟨rfl, Nq12, Kq12⟩ := hQ12
  have N12 := Fr.app N0 Nq12
  refine Go.tr st12 ?_
  have f13 : Exa Z T12.heap ob "com/example/reportwire/reportwire/Arguments" := f5.keep Kq12
  have f14 : Fld Z T12.heap ob "com/example/reportwire/reportwire/Arguments" "optionsGiven" "Ljava/util/Set;" .null := f6.keep Kq12 (ninS ne3 nin0)
  have f15 : Fld Z T12.heap ob "com/example/reportwire/reportwire/Arguments" "args" "[Ljava/lang/String;" .null := f7.keep Kq12 (ninS ne3 nin0)
  have f16 : Fld Z T12.heap ob "com/example/reportwire/reportwire/Arguments" "next" "I" (.int (0 : Int32)) := f8.keep Kq12 (ninS ne3 nin0)
  have f17 : Exa Z T12.heap aa "[Ljava/lang/String;" := f9.keep Kq12
  have f18 : Arv Z T12.heap aa ka (.object "java/lang/String") (0 : Int32) [] .null := f10.keep Kq12 (ninS ne4 nin0)
  have f19 : Exa Z T12.heap b2 "java/util/HashSet" := A2.keep Kq12
  have O12 : Old Z n0 T12.heap := O2.keep Kq12 (allS g_b2 all0)
  have K12 : Keep h0 T12.heap [ob] := K2.trans Kq12 (allS (Or.inr z_b2) all0)
  show Go p e below s _ _ _ (T12.setTop (mkF m 12 #[.val (.ref ob), .val (.ref aa)] [(.ref b2), (.ref ob)]))
  obtain ⟨T20, h20, X20, e20, W20, st20⟩ := putF X12 hx hZ hown (host := "") (Or.inl (wdx hw 73 rfl)) Via.refl rfl f14 f13 (Or.inr ⟨(wdx hw 74 rfl), rfl, hnm⟩) (wdx hw 29 rfl) (ty := (.object "java/util/Set")) (by decide) rfl rfl (g := (mkF m 12 #[.val (.ref ob), .val (.ref aa)] [(.ref b2), (.ref ob)])) rfl rfl (hb hby d6_12)
  refine Go.st st20 ?_
  have f21 : Exa Z h20 ob "com/example/reportwire/reportwire/Arguments" := f13.wr W20
  have f22 : Fld Z h20 ob "com/example/reportwire/reportwire/Arguments" "optionsGiven" "Ljava/util/Set;" (.ref b2) := f14.same W20
  have f23 : Fld Z h20 ob "com/example/reportwire/reportwire/Arguments" "args" "[Ljava/lang/String;" .null := f15.other W20 (Or.inr (slot_ne (Or.inr (wdx hw 85 rfl)) (Or.inr (wdx hw 74 rfl)) (by decide) (t := (.array (.object "java/lang/String"))) (t' := (.object "java/util/Set")) (by decide) (by decide)))
  have f24 : Fld Z h20 ob "com/example/reportwire/reportwire/Arguments" "next" "I" (.int (0 : Int32)) := f16.other W20 (Or.inr (slot_ne (Or.inl (wdx hw 92 rfl)) (Or.inr (wdx hw 74 rfl)) (by decide) (t := .int) (t' := (.object "java/util/Set")) (by decide) (by decide)))
  have f25 : Exa Z h20 aa "[Ljava/lang/String;" := f17.wr W20
  have f26 : Arv Z h20 aa ka (.object "java/lang/String") (0 : Int32) [] .null := f18.other W20 (Ne.symm ne_oa)
  have f27 : Exa Z h20 b2 "java/util/HashSet" := f19.wr W20
  have O20 : Old Z n0 h20 := O12.wr W20 g_o
  have N20 := Fr.snoc X20 N12 g_o
  have K20 : Keep h0 h20 [ob] := K12.wr W20 (Or.inl (by simp))
  show Go p e below s _ _ _ (T20.setTop (mkF m 15 #[.val (.ref ob), .val (.ref aa)] []))
  refine Go.st (fun _ k' => XS.aloadN X20.here hx rfl (hb hby d6_15) rfl rfl k') ?_
  show Go p e below s _ _ _ (T20.setTop (mkF m 16 #[.val (.ref ob), .val (.ref aa)] [(.ref ob)]))
  refine Go.st (fun _ k' => XS.aloadN X20.here hx rfl (hb hby d6_16) rfl rfl k') ?_
  show Go p e below s _ _ _ (T20.setTop (mkF m 17 #[.val (.ref ob), .val (.ref aa)] [(.ref aa), (.ref ob)]))
  obtain ⟨T28, h28, X28, e28, E28, A28, Ex28, st28⟩ := cloneH X20 hx hZ hown (wdx hw 75 rfl) (wdx hw 76 rfl) (wdx hw 80 rfl) (wdx hw 78 rfl) (wdx hw 79 rfl) (wdx hw 81 rfl) e20 (hs := []) f26 f25 (g := (mkF m 17 #[.val (.ref ob), .val (.ref aa)] [(.ref aa), (.ref ob)])) rfl (by rw [hml]; rfl) rfl (hb hby d6_17) (by decide) (W := 1) (cap := 0) (by show 2 * 0 + _ ≤ _; exact Nat.le_of_eq rfl) (by decide) (by decide) (by decide) (by decide)
  obtain ⟨b28, g28⟩ : ∃ z, z = h20.size := ⟨_, rfl⟩
  rw [← g28] at A28 Ex28 st28
  refine Go.st st28 ?_
  have g_b28 : n0 ≤ b28 := Nat.le_trans (own_le O20) (Nat.le_of_eq g28.symm)
  have z_b28 : h0.size ≤ b28 := Nat.le_trans K20.1 (Nat.le_of_eq g28.symm)
  have ne29 : ob ≠ b28 := Nat.ne_of_lt (Nat.lt_of_lt_of_le f21.lt (Nat.le_of_eq g28.symm))
  have ne30 : aa ≠ b28 := Nat.ne_of_lt (Nat.lt_of_lt_of_le f25.lt (Nat.le_of_eq g28.symm))
  have ne31 : b2 ≠ b28 := Nat.ne_of_lt (Nat.lt_of_lt_of_le f27.lt (Nat.le_of_eq g28.symm))
  have f32 : Exa Z h28 ob "com/example/reportwire/reportwire/Arguments" := f21.ext E28
  have f33 : Fld Z h28 ob "com/example/reportwire/reportwire/Arguments" "optionsGiven" "Ljava/util/Set;" (.ref b2) := f22.ext E28
  have f34 : Fld Z h28 ob "com/example/reportwire/reportwire/Arguments" "args" "[Ljava/lang/String;" .null := f23.ext E28
  have f35 : Fld Z h28 ob "com/example/reportwire/reportwire/Arguments" "next" "I" (.int (0 : Int32)) := f24.ext E28
  have f36 : Exa Z h28 aa "[Ljava/lang/String;" := f25.ext E28
  have f37 : Arv Z h28 aa ka (.object "java/lang/String") (0 : Int32) [] .null := f26.ext E28
  have f38 : Exa Z h28 b2 "java/util/HashSet" := f27.ext E28
  have O28 : Old Z n0 h28 := O20.ext E28
  have K28 : Keep h0 h28 [ob] := K20.ext E28
  have f39 : Arv Z h28 b28 ka (.object "java/lang/String") (0 : Int32) [] .null := A28
  show Go p e below s _ _ _ (T28.setTop (mkF m 20 #[.val (.ref ob), .val (.ref aa)] [(.ref b28), (.ref ob)]))
  obtain ⟨T40, X40, e40, st40⟩ := castY X28 hx hZ hown (wdx hw 82 rfl) e28 (Ins.self Ex28) (g := (mkF m 20 #[.val (.ref ob), .val (.ref aa)] [(.ref b28), (.ref ob)])) rfl rfl (hb hby d6_20)
  refine Go.st st40 ?_
  show Go p e below s _ _ _ (T40.setTop (mkF m 23 #[.val (.ref ob), .val (.ref aa)] [(.ref b28), (.ref ob)]))
  obtain ⟨T41, h41, X41, e41, W41, st41⟩ := putF X40 hx hZ hown (host := "") (Or.inl (wdx hw 84 rfl)) Via.refl e40 f34 f32 (Or.inr ⟨(wdx hw 85 rfl), rfl, hnm⟩) (wdx hw 29 rfl) (ty := (.array (.object "java/lang/String"))) (by decide) rfl rfl (g := (mkF m 23 #[.val (.ref ob), .val (.ref aa)] [(.ref b28), (.ref ob)])) rfl rfl (hb hby d6_23)
  refine Go.st st41 ?_
  have f42 : Exa Z h41 ob "com/example/reportwire/reportwire/Arguments" := f32.wr W41
  have f43 : Fld Z h41 ob "com/example/reportwire/reportwire/Arguments" "optionsGiven" "Ljava/util/Set;" (.ref b2) := f33.other W41 (Or.inr (slot_ne (Or.inr (wdx hw 74 rfl)) (Or.inr (wdx hw 85 rfl)) (by decide) (t := (.object "java/util/Set")) (t' := (.array (.object "java/lang/String"))) (by decide) (by decide)))
  have f44 : Fld Z h41 ob "com/example/reportwire/reportwire/Arguments" "args" "[Ljava/lang/String;" (.ref b28) := f34.same W41
  have f45 : Fld Z h41 ob "com/example/reportwire/reportwire/Arguments" "next" "I" (.int (0 : Int32)) := f35.other W41 (Or.inr (slot_ne (Or.inl (wdx hw 92 rfl)) (Or.inr (wdx hw 85 rfl)) (by decide) (t := .int) (t' := (.array (.object "java/lang/String"))) (by decide) (by decide)))
  have f46 : Exa Z h41 aa "[Ljava/lang/String;" := f36.wr W41
  have f47 : Arv Z h41 aa ka (.object "java/lang/String") (0 : Int32) [] .null := f37.other W41 (Ne.symm ne_oa)
  have f48 : Exa Z h41 b2 "java/util/HashSet" := f38.wr W41
  have f49 : Exa Z h41 b28 "[Ljava/lang/String;" := Ex28.wr W41
  have f50 : Arv Z h41 b28 ka (.object "java/lang/String") (0 : Int32) [] .null := f39.other W41 (Ne.symm ne29)
  have O41 : Old Z n0 h41 := O28.wr W41 g_o
  have N41 := Fr.snoc X41 N20 g_o
  have K41 : Keep h0 h41 [ob] := K28.wr W41 (Or.inl (by simp))
  show Go p e below s _ _ _ (T41.setTop (mkF m 26 #[.val (.ref ob), .val (.ref aa)] []))
  refine Go.retV X41 hx hlk Bd.returns (hb hby d6_26) (by decide) (by decide) e41 ?_
  exact ⟨b28, ka, rfl, N41, K41, f44, f45, f50, z_b28⟩
theorem d12_0 : decode prog_7_method_7_code 0 = .ok (.aload_n 0, 1) := by decide +kernel
theorem d12_1 : decode prog_7_method_7_code 1 = .ok (.getfield 60, 3) := by decide +kernel
theorem d12_4 : decode prog_7_method_7_code 4 = .ok (.aload_n 0, 1) := by decide +kernel
theorem d12_5 : decode prog_7_method_7_code 5 = .ok (.getfield 22, 3) := by decide +kernel
theorem d12_8 : decode prog_7_method_7_code 8 = .ok (.arraylength, 1) := by decide +kernel
theorem d12_9 : decode prog_7_method_7_code 9 = .ok (.if_icmp .ge 7, 3) := by decide +kernel
theorem d12_16 : decode prog_7_method_7_code 16 = .ok (.iconst 0, 1) := by decide +kernel
theorem d12_17 : decode prog_7_method_7_code 17 = .ok (.ireturn, 1) := by decide +kernel
theorem ef_rm12_0_0 (m : MethodId) (ob : Addr) : entryFrame m #[(.ref ob)] 1 = mkF m 0 #[.val (.ref ob)] [] := by first | (simp [entryFrame, mkF, argsToLocals, Value.category]; done) | rfl
def Q12_0_0 (Z : State) (ob : Addr) (na : Addr) (kn : ClassId) (h0 : Heap) (n0 : Nat) (v : Option Value) (h : Heap) (L : List Loc) : Prop := v = some (.int (0 : Int32)) ∧ Fr n0 L ∧ h = h0
set_option maxRecDepth 65536 in
set_option maxHeartbeats 40000000 in
theorem rm12_0_0 (l : Launch) (Z : State) (a0 : Array Value) (hw : ∀ d ∈ tables_1, d.before a0 Z = true) (ws : List Jvm.Cond) (ob : Addr) (na : Addr) (kn : ClassId) (h0 : Heap) (n0 : Nat) (O0 : Old Z n0 h0) (Fa : Fld Z h0 ob "com/example/reportwire/reportwire/Arguments" "args" "[Ljava/lang/String;" (.ref na)) (Fn : Fld Z h0 ob "com/example/reportwire/reportwire/Arguments" "next" "I" (.int (0 : Int32))) (Va : Arv Z h0 na kn (.object "java/lang/String") (0 : Int32) [] .null) :
    MetFree l (⟨"com/example/reportwire/reportwire/Arguments", "hasNext", "()Z"⟩ : MethodName) (head1 (Jvm.Cond.code (⟨"com/example/reportwire/reportwire/Arguments", "hasNext", "()Z"⟩ : MethodName) prog_7_method_7_code 1 (some .boolean) :: ws) ({ frames := 0, cells := 0, slots := 0, locals := 0 } : Room)) (fun ay U => ay = #[(.ref ob)] ∧ Z.Warmed39 U.vm ∧ U.heap = h0) (fun _ _ _ _ _ => True) (fun _ U o U' => ∃ v L, o = .returned v ∧ Q12_0_0 Z ob na kn h0 n0 v U'.heap L ∧ FrameEnd U o U' L ({ frames := 0, cells := 0, slots := 0, locals := 0 } : Room).cells ({ frames := 0, cells := 0, slots := 0, locals := 0 } : Room).slots) := by
  refine MetFree.of_bodySF (plainFor_of_name pn_com_example_reportwire_reportwire_Arguments) hisR ?_
  intro p e s m args below meth c s₁ Bd hml0 hP hK
  obtain ⟨rfl, hZ, hh⟩ := hP
  have hx := Bd.exec
  have hby := Bd.bytes
  have hlk : meth.locks = false := BodyLoose.notSynchronized Bd
  have hml : c.maxLocals = 1 := hml0
  have hown : s.vm.findClass "com/example/reportwire/reportwire/Arguments" = some m.cls := findClass_of_methodNamed Bd.named
  have hnm := (name_of_methodNamed Bd.named Bd.method).1
  have X0 : Stand p l e ({ frames := 0, cells := 0, slots := 0, locals := 0 } : Room) s m #[(.ref ob)] below meth c s₁ [] 0 0 := Stand.of_body Bd
  have e0 : s₁.heap = h0 := by rw [← hh, Bd.state]; rfl
  have N0 := Fr.nil n0
  suffices hgo : Go p e below s 0 0 (Q12_0_0 Z ob na kn h0 n0) (s₁.setTop (mkF m 0 #[.val (.ref ob)] [])) by
    obtain ⟨t, o, h1, h2⟩ := hgo; exact ⟨t, o, castTop (ef_rm12_0_0 m ob) h1, h2⟩
  show Go p e below s _ _ _ (s₁.setTop (mkF m 0 #[.val (.ref ob)] []))
  refine Go.st (fun _ k' => XS.aloadN X0.here hx rfl (hb hby d12_0) rfl rfl k') ?_
  show Go p e below s _ _ _ (s₁.setTop (mkF m 1 #[.val (.ref ob)] [(.ref ob)]))
  obtain ⟨T1, X1, e1, st1⟩ := getF X0 hx hZ hown (host := "") (Or.inl (wdx hw 91 rfl)) Via.refl e0 Fn (g := (mkF m 1 #[.val (.ref ob)] [(.ref ob)])) rfl rfl (hb hby d12_1)
  refine Go.st st1 ?_
  show Go p e below s _ _ _ (T1.setTop (mkF m 4 #[.val (.ref ob)] [(.int (0 : Int32))]))
  refine Go.st (fun _ k' => XS.aloadN X1.here hx rfl (hb hby d12_4) rfl rfl k') ?_
  show Go p e below s _ _ _ (T1.setTop (mkF m 5 #[.val (.ref ob)] [(.ref ob), (.int (0 : Int32))]))
  obtain ⟨T2, X2, e2, st2⟩ := getF X1 hx hZ hown (host := "") (Or.inl (wdx hw 84 rfl)) Via.refl e1 Fa (g := (mkF m 5 #[.val (.ref ob)] [(.ref ob), (.int (0 : Int32))])) rfl rfl (hb hby d12_5)
  refine Go.st st2 ?_
  show Go p e below s _ _ _ (T2.setTop (mkF m 8 #[.val (.ref ob)] [(.ref na), (.int (0 : Int32))]))
  obtain ⟨cl3, Ar3, qc3, Sz3, Nn3, Ha3, Gf3⟩ := id Va
  refine Go.st (fun _ k' => X2.arraylength hx (by rw [e2]; exact Ar3.1) (State.isArrayOf_alike hZ.alike Ar3.2.1) (g := (mkF m 8 #[.val (.ref ob)] [(.ref na), (.int (0 : Int32))])) rfl rfl (hb hby d12_8) _ k') ?_
  rw [len_of Sz3 Nn3]
  show Go p e below s _ _ _ (T2.setTop (mkF m 9 #[.val (.ref ob)] [(.int (0 : Int32)), (.int (0 : Int32))]))
  refine Go.st (fun _ k' => XS.icmpYes X2.here hx rfl (pc0 := 9) (pc' := 16) rfl (hb hby d12_9) rfl (XT.ii_ge_t (by decide)) (by decide) (by decide) k') ?_
  show Go p e below s _ _ _ (T2.setTop (mkF m 16 #[.val (.ref ob)] []))
  refine Go.st (fun _ k' => XS.iconst X2.here hx rfl (hb hby d12_16) k') ?_
  show Go p e below s _ _ _ (T2.setTop (mkF m 17 #[.val (.ref ob)] [(.int (0 : Int32))]))
  refine Go.retB X2 hx hlk (t := .boolean) Bd.returns (by simp) (hb hby d12_17) (by decide) (by decide) e2 ?_
  exact ⟨rfl, N0, rfl⟩
theorem ef_rm6_1 (m : MethodId) (ob : Addr) (aa : Addr) : entryFrame m #[(.ref ob), (.ref aa)] 2 = mkF m 0 #[.val (.ref ob), .val (.ref aa)] [] := by first | (simp [entryFrame, mkF, argsToLocals, Value.category]; done) | rfl
def Q6_1 (Z : State) (ob : Addr) (aa : Addr) (ka : ClassId) (sa : Addr) (h0 : Heap) (n0 : Nat) (v : Option Value) (h : Heap) (L : List Loc) : Prop := ∃ (na : Addr) (kn : ClassId), v = none ∧ Fr n0 L ∧ Keep h0 h [ob] ∧ Fld Z h ob "com/example/reportwire/reportwire/Arguments" "args" "[Ljava/lang/String;" (.ref na) ∧ Fld Z h ob "com/example/reportwire/reportwire/Arguments" "next" "I" (.int (0 : Int32)) ∧ Arv Z h na kn (.object "java/lang/String") (1 : Int32) [(.ref sa)] .null ∧ h0.size ≤ na
set_option maxRecDepth 65536 in
set_option maxHeartbeats 40000000 in
theorem rm6_1 (l : Launch) (Z : State) (a0 : Array Value) (hw : ∀ d ∈ tables_1, d.before a0 Z = true) (ws : List Jvm.Cond) (ob : Addr) (aa : Addr) (ka : ClassId) (sa : Addr) (h0 : Heap) (n0 : Nat) (O0 : Old Z n0 h0) (E_o : Exa Z h0 ob "com/example/reportwire/reportwire/Arguments") (Fo : Fld Z h0 ob "com/example/reportwire/reportwire/Arguments" "optionsGiven" "Ljava/util/Set;" .null) (Fa : Fld Z h0 ob "com/example/reportwire/reportwire/Arguments" "args" "[Ljava/lang/String;" .null) (Fn : Fld Z h0 ob "com/example/reportwire/reportwire/Arguments" "next" "I" (.int (0 : Int32))) (E_a : Exa Z h0 aa "[Ljava/lang/String;") (Va : Arv Z h0 aa ka (.object "java/lang/String") (1 : Int32) [(.ref sa)] .null) (g_o : n0 ≤ ob) (ne_oa : ob ≠ aa) :
    MetFree l (⟨"com/example/reportwire/reportwire/Arguments", "<init>", "([Ljava/lang/String;)V"⟩ : MethodName) (head1 (Jvm.Cond.code (⟨"com/example/reportwire/reportwire/Arguments", "<init>", "([Ljava/lang/String;)V"⟩ : MethodName) prog_7_method_1_code 2 none :: ws) ({ frames := 4, cells := 3, slots := 10, locals := 52 } : Room)) (fun ay U => ay = #[(.ref ob), (.ref aa)] ∧ Z.Warmed39 U.vm ∧ U.heap = h0) (fun _ _ _ _ _ => True) (fun _ U o U' => ∃ v L, o = .returned v ∧ Q6_1 Z ob aa ka sa h0 n0 v U'.heap L ∧ FrameEnd U o U' L ({ frames := 4, cells := 3, slots := 10, locals := 52 } : Room).cells ({ frames := 4, cells := 3, slots := 10, locals := 52 } : Room).slots) := by
  refine MetFree.of_bodySF (plainFor_of_name pn_com_example_reportwire_reportwire_Arguments) hisR ?_
  intro p e s m args below meth c s₁ Bd hml0 hP hK
  obtain ⟨rfl, hZ, hh⟩ := hP
  have hx := Bd.exec
  have hby := Bd.bytes
  have hlk : meth.locks = false := BodyLoose.notSynchronized Bd
  have hml : c.maxLocals = 2 := hml0
  have hown : s.vm.findClass "com/example/reportwire/reportwire/Arguments" = some m.cls := findClass_of_methodNamed Bd.named
  have hnm := (name_of_methodNamed Bd.named Bd.method).1
  have X0 : Stand p l e ({ frames := 4, cells := 3, slots := 10, locals := 52 } : Room) s m #[(.ref ob), (.ref aa)] below meth c s₁ [] 0 0 := Stand.of_body Bd
  have e0 : s₁.heap = h0 := by rw [← hh, Bd.state]; rfl
  have N0 := Fr.nil n0
  suffices hgo : Go p e below s 3 10 (Q6_1 Z ob aa ka sa h0 n0) (s₁.setTop (mkF m 0 #[.val (.ref ob), .val (.ref aa)] [])) by
    obtain ⟨t, o, h1, h2⟩ := hgo; exact ⟨t, o, castTop (ef_rm6_1 m ob aa) h1, h2⟩
  show Go p e below s _ _ _ (s₁.setTop (mkF m 0 #[.val (.ref ob), .val (.ref aa)] []))
  refine Go.st (fun _ k' => XS.aloadN X0.here hx rfl (hb hby d6_0) rfl rfl k') ?_
  show Go p e below s _ _ _ (s₁.setTop (mkF m 1 #[.val (.ref ob), .val (.ref aa)] [(.ref ob)]))
  obtain ⟨T1, X1, e1, st1⟩ := initO X0 hx hZ hown (wdx hw 34 rfl) (wdx hw 20 rfl) (wdx hw 21 rfl) e0 (g := (mkF m 1 #[.val (.ref ob), .val (.ref aa)] [(.ref ob)])) rfl (by rw [hml]; rfl) rfl (hb hby d6_1) (by decide) (W := 0) (by show 2 * 0 + _ ≤ _; exact Nat.le_of_eq rfl) (by decide)
  refine Go.st st1 ?_
  show Go p e below s _ _ _ (T1.setTop (mkF m 4 #[.val (.ref ob), .val (.ref aa)] []))
  refine Go.st (fun _ k' => XS.aloadN X1.here hx rfl (hb hby d6_4) rfl rfl k') ?_
  show Go p e below s _ _ _ (T1.setTop (mkF m 5 #[.val (.ref ob), .val (.ref aa)] [(.ref ob)]))
  obtain ⟨T2, h2, X2, e2, E2, A2, D2, -, st2⟩ := newO X1 hx hZ hown (wdx hw 35 rfl) (wdx hw 36 rfl) (wdx hw 37 rfl) e1 (g := (mkF m 5 #[.val (.ref ob), .val (.ref aa)] [(.ref ob)])) rfl (hb hby d6_5) (by decide) (by decide)
  obtain ⟨b2, g2⟩ : ∃ z, z = h0.size := ⟨_, rfl⟩
  rw [← g2] at A2 D2 st2
  refine Go.st st2 ?_
  have g_b2 : n0 ≤ b2 := Nat.le_trans (own_le O0) (Nat.le_of_eq g2.symm)
  have z_b2 : h0.size ≤ b2 := Nat.le_of_eq g2.symm
  have ne3 : ob ≠ b2 := Nat.ne_of_lt (Nat.lt_of_lt_of_le E_o.lt (Nat.le_of_eq g2.symm))
  have ne4 : aa ≠ b2 := Nat.ne_of_lt (Nat.lt_of_lt_of_le E_a.lt (Nat.le_of_eq g2.symm))
  have f5 : Exa Z h2 ob "com/example/reportwire/reportwire/Arguments" := E_o.ext E2
  have f6 : Fld Z h2 ob "com/example/reportwire/reportwire/Arguments" "optionsGiven" "Ljava/util/Set;" .null := Fo.ext E2
  have f7 : Fld Z h2 ob "com/example/reportwire/reportwire/Arguments" "args" "[Ljava/lang/String;" .null := Fa.ext E2
  have f8 : Fld Z h2 ob "com/example/reportwire/reportwire/Arguments" "next" "I" (.int (0 : Int32)) := Fn.ext E2
  have f9 : Exa Z h2 aa "[Ljava/lang/String;" := E_a.ext E2
  have f10 : Arv Z h2 aa ka (.object "java/lang/String") (1 : Int32) [(.ref sa)] .null := Va.ext E2
  have O2 : Old Z n0 h2 := O0.ext E2
  have K2 : Keep h0 h2 [ob] := (Keep.refl h0 [ob]).ext E2
  have f11 : Fld Z h2 b2 "java/util/HashSet" "map" "Ljava/util/HashMap;" .null := D2 (Or.inl (wdx hw 72 rfl)) (ty := (.object "java/util/HashMap")) (by decide)
  show Go p e below s _ _ _ (T2.setTop (mkF m 8 #[.val (.ref ob), .val (.ref aa)] [(.ref b2), (.ref ob)]))
  refine Go.st (fun _ k' => XS.dup X2.here hx rfl (hb hby d6_8) rfl rfl k') ?_
  show Go p e below s _ _ _ (T2.setTop (mkF m 9 #[.val (.ref ob), .val (.ref aa)] [(.ref b2), (.ref b2), (.ref ob)]))
  obtain ⟨_, _, ⟨T12, L12, k12, n12⟩, -, X12, ⟨Lc12, hQ12, l12, y12, z12⟩, st12⟩ := X2.specialBack hx (y := (⟨"java/util/HashSet", "<init>", "()V"⟩ : MethodName)) rfl hown (mvT hZ (wdx hw 38 rfl)) (mvT hZ (wdx hw 39 rfl)) (mvT hZ (wdx hw 40 rfl)) (by decide) (backOf (W := 2) (rm7 l Z a0 hw [] b2 h2 n0 O2 A2 f11 g_b2) hZ (wdx hw 40 rfl) (wdx hw 37 rfl) (by decide) (by decide)) (g := (mkF m 9 #[.val (.ref ob), .val (.ref aa)] [(.ref b2), (.ref b2), (.ref ob)])) rfl (by rw [hml]; rfl) (Steps.refl _) (a := b2) (argsL := []) (rest := [(.ref b2), (.ref ob)]) (lenOf pd___V rfl) rfl (by show 2 * 0 + _ ≤ _; exact Nat.le_of_eq rfl) (hb hby d6_9) (fun _ _ => ⟨rfl, e2, (by exact Nat.le_of_ble_eq_true rfl), (by exact Nat.le_of_ble_eq_true rfl)⟩)
  dsimp only [Pt.U, Pt.locs, Pt.cells, Pt.slots] at X12 l12 y12 z12 st12 hQ12
  subst l12 y12 z12
  obtain ⟨rfl, Nq12, Kq12⟩ := hQ12
  have N12 := Fr.app N0 Nq12
  refine Go.tr st12 ?_
  have f13 : Exa Z T12.heap ob "com/example/reportwire/reportwire/Arguments" := f5.keep Kq12
  have f14 : Fld Z T12.heap ob "com/example/reportwire/reportwire/Arguments" "optionsGiven" "Ljava/util/Set;" .null := f6.keep Kq12 (ninS ne3 nin0)
  have f15 : Fld Z T12.heap ob "com/example/reportwire/reportwire/Arguments" "args" "[Ljava/lang/String;" .null := f7.keep Kq12 (ninS ne3 nin0)
  have f16 : Fld Z T12.heap ob "com/example/reportwire/reportwire/Arguments" "next" "I" (.int (0 : Int32)) := f8.keep Kq12 (ninS ne3 nin0)
  have f17 : Exa Z T12.heap aa "[Ljava/lang/String;" := f9.keep Kq12
  have f18 : Arv Z T12.heap aa ka (.object "java/lang/String") (1 : Int32) [(.ref sa)] .null := f10.keep Kq12 (ninS ne4 nin0)
  have f19 : Exa Z T12.heap b2 "java/util/HashSet" := A2.keep Kq12
  have O12 : Old Z n0 T12.heap := O2.keep Kq12 (allS g_b2 all0)
  have K12 : Keep h0 T12.heap [ob] := K2.trans Kq12 (allS (Or.inr z_b2) all0)
  show Go p e below s _ _ _ (T12.setTop (mkF m 12 #[.val (.ref ob), .val (.ref aa)] [(.ref b2), (.ref ob)]))
  obtain ⟨T20, h20, X20, e20, W20, st20⟩ := putF X12 hx hZ hown (host := "") (Or.inl (wdx hw 73 rfl)) Via.refl rfl f14 f13 (Or.inr ⟨(wdx hw 74 rfl), rfl, hnm⟩) (wdx hw 29 rfl) (ty := (.object "java/util/Set")) (by decide) rfl rfl (g := (mkF m 12 #[.val (.ref ob), .val (.ref aa)] [(.ref b2), (.ref ob)])) rfl rfl (hb hby d6_12)
  refine Go.st st20 ?_
  have f21 : Exa Z h20 ob "com/example/reportwire/reportwire/Arguments" := f13.wr W20
  have f22 : Fld Z h20 ob "com/example/reportwire/reportwire/Arguments" "optionsGiven" "Ljava/util/Set;" (.ref b2) := f14.same W20
  have f23 : Fld Z h20 ob "com/example/reportwire/reportwire/Arguments" "args" "[Ljava/lang/String;" .null := f15.other W20 (Or.inr (slot_ne (Or.inr (wdx hw 85 rfl)) (Or.inr (wdx hw 74 rfl)) (by decide) (t := (.array (.object "java/lang/String"))) (t' := (.object "java/util/Set")) (by decide) (by decide)))
  have f24 : Fld Z h20 ob "com/example/reportwire/reportwire/Arguments" "next" "I" (.int (0 : Int32)) := f16.other W20 (Or.inr (slot_ne (Or.inl (wdx hw 92 rfl)) (Or.inr (wdx hw 74 rfl)) (by decide) (t := .int) (t' := (.object "java/util/Set")) (by decide) (by decide)))
  have f25 : Exa Z h20 aa "[Ljava/lang/String;" := f17.wr W20
  have f26 : Arv Z h20 aa ka (.object "java/lang/String") (1 : Int32) [(.ref sa)] .null := f18.other W20 (Ne.symm ne_oa)
  have f27 : Exa Z h20 b2 "java/util/HashSet" := f19.wr W20
  have O20 : Old Z n0 h20 := O12.wr W20 g_o
  have N20 := Fr.snoc X20 N12 g_o
  have K20 : Keep h0 h20 [ob] := K12.wr W20 (Or.inl (by simp))
  show Go p e below s _ _ _ (T20.setTop (mkF m 15 #[.val (.ref ob), .val (.ref aa)] []))
  refine Go.st (fun _ k' => XS.aloadN X20.here hx rfl (hb hby d6_15) rfl rfl k') ?_
  show Go p e below s _ _ _ (T20.setTop (mkF m 16 #[.val (.ref ob), .val (.ref aa)] [(.ref ob)]))
  refine Go.st (fun _ k' => XS.aloadN X20.here hx rfl (hb hby d6_16) rfl rfl k') ?_
  show Go p e below s _ _ _ (T20.setTop (mkF m 17 #[.val (.ref ob), .val (.ref aa)] [(.ref aa), (.ref ob)]))
  obtain ⟨T28, h28, X28, e28, E28, A28, Ex28, st28⟩ := cloneH X20 hx hZ hown (wdx hw 75 rfl) (wdx hw 76 rfl) (wdx hw 80 rfl) (wdx hw 78 rfl) (wdx hw 79 rfl) (wdx hw 81 rfl) e20 (hs := []) f26 f25 (g := (mkF m 17 #[.val (.ref ob), .val (.ref aa)] [(.ref aa), (.ref ob)])) rfl (by rw [hml]; rfl) rfl (hb hby d6_17) (by decide) (W := 1) (cap := 1) (by show 2 * 0 + _ ≤ _; exact Nat.le_of_eq rfl) (by decide) (by decide) (by decide) (by decide)
  obtain ⟨b28, g28⟩ : ∃ z, z = h20.size := ⟨_, rfl⟩
  rw [← g28] at A28 Ex28 st28
  refine Go.st st28 ?_
  have g_b28 : n0 ≤ b28 := Nat.le_trans (own_le O20) (Nat.le_of_eq g28.symm)
  have z_b28 : h0.size ≤ b28 := Nat.le_trans K20.1 (Nat.le_of_eq g28.symm)
  have ne29 : ob ≠ b28 := Nat.ne_of_lt (Nat.lt_of_lt_of_le f21.lt (Nat.le_of_eq g28.symm))
  have ne30 : aa ≠ b28 := Nat.ne_of_lt (Nat.lt_of_lt_of_le f25.lt (Nat.le_of_eq g28.symm))
  have ne31 : b2 ≠ b28 := Nat.ne_of_lt (Nat.lt_of_lt_of_le f27.lt (Nat.le_of_eq g28.symm))
  have f32 : Exa Z h28 ob "com/example/reportwire/reportwire/Arguments" := f21.ext E28
  have f33 : Fld Z h28 ob "com/example/reportwire/reportwire/Arguments" "optionsGiven" "Ljava/util/Set;" (.ref b2) := f22.ext E28
  have f34 : Fld Z h28 ob "com/example/reportwire/reportwire/Arguments" "args" "[Ljava/lang/String;" .null := f23.ext E28
  have f35 : Fld Z h28 ob "com/example/reportwire/reportwire/Arguments" "next" "I" (.int (0 : Int32)) := f24.ext E28
  have f36 : Exa Z h28 aa "[Ljava/lang/String;" := f25.ext E28
  have f37 : Arv Z h28 aa ka (.object "java/lang/String") (1 : Int32) [(.ref sa)] .null := f26.ext E28
  have f38 : Exa Z h28 b2 "java/util/HashSet" := f27.ext E28
  have O28 : Old Z n0 h28 := O20.ext E28
  have K28 : Keep h0 h28 [ob] := K20.ext E28
  have f39 : Arv Z h28 b28 ka (.object "java/lang/String") (1 : Int32) [(.ref sa)] .null := A28
  show Go p e below s _ _ _ (T28.setTop (mkF m 20 #[.val (.ref ob), .val (.ref aa)] [(.ref b28), (.ref ob)]))
  obtain ⟨T40, X40, e40, st40⟩ := castY X28 hx hZ hown (wdx hw 82 rfl) e28 (Ins.self Ex28) (g := (mkF m 20 #[.val (.ref ob), .val (.ref aa)] [(.ref b28), (.ref ob)])) rfl rfl (hb hby d6_20)
  refine Go.st st40 ?_
  show Go p e below s _ _ _ (T40.setTop (mkF m 23 #[.val (.ref ob), .val (.ref aa)] [(.ref b28), (.ref ob)]))
  obtain ⟨T41, h41, X41, e41, W41, st41⟩ := putF X40 hx hZ hown (host := "") (Or.inl (wdx hw 84 rfl)) Via.refl e40 f34 f32 (Or.inr ⟨(wdx hw 85 rfl), rfl, hnm⟩) (wdx hw 29 rfl) (ty := (.array (.object "java/lang/String"))) (by decide) rfl rfl (g := (mkF m 23 #[.val (.ref ob), .val (.ref aa)] [(.ref b28), (.ref ob)])) rfl rfl (hb hby d6_23)
  refine Go.st st41 ?_
  have f42 : Exa Z h41 ob "com/example/reportwire/reportwire/Arguments" := f32.wr W41
  have f43 : Fld Z h41 ob "com/example/reportwire/reportwire/Arguments" "optionsGiven" "Ljava/util/Set;" (.ref b2) := f33.other W41 (Or.inr (slot_ne (Or.inr (wdx hw 74 rfl)) (Or.inr (wdx hw 85 rfl)) (by decide) (t := (.object "java/util/Set")) (t' := (.array (.object "java/lang/String"))) (by decide) (by decide)))
  have f44 : Fld Z h41 ob "com/example/reportwire/reportwire/Arguments" "args" "[Ljava/lang/String;" (.ref b28) := f34.same W41
  have f45 : Fld Z h41 ob "com/example/reportwire/reportwire/Arguments" "next" "I" (.int (0 : Int32)) := f35.other W41 (Or.inr (slot_ne (Or.inl (wdx hw 92 rfl)) (Or.inr (wdx hw 85 rfl)) (by decide) (t := .int) (t' := (.array (.object "java/lang/String"))) (by decide) (by decide)))
  have f46 : Exa Z h41 aa "[Ljava/lang/String;" := f36.wr W41
  have f47 : Arv Z h41 aa ka (.object "java/lang/String") (1 : Int32) [(.ref sa)] .null := f37.other W41 (Ne.symm ne_oa)
  have f48 : Exa Z h41 b2 "java/util/HashSet" := f38.wr W41
  have f49 : Exa Z h41 b28 "[Ljava/lang/String;" := Ex28.wr W41
  have f50 : Arv Z h41 b28 ka (.object "java/lang/String") (1 : Int32) [(.ref sa)] .null := f39.other W41 (Ne.symm ne29)
  have O41 : Old Z n0 h41 := O28.wr W41 g_o
  have N41 := Fr.snoc X41 N20 g_o
  have K41 : Keep h0 h41 [ob] := K28.wr W41 (Or.inl (by simp))
  show Go p e below s _ _ _ (T41.setTop (mkF m 26 #[.val (.ref ob), .val (.ref aa)] []))
  refine Go.retV X41 hx hlk Bd.returns (hb hby d6_26) (by decide) (by decide) e41 ?_
  exact ⟨b28, ka, rfl, N41, K41, f44, f45, f50, z_b28⟩
theorem d12_12 : decode prog_7_method_7_code 12 = .ok (.iconst 1, 1) := by decide +kernel
theorem d12_13 : decode prog_7_method_7_code 13 = .ok (.goto 4, 3) := by decide +kernel
theorem ef_rm12_1_0 (m : MethodId) (ob : Addr) : entryFrame m #[(.ref ob)] 1 = mkF m 0 #[.val (.ref ob)] [] := by first | (simp [entryFrame, mkF, argsToLocals, Value.category]; done) | rfl
def Q12_1_0 (Z : State) (ob : Addr) (na : Addr) (kn : ClassId) (sa : Addr) (h0 : Heap) (n0 : Nat) (v : Option Value) (h : Heap) (L : List Loc) : Prop := v = some (.int (1 : Int32)) ∧ Fr n0 L ∧ h = h0
set_option maxRecDepth 65536 in
set_option maxHeartbeats 40000000 in
theorem rm12_1_0 (l : Launch) (Z : State) (a0 : Array Value) (hw : ∀ d ∈ tables_1, d.before a0 Z = true) (ws : List Jvm.Cond) (ob : Addr) (na : Addr) (kn : ClassId) (sa : Addr) (h0 : Heap) (n0 : Nat) (O0 : Old Z n0 h0) (Fa : Fld Z h0 ob "com/example/reportwire/reportwire/Arguments" "args" "[Ljava/lang/String;" (.ref na)) (Fn : Fld Z h0 ob "com/example/reportwire/reportwire/Arguments" "next" "I" (.int (0 : Int32))) (Va : Arv Z h0 na kn (.object "java/lang/String") (1 : Int32) [(.ref sa)] .null) :
    MetFree l (⟨"com/example/reportwire/reportwire/Arguments", "hasNext", "()Z"⟩ : MethodName) (head1 (Jvm.Cond.code (⟨"com/example/reportwire/reportwire/Arguments", "hasNext", "()Z"⟩ : MethodName) prog_7_method_7_code 1 (some .boolean) :: ws) ({ frames := 0, cells := 0, slots := 0, locals := 0 } : Room)) (fun ay U => ay = #[(.ref ob)] ∧ Z.Warmed39 U.vm ∧ U.heap = h0) (fun _ _ _ _ _ => True) (fun _ U o U' => ∃ v L, o = .returned v ∧ Q12_1_0 Z ob na kn sa h0 n0 v U'.heap L ∧ FrameEnd U o U' L ({ frames := 0, cells := 0, slots := 0, locals := 0 } : Room).cells ({ frames := 0, cells := 0, slots := 0, locals := 0 } : Room).slots) := by
  refine MetFree.of_bodySF (plainFor_of_name pn_com_example_reportwire_reportwire_Arguments) hisR ?_
  intro p e s m args below meth c s₁ Bd hml0 hP hK
  obtain ⟨rfl, hZ, hh⟩ := hP
  have hx := Bd.exec
  have hby := Bd.bytes
  have hlk : meth.locks = false := BodyLoose.notSynchronized Bd
  have hml : c.maxLocals = 1 := hml0
  have hown : s.vm.findClass "com/example/reportwire/reportwire/Arguments" = some m.cls := findClass_of_methodNamed Bd.named
  have hnm := (name_of_methodNamed Bd.named Bd.method).1
  have X0 : Stand p l e ({ frames := 0, cells := 0, slots := 0, locals := 0 } : Room) s m #[(.ref ob)] below meth c s₁ [] 0 0 := Stand.of_body Bd
  have e0 : s₁.heap = h0 := by rw [← hh, Bd.state]; rfl
  have N0 := Fr.nil n0
  suffices hgo : Go p e below s 0 0 (Q12_1_0 Z ob na kn sa h0 n0) (s₁.setTop (mkF m 0 #[.val (.ref ob)] [])) by
    obtain ⟨t, o, h1, h2⟩ := hgo; exact ⟨t, o, castTop (ef_rm12_1_0 m ob) h1, h2⟩
  show Go p e below s _ _ _ (s₁.setTop (mkF m 0 #[.val (.ref ob)] []))
  refine Go.st (fun _ k' => XS.aloadN X0.here hx rfl (hb hby d12_0) rfl rfl k') ?_
  show Go p e below s _ _ _ (s₁.setTop (mkF m 1 #[.val (.ref ob)] [(.ref ob)]))
  obtain ⟨T1, X1, e1, st1⟩ := getF X0 hx hZ hown (host := "") (Or.inl (wdx hw 91 rfl)) Via.refl e0 Fn (g := (mkF m 1 #[.val (.ref ob)] [(.ref ob)])) rfl rfl (hb hby d12_1)
  refine Go.st st1 ?_
  show Go p e below s _ _ _ (T1.setTop (mkF m 4 #[.val (.ref ob)] [(.int (0 : Int32))]))
  refine Go.st (fun _ k' => XS.aloadN X1.here hx rfl (hb hby d12_4) rfl rfl k') ?_
  show Go p e below s _ _ _ (T1.setTop (mkF m 5 #[.val (.ref ob)] [(.ref ob), (.int (0 : Int32))]))
  obtain ⟨T2, X2, e2, st2⟩ := getF X1 hx hZ hown (host := "") (Or.inl (wdx hw 84 rfl)) Via.refl e1 Fa (g := (mkF m 5 #[.val (.ref ob)] [(.ref ob), (.int (0 : Int32))])) rfl rfl (hb hby d12_5)
  refine Go.st st2 ?_
  show Go p e below s _ _ _ (T2.setTop (mkF m 8 #[.val (.ref ob)] [(.ref na), (.int (0 : Int32))]))
  obtain ⟨cl3, Ar3, qc3, Sz3, Nn3, Ha3, Gf3⟩ := id Va
  refine Go.st (fun _ k' => X2.arraylength hx (by rw [e2]; exact Ar3.1) (State.isArrayOf_alike hZ.alike Ar3.2.1) (g := (mkF m 8 #[.val (.ref ob)] [(.ref na), (.int (0 : Int32))])) rfl rfl (hb hby d12_8) _ k') ?_
  rw [len_of Sz3 Nn3]
  show Go p e below s _ _ _ (T2.setTop (mkF m 9 #[.val (.ref ob)] [(.int (1 : Int32)), (.int (0 : Int32))]))
  refine Go.st (fun _ k' => XS.icmpNo X2.here hx rfl (hb hby d12_9) rfl (XT.ii_ge_f (by decide)) k') ?_
  show Go p e below s _ _ _ (T2.setTop (mkF m 12 #[.val (.ref ob)] []))
  refine Go.st (fun _ k' => XS.iconst X2.here hx rfl (hb hby d12_12) k') ?_
  show Go p e below s _ _ _ (T2.setTop (mkF m 13 #[.val (.ref ob)] [(.int (1 : Int32))]))
  refine Go.st (fun _ k' => XS.goto X2.here hx rfl (pc0 := 13) (pc' := 17) rfl (hb hby d12_13) (by decide) (by decide) k') ?_
  show Go p e below s _ _ _ (T2.setTop (mkF m 17 #[.val (.ref ob)] [(.int (1 : Int32))]))
  refine Go.retB X2 hx hlk (t := .boolean) Bd.returns (by simp) (hb hby d12_17) (by decide) (by decide) e2 ?_
  exact ⟨rfl, N0, rfl⟩
theorem d14_0 : decode prog_7_method_9_code 0 = .ok (.aload_n 0, 1) := by decide +kernel
theorem pd___Z : parseMethodDescriptor "()Z" = some ⟨[], some .boolean⟩ := by decide +kernel
theorem d14_1 : decode prog_7_method_9_code 1 = .ok (.invokevirtual 70, 3) := by decide +kernel
theorem d14_4 : decode prog_7_method_9_code 4 = .ok (.ifCond .ne 13, 3) := by decide +kernel
theorem d14_17 : decode prog_7_method_9_code 17 = .ok (.aload_n 0, 1) := by decide +kernel
theorem d14_18 : decode prog_7_method_9_code 18 = .ok (.getfield 22, 3) := by decide +kernel
theorem d14_21 : decode prog_7_method_9_code 21 = .ok (.aload_n 0, 1) := by decide +kernel
theorem d14_22 : decode prog_7_method_9_code 22 = .ok (.getfield 60, 3) := by decide +kernel
theorem d14_25 : decode prog_7_method_9_code 25 = .ok (.aaload, 1) := by decide +kernel
theorem d14_26 : decode prog_7_method_9_code 26 = .ok (.areturn, 1) := by decide +kernel
theorem ef_rm14_1_0 (m : MethodId) (ob : Addr) : entryFrame m #[(.ref ob)] 1 = mkF m 0 #[.val (.ref ob)] [] := by first | (simp [entryFrame, mkF, argsToLocals, Value.category]; done) | rfl
def Q14_1_0 (Z : State) (ob : Addr) (na : Addr) (kn : ClassId) (sa : Addr) (h0 : Heap) (n0 : Nat) (v : Option Value) (h : Heap) (L : List Loc) : Prop := v = some (.ref sa) ∧ Fr n0 L ∧ h = h0
set_option maxRecDepth 65536 in
set_option maxHeartbeats 40000000 in
theorem rm14_1_0 (l : Launch) (Z : State) (a0 : Array Value) (hw : ∀ d ∈ tables_1, d.before a0 Z = true) (ws : List Jvm.Cond) (ob : Addr) (na : Addr) (kn : ClassId) (sa : Addr) (h0 : Heap) (n0 : Nat) (O0 : Old Z n0 h0) (E_o : Exa Z h0 ob "com/example/reportwire/reportwire/Arguments") (Fa : Fld Z h0 ob "com/example/reportwire/reportwire/Arguments" "args" "[Ljava/lang/String;" (.ref na)) (Fn : Fld Z h0 ob "com/example/reportwire/reportwire/Arguments" "next" "I" (.int (0 : Int32))) (Va : Arv Z h0 na kn (.object "java/lang/String") (1 : Int32) [(.ref sa)] .null) :
    MetFree l (⟨"com/example/reportwire/reportwire/Arguments", "peek", "()Ljava/lang/String;"⟩ : MethodName) (head1 (Jvm.Cond.code (⟨"com/example/reportwire/reportwire/Arguments", "peek", "()Ljava/lang/String;"⟩ : MethodName) prog_7_method_9_code 1 (some (.object "java/lang/String")) :: ws) ({ frames := 1, cells := 0, slots := 0, locals := 12 } : Room)) (fun ay U => ay = #[(.ref ob)] ∧ Z.Warmed39 U.vm ∧ U.heap = h0) (fun _ _ _ _ _ => True) (fun _ U o U' => ∃ v L, o = .returned v ∧ Q14_1_0 Z ob na kn sa h0 n0 v U'.heap L ∧ FrameEnd U o U' L ({ frames := 1, cells := 0, slots := 0, locals := 12 } : Room).cells ({ frames := 1, cells := 0, slots := 0, locals := 12 } : Room).slots) := by
  refine MetFree.of_bodySF (plainFor_of_name pn_com_example_reportwire_reportwire_Arguments) hisR ?_
  intro p e s m args below meth c s₁ Bd hml0 hP hK
  obtain ⟨rfl, hZ, hh⟩ := hP
  have hx := Bd.exec
  have hby := Bd.bytes
  have hlk : meth.locks = false := BodyLoose.notSynchronized Bd
  have hml : c.maxLocals = 1 := hml0
  have hown : s.vm.findClass "com/example/reportwire/reportwire/Arguments" = some m.cls := findClass_of_methodNamed Bd.named
  have hnm := (name_of_methodNamed Bd.named Bd.method).1
  have X0 : Stand p l e ({ frames := 1, cells := 0, slots := 0, locals := 12 } : Room) s m #[(.ref ob)] below meth c s₁ [] 0 0 := Stand.of_body Bd
  have e0 : s₁.heap = h0 := by rw [← hh, Bd.state]; rfl
  have N0 := Fr.nil n0
  suffices hgo : Go p e below s 0 0 (Q14_1_0 Z ob na kn sa h0 n0) (s₁.setTop (mkF m 0 #[.val (.ref ob)] [])) by
    obtain ⟨t, o, h1, h2⟩ := hgo; exact ⟨t, o, castTop (ef_rm14_1_0 m ob) h1, h2⟩
  show Go p e below s _ _ _ (s₁.setTop (mkF m 0 #[.val (.ref ob)] []))
  refine Go.st (fun _ k' => XS.aloadN X0.here hx rfl (hb hby d14_0) rfl rfl k') ?_
  show Go p e below s _ _ _ (s₁.setTop (mkF m 1 #[.val (.ref ob)] [(.ref ob)]))
  obtain ⟨cq1, kq1, q1a, q1b, q1c⟩ := isOf hZ e0 E_o
  obtain ⟨_, _, ⟨T1, L1, k1, n1⟩, -, X1, ⟨Lc1, hQ1, l1, y1, z1⟩, st1⟩ := X0.virtualBack hx (y := (⟨"com/example/reportwire/reportwire/Arguments", "hasNext", "()Z"⟩ : MethodName)) (z := (⟨"com/example/reportwire/reportwire/Arguments", "hasNext", "()Z"⟩ : MethodName)) hown (mvT hZ (wdx hw 103 rfl)) (mvT hZ (wdx hw 87 rfl)) (notFace_of_selects (args := #[]) (mvT hZ (wdx hw 89 rfl))) (mvT hZ (wdx hw 89 rfl)) (mvT hZ (wdx hw 88 rfl)) (by decide) (backOf (W := 0) (rm12_1_0 l Z a0 hw [] ob na kn sa h0 n0 O0 Fa Fn Va) hZ (wdx hw 90 rfl) (wdx hw 30 rfl) (by decide) (by decide)) q1a q1c (g := (mkF m 1 #[.val (.ref ob)] [(.ref ob)])) rfl (by rw [hml]; rfl) (Steps.refl _) (argsL := []) (rest := []) (lenOf pd___Z rfl) rfl (by show 2 * 0 + _ ≤ _; exact Nat.le_of_eq rfl) (hb hby d14_1) (fun _ _ => ⟨rfl, e0, (by exact Nat.le_of_ble_eq_true rfl), (by exact Nat.le_of_ble_eq_true rfl)⟩)
  dsimp only [Pt.U, Pt.locs, Pt.cells, Pt.slots] at X1 l1 y1 z1 st1 hQ1
  subst l1 y1 z1
  obtain ⟨rfl, Nq1, eq1⟩ := hQ1
  have N1 := Fr.app N0 Nq1
  refine Go.tr st1 ?_
  show Go p e below s _ _ _ (T1.setTop (mkF m 4 #[.val (.ref ob)] [(.int (1 : Int32))]))
  refine Go.st (fun _ k' => XS.ifYes X1.here hx rfl (pc0 := 4) (pc' := 17) rfl (hb hby d14_4) rfl (XT.i0_ne_t (by decide)) (by decide) (by decide) k') ?_
  show Go p e below s _ _ _ (T1.setTop (mkF m 17 #[.val (.ref ob)] []))
  refine Go.st (fun _ k' => XS.aloadN X1.here hx rfl (hb hby d14_17) rfl rfl k') ?_
  show Go p e below s _ _ _ (T1.setTop (mkF m 18 #[.val (.ref ob)] [(.ref ob)]))
  obtain ⟨T2, X2, e2, st2⟩ := getF X1 hx hZ hown (host := "") (Or.inl (wdx hw 84 rfl)) Via.refl eq1 Fa (g := (mkF m 18 #[.val (.ref ob)] [(.ref ob)])) rfl rfl (hb hby d14_18)
  refine Go.st st2 ?_
  show Go p e below s _ _ _ (T2.setTop (mkF m 21 #[.val (.ref ob)] [(.ref na)]))
  refine Go.st (fun _ k' => XS.aloadN X2.here hx rfl (hb hby d14_21) rfl rfl k') ?_
  show Go p e below s _ _ _ (T2.setTop (mkF m 22 #[.val (.ref ob)] [(.ref ob), (.ref na)]))
  obtain ⟨T3, X3, e3, st3⟩ := getF X2 hx hZ hown (host := "") (Or.inl (wdx hw 91 rfl)) Via.refl e2 Fn (g := (mkF m 22 #[.val (.ref ob)] [(.ref ob), (.ref na)])) rfl rfl (hb hby d14_22)
  refine Go.st st3 ?_
  show Go p e below s _ _ _ (T3.setTop (mkF m 25 #[.val (.ref ob)] [(.int (0 : Int32)), (.ref na)]))
  obtain ⟨cl4, Ar4, qc4, Sz4, Nn4, Ha4, Gf4⟩ := id Va
  refine Go.st (fun _ k' => X3.aaload hx (j := (0 : Int32)) (v := (.ref sa)) (by rw [e3]; exact Ar4.1) (State.isArrayOf_alike hZ.alike Ar4.2.1) rfl Ar4.2.2 (inb_of Sz4 ⟨by decide, by decide⟩) (Ha4.at (inb_of Sz4 ⟨by decide, by decide⟩) rfl) (g := (mkF m 25 #[.val (.ref ob)] [(.int (0 : Int32)), (.ref na)])) rfl rfl (hb hby d14_25) _ k') ?_
  show Go p e below s _ _ _ (T3.setTop (mkF m 26 #[.val (.ref ob)] [(.ref sa)]))
  refine Go.ret X3 hx hlk (t := (.object "java/lang/String")) Bd.returns rfl (Or.inr (Or.inr (Or.inr (Or.inr ⟨rfl, rfl, rfl⟩)))) (hb hby d14_26) (by decide) (by decide) e3 ?_
  exact ⟨rfl, N1, rfl⟩
theorem d13_0 : decode prog_7_method_10_code 0 = .ok (.aload_n 0, 1) := by decide +kernel
theorem pd___Ljava_lang_String_ : parseMethodDescriptor "()Ljava/lang/String;" = some ⟨[], some (.object "java/lang/String")⟩ := by decide +kernel
theorem d13_1 : decode prog_7_method_10_code 1 = .ok (.invokevirtual 76, 3) := by decide +kernel
theorem d13_4 : decode prog_7_method_10_code 4 = .ok (.astore_n 1, 1) := by decide +kernel
theorem d13_5 : decode prog_7_method_10_code 5 = .ok (.aload_n 0, 1) := by decide +kernel
theorem d13_6 : decode prog_7_method_10_code 6 = .ok (.dup, 1) := by decide +kernel
theorem d13_7 : decode prog_7_method_10_code 7 = .ok (.getfield 60, 3) := by decide +kernel
theorem d13_10 : decode prog_7_method_10_code 10 = .ok (.iconst 1, 1) := by decide +kernel
theorem d13_11 : decode prog_7_method_10_code 11 = .ok (.iadd, 1) := by decide +kernel
theorem d13_12 : decode prog_7_method_10_code 12 = .ok (.putfield 60, 3) := by decide +kernel
theorem d13_15 : decode prog_7_method_10_code 15 = .ok (.aload_n 1, 1) := by decide +kernel
theorem d13_16 : decode prog_7_method_10_code 16 = .ok (.areturn, 1) := by decide +kernel
theorem ef_rm13_1_0 (m : MethodId) (ob : Addr) : entryFrame m #[(.ref ob)] 2 = mkF m 0 #[.val (.ref ob), .unset] [] := by first | (simp [entryFrame, mkF, argsToLocals, Value.category]; done) | rfl
def Q13_1_0 (Z : State) (ob : Addr) (na : Addr) (kn : ClassId) (sa : Addr) (h0 : Heap) (n0 : Nat) (v : Option Value) (h : Heap) (L : List Loc) : Prop := v = some (.ref sa) ∧ Fr n0 L ∧ Keep h0 h [ob] ∧ Fld Z h ob "com/example/reportwire/reportwire/Arguments" "args" "[Ljava/lang/String;" (.ref na) ∧ Fld Z h ob "com/example/reportwire/reportwire/Arguments" "next" "I" (.int (1 : Int32))
set_option maxRecDepth 65536 in
set_option maxHeartbeats 40000000 in
theorem rm13_1_0 (l : Launch) (Z : State) (a0 : Array Value) (hw : ∀ d ∈ tables_1, d.before a0 Z = true) (ws : List Jvm.Cond) (ob : Addr) (na : Addr) (kn : ClassId) (sa : Addr) (h0 : Heap) (n0 : Nat) (O0 : Old Z n0 h0) (E_o : Exa Z h0 ob "com/example/reportwire/reportwire/Arguments") (Fa : Fld Z h0 ob "com/example/reportwire/reportwire/Arguments" "args" "[Ljava/lang/String;" (.ref na)) (Fn : Fld Z h0 ob "com/example/reportwire/reportwire/Arguments" "next" "I" (.int (0 : Int32))) (Va : Arv Z h0 na kn (.object "java/lang/String") (1 : Int32) [(.ref sa)] .null) (g_o : n0 ≤ ob) (ne_on : ob ≠ na) :
    MetFree l (⟨"com/example/reportwire/reportwire/Arguments", "next", "()Ljava/lang/String;"⟩ : MethodName) (head1 (Jvm.Cond.code (⟨"com/example/reportwire/reportwire/Arguments", "next", "()Ljava/lang/String;"⟩ : MethodName) prog_7_method_10_code 2 (some (.object "java/lang/String")) :: ws) ({ frames := 2, cells := 0, slots := 0, locals := 24 } : Room)) (fun ay U => ay = #[(.ref ob)] ∧ Z.Warmed39 U.vm ∧ U.heap = h0) (fun _ _ _ _ _ => True) (fun _ U o U' => ∃ v L, o = .returned v ∧ Q13_1_0 Z ob na kn sa h0 n0 v U'.heap L ∧ FrameEnd U o U' L ({ frames := 2, cells := 0, slots := 0, locals := 24 } : Room).cells ({ frames := 2, cells := 0, slots := 0, locals := 24 } : Room).slots) := by
  refine MetFree.of_bodySF (plainFor_of_name pn_com_example_reportwire_reportwire_Arguments) hisR ?_
  intro p e s m args below meth c s₁ Bd hml0 hP hK
  obtain ⟨rfl, hZ, hh⟩ := hP
  have hx := Bd.exec
  have hby := Bd.bytes
  have hlk : meth.locks = false := BodyLoose.notSynchronized Bd
  have hml : c.maxLocals = 2 := hml0
  have hown : s.vm.findClass "com/example/reportwire/reportwire/Arguments" = some m.cls := findClass_of_methodNamed Bd.named
  have hnm := (name_of_methodNamed Bd.named Bd.method).1
  have X0 : Stand p l e ({ frames := 2, cells := 0, slots := 0, locals := 24 } : Room) s m #[(.ref ob)] below meth c s₁ [] 0 0 := Stand.of_body Bd
  have e0 : s₁.heap = h0 := by rw [← hh, Bd.state]; rfl
  have N0 := Fr.nil n0
  suffices hgo : Go p e below s 0 0 (Q13_1_0 Z ob na kn sa h0 n0) (s₁.setTop (mkF m 0 #[.val (.ref ob), .unset] [])) by
    obtain ⟨t, o, h1, h2⟩ := hgo; exact ⟨t, o, castTop (ef_rm13_1_0 m ob) h1, h2⟩
  show Go p e below s _ _ _ (s₁.setTop (mkF m 0 #[.val (.ref ob), .unset] []))
  refine Go.st (fun _ k' => XS.aloadN X0.here hx rfl (hb hby d13_0) rfl rfl k') ?_
  show Go p e below s _ _ _ (s₁.setTop (mkF m 1 #[.val (.ref ob), .unset] [(.ref ob)]))
  obtain ⟨cq1, kq1, q1a, q1b, q1c⟩ := isOf hZ e0 E_o
  obtain ⟨_, _, ⟨T1, L1, k1, n1⟩, -, X1, ⟨Lc1, hQ1, l1, y1, z1⟩, st1⟩ := X0.virtualBack hx (y := (⟨"com/example/reportwire/reportwire/Arguments", "peek", "()Ljava/lang/String;"⟩ : MethodName)) (z := (⟨"com/example/reportwire/reportwire/Arguments", "peek", "()Ljava/lang/String;"⟩ : MethodName)) hown (mvT hZ (wdx hw 98 rfl)) (mvT hZ (wdx hw 99 rfl)) (notFace_of_selects (args := #[]) (mvT hZ (wdx hw 101 rfl))) (mvT hZ (wdx hw 101 rfl)) (mvT hZ (wdx hw 100 rfl)) (by decide) (backOf (W := 0) (rm14_1_0 l Z a0 hw [] ob na kn sa h0 n0 O0 E_o Fa Fn Va) hZ (wdx hw 102 rfl) (wdx hw 30 rfl) (by decide) (by decide)) q1a q1c (g := (mkF m 1 #[.val (.ref ob), .unset] [(.ref ob)])) rfl (by rw [hml]; rfl) (Steps.refl _) (argsL := []) (rest := []) (lenOf pd___Ljava_lang_String_ rfl) rfl (by show 2 * 0 + _ ≤ _; exact Nat.le_of_eq rfl) (hb hby d13_1) (fun _ _ => ⟨rfl, e0, (by exact Nat.le_of_ble_eq_true rfl), (by exact Nat.le_of_ble_eq_true rfl)⟩)
  dsimp only [Pt.U, Pt.locs, Pt.cells, Pt.slots] at X1 l1 y1 z1 st1 hQ1
  subst l1 y1 z1
  obtain ⟨rfl, Nq1, eq1⟩ := hQ1
  have N1 := Fr.app N0 Nq1
  refine Go.tr st1 ?_
  show Go p e below s _ _ _ (T1.setTop (mkF m 4 #[.val (.ref ob), .unset] [(.ref sa)]))
  refine Go.st (fun _ k' => XS.astoreN X1.here hx rfl (hb hby d13_4) rfl rfl (l' := #[.val (.ref ob), .val (.ref sa)]) rfl k') ?_
  show Go p e below s _ _ _ (T1.setTop (mkF m 5 #[.val (.ref ob), .val (.ref sa)] []))
  refine Go.st (fun _ k' => XS.aloadN X1.here hx rfl (hb hby d13_5) rfl rfl k') ?_
  show Go p e below s _ _ _ (T1.setTop (mkF m 6 #[.val (.ref ob), .val (.ref sa)] [(.ref ob)]))
  refine Go.st (fun _ k' => XS.dup X1.here hx rfl (hb hby d13_6) rfl rfl k') ?_
  show Go p e below s _ _ _ (T1.setTop (mkF m 7 #[.val (.ref ob), .val (.ref sa)] [(.ref ob), (.ref ob)]))
  obtain ⟨T2, X2, e2, st2⟩ := getF X1 hx hZ hown (host := "") (Or.inl (wdx hw 91 rfl)) Via.refl eq1 Fn (g := (mkF m 7 #[.val (.ref ob), .val (.ref sa)] [(.ref ob), (.ref ob)])) rfl rfl (hb hby d13_7)
  refine Go.st st2 ?_
  show Go p e below s _ _ _ (T2.setTop (mkF m 10 #[.val (.ref ob), .val (.ref sa)] [(.int (0 : Int32)), (.ref ob)]))
  refine Go.st (fun _ k' => XS.iconst X2.here hx rfl (hb hby d13_10) k') ?_
  show Go p e below s _ _ _ (T2.setTop (mkF m 11 #[.val (.ref ob), .val (.ref sa)] [(.int (1 : Int32)), (.int (0 : Int32)), (.ref ob)]))
  refine Go.st (fun _ k' => XS.iadd X2.here hx rfl (hb hby d13_11) rfl k') ?_
  show Go p e below s _ _ _ (T2.setTop (mkF m 12 #[.val (.ref ob), .val (.ref sa)] [(.int (1 : Int32)), (.ref ob)]))
  obtain ⟨T3, h3, X3, e3, W3, st3⟩ := putF X2 hx hZ hown (host := "") (Or.inl (wdx hw 91 rfl)) Via.refl e2 Fn E_o (Or.inl (wdx hw 92 rfl)) (wdx hw 29 rfl) (ty := .int) (by decide) rfl rfl (g := (mkF m 12 #[.val (.ref ob), .val (.ref sa)] [(.int (1 : Int32)), (.ref ob)])) rfl rfl (hb hby d13_12)
  refine Go.st st3 ?_
  have f4 : Exa Z h3 ob "com/example/reportwire/reportwire/Arguments" := E_o.wr W3
  have f5 : Fld Z h3 ob "com/example/reportwire/reportwire/Arguments" "args" "[Ljava/lang/String;" (.ref na) := Fa.other W3 (Or.inr (slot_ne (Or.inr (wdx hw 85 rfl)) (Or.inl (wdx hw 92 rfl)) (by decide) (t := (.array (.object "java/lang/String"))) (t' := .int) (by decide) (by decide)))
  have f6 : Fld Z h3 ob "com/example/reportwire/reportwire/Arguments" "next" "I" (.int (1 : Int32)) := Fn.same W3
  have f7 : Arv Z h3 na kn (.object "java/lang/String") (1 : Int32) [(.ref sa)] .null := Va.other W3 (Ne.symm ne_on)
  have O3 : Old Z n0 h3 := O0.wr W3 g_o
  have N3 := Fr.snoc X3 N1 g_o
  have K3 : Keep h0 h3 [ob] := (Keep.refl h0 [ob]).wr W3 (Or.inl (by simp))
  show Go p e below s _ _ _ (T3.setTop (mkF m 15 #[.val (.ref ob), .val (.ref sa)] []))
  refine Go.st (fun _ k' => XS.aloadN X3.here hx rfl (hb hby d13_15) rfl rfl k') ?_
  show Go p e below s _ _ _ (T3.setTop (mkF m 16 #[.val (.ref ob), .val (.ref sa)] [(.ref sa)]))
  refine Go.ret X3 hx hlk (t := (.object "java/lang/String")) Bd.returns rfl (Or.inr (Or.inr (Or.inr (Or.inr ⟨rfl, rfl, rfl⟩)))) (hb hby d13_16) (by decide) (by decide) e3 ?_
  exact ⟨rfl, N3, K3, f5, f6⟩
theorem ef_rm12_1_1 (m : MethodId) (ob : Addr) : entryFrame m #[(.ref ob)] 1 = mkF m 0 #[.val (.ref ob)] [] := by first | (simp [entryFrame, mkF, argsToLocals, Value.category]; done) | rfl
def Q12_1_1 (Z : State) (ob : Addr) (na : Addr) (kn : ClassId) (sa : Addr) (h0 : Heap) (n0 : Nat) (v : Option Value) (h : Heap) (L : List Loc) : Prop := v = some (.int (0 : Int32)) ∧ Fr n0 L ∧ h = h0
set_option maxRecDepth 65536 in
set_option maxHeartbeats 40000000 in
theorem rm12_1_1 (l : Launch) (Z : State) (a0 : Array Value) (hw : ∀ d ∈ tables_1, d.before a0 Z = true) (ws : List Jvm.Cond) (ob : Addr) (na : Addr) (kn : ClassId) (sa : Addr) (h0 : Heap) (n0 : Nat) (O0 : Old Z n0 h0) (Fa : Fld Z h0 ob "com/example/reportwire/reportwire/Arguments" "args" "[Ljava/lang/String;" (.ref na)) (Fn : Fld Z h0 ob "com/example/reportwire/reportwire/Arguments" "next" "I" (.int (1 : Int32))) (Va : Arv Z h0 na kn (.object "java/lang/String") (1 : Int32) [(.ref sa)] .null) :
    MetFree l (⟨"com/example/reportwire/reportwire/Arguments", "hasNext", "()Z"⟩ : MethodName) (head1 (Jvm.Cond.code (⟨"com/example/reportwire/reportwire/Arguments", "hasNext", "()Z"⟩ : MethodName) prog_7_method_7_code 1 (some .boolean) :: ws) ({ frames := 0, cells := 0, slots := 0, locals := 0 } : Room)) (fun ay U => ay = #[(.ref ob)] ∧ Z.Warmed39 U.vm ∧ U.heap = h0) (fun _ _ _ _ _ => True) (fun _ U o U' => ∃ v L, o = .returned v ∧ Q12_1_1 Z ob na kn sa h0 n0 v U'.heap L ∧ FrameEnd U o U' L ({ frames := 0, cells := 0, slots := 0, locals := 0 } : Room).cells ({ frames := 0, cells := 0, slots := 0, locals := 0 } : Room).slots) := by
  refine MetFree.of_bodySF (plainFor_of_name pn_com_example_reportwire_reportwire_Arguments) hisR ?_
  intro p e s m args below meth c s₁ Bd hml0 hP hK
  obtain ⟨rfl, hZ, hh⟩ := hP
  have hx := Bd.exec
  have hby := Bd.bytes
  have hlk : meth.locks = false := BodyLoose.notSynchronized Bd
  have hml : c.maxLocals = 1 := hml0
  have hown : s.vm.findClass "com/example/reportwire/reportwire/Arguments" = some m.cls := findClass_of_methodNamed Bd.named
  have hnm := (name_of_methodNamed Bd.named Bd.method).1
  have X0 : Stand p l e ({ frames := 0, cells := 0, slots := 0, locals := 0 } : Room) s m #[(.ref ob)] below meth c s₁ [] 0 0 := Stand.of_body Bd
  have e0 : s₁.heap = h0 := by rw [← hh, Bd.state]; rfl
  have N0 := Fr.nil n0
  suffices hgo : Go p e below s 0 0 (Q12_1_1 Z ob na kn sa h0 n0) (s₁.setTop (mkF m 0 #[.val (.ref ob)] [])) by
    obtain ⟨t, o, h1, h2⟩ := hgo; exact ⟨t, o, castTop (ef_rm12_1_1 m ob) h1, h2⟩
  show Go p e below s _ _ _ (s₁.setTop (mkF m 0 #[.val (.ref ob)] []))
  refine Go.st (fun _ k' => XS.aloadN X0.here hx rfl (hb hby d12_0) rfl rfl k') ?_
  show Go p e below s _ _ _ (s₁.setTop (mkF m 1 #[.val (.ref ob)] [(.ref ob)]))
  obtain ⟨T1, X1, e1, st1⟩ := getF X0 hx hZ hown (host := "") (Or.inl (wdx hw 91 rfl)) Via.refl e0 Fn (g := (mkF m 1 #[.val (.ref ob)] [(.ref ob)])) rfl rfl (hb hby d12_1)
  refine Go.st st1 ?_
  show Go p e below s _ _ _ (T1.setTop (mkF m 4 #[.val (.ref ob)] [(.int (1 : Int32))]))
  refine Go.st (fun _ k' => XS.aloadN X1.here hx rfl (hb hby d12_4) rfl rfl k') ?_
  show Go p e below s _ _ _ (T1.setTop (mkF m 5 #[.val (.ref ob)] [(.ref ob), (.int (1 : Int32))]))
  obtain ⟨T2, X2, e2, st2⟩ := getF X1 hx hZ hown (host := "") (Or.inl (wdx hw 84 rfl)) Via.refl e1 Fa (g := (mkF m 5 #[.val (.ref ob)] [(.ref ob), (.int (1 : Int32))])) rfl rfl (hb hby d12_5)
  refine Go.st st2 ?_
  show Go p e below s _ _ _ (T2.setTop (mkF m 8 #[.val (.ref ob)] [(.ref na), (.int (1 : Int32))]))
  obtain ⟨cl3, Ar3, qc3, Sz3, Nn3, Ha3, Gf3⟩ := id Va
  refine Go.st (fun _ k' => X2.arraylength hx (by rw [e2]; exact Ar3.1) (State.isArrayOf_alike hZ.alike Ar3.2.1) (g := (mkF m 8 #[.val (.ref ob)] [(.ref na), (.int (1 : Int32))])) rfl rfl (hb hby d12_8) _ k') ?_
  rw [len_of Sz3 Nn3]
  show Go p e below s _ _ _ (T2.setTop (mkF m 9 #[.val (.ref ob)] [(.int (1 : Int32)), (.int (1 : Int32))]))
  refine Go.st (fun _ k' => XS.icmpYes X2.here hx rfl (pc0 := 9) (pc' := 16) rfl (hb hby d12_9) rfl (XT.ii_ge_t (by decide)) (by decide) (by decide) k') ?_
  show Go p e below s _ _ _ (T2.setTop (mkF m 16 #[.val (.ref ob)] []))
  refine Go.st (fun _ k' => XS.iconst X2.here hx rfl (hb hby d12_16) k') ?_
  show Go p e below s _ _ _ (T2.setTop (mkF m 17 #[.val (.ref ob)] [(.int (0 : Int32))]))
  refine Go.retB X2 hx hlk (t := .boolean) Bd.returns (by simp) (hb hby d12_17) (by decide) (by decide) e2 ?_
  exact ⟨rfl, N0, rfl⟩
theorem ef_rm6_2 (m : MethodId) (ob : Addr) (aa : Addr) : entryFrame m #[(.ref ob), (.ref aa)] 2 = mkF m 0 #[.val (.ref ob), .val (.ref aa)] [] := by first | (simp [entryFrame, mkF, argsToLocals, Value.category]; done) | rfl
def Q6_2 (Z : State) (ob : Addr) (aa : Addr) (ka : ClassId) (sa : Addr) (sb : Addr) (h0 : Heap) (n0 : Nat) (v : Option Value) (h : Heap) (L : List Loc) : Prop := ∃ (na : Addr) (kn : ClassId), v = none ∧ Fr n0 L ∧ Keep h0 h [ob] ∧ Fld Z h ob "com/example/reportwire/reportwire/Arguments" "args" "[Ljava/lang/String;" (.ref na) ∧ Fld Z h ob "com/example/reportwire/reportwire/Arguments" "next" "I" (.int (0 : Int32)) ∧ Arv Z h na kn (.object "java/lang/String") (2 : Int32) [(.ref sa), (.ref sb)] .null ∧ h0.size ≤ na
set_option maxRecDepth 65536 in
set_option maxHeartbeats 40000000 in
theorem rm6_2 (l : Launch) (Z : State) (a0 : Array Value) (hw : ∀ d ∈ tables_1, d.before a0 Z = true) (ws : List Jvm.Cond) (ob : Addr) (aa : Addr) (ka : ClassId) (sa : Addr) (sb : Addr) (h0 : Heap) (n0 : Nat) (O0 : Old Z n0 h0) (E_o : Exa Z h0 ob "com/example/reportwire/reportwire/Arguments") (Fo : Fld Z h0 ob "com/example/reportwire/reportwire/Arguments" "optionsGiven" "Ljava/util/Set;" .null) (Fa : Fld Z h0 ob "com/example/reportwire/reportwire/Arguments" "args" "[Ljava/lang/String;" .null) (Fn : Fld Z h0 ob "com/example/reportwire/reportwire/Arguments" "next" "I" (.int (0 : Int32))) (E_a : Exa Z h0 aa "[Ljava/lang/String;") (Va : Arv Z h0 aa ka (.object "java/lang/String") (2 : Int32) [(.ref sa), (.ref sb)] .null) (g_o : n0 ≤ ob) (ne_oa : ob ≠ aa) :
    MetFree l (⟨"com/example/reportwire/reportwire/Arguments", "<init>", "([Ljava/lang/String;)V"⟩ : MethodName) (head1 (Jvm.Cond.code (⟨"com/example/reportwire/reportwire/Arguments", "<init>", "([Ljava/lang/String;)V"⟩ : MethodName) prog_7_method_1_code 2 none :: ws) ({ frames := 4, cells := 3, slots := 11, locals := 52 } : Room)) (fun ay U => ay = #[(.ref ob), (.ref aa)] ∧ Z.Warmed39 U.vm ∧ U.heap = h0) (fun _ _ _ _ _ => True) (fun _ U o U' => ∃ v L, o = .returned v ∧ Q6_2 Z ob aa ka sa sb h0 n0 v U'.heap L ∧ FrameEnd U o U' L ({ frames := 4, cells := 3, slots := 11, locals := 52 } : Room).cells ({ frames := 4, cells := 3, slots := 11, locals := 52 } : Room).slots) := by
  refine MetFree.of_bodySF (plainFor_of_name pn_com_example_reportwire_reportwire_Arguments) hisR ?_
  intro p e s m args below meth c s₁ Bd hml0 hP hK
  obtain ⟨rfl, hZ, hh⟩ := hP
  have hx := Bd.exec
  have hby := Bd.bytes
  have hlk : meth.locks = false := BodyLoose.notSynchronized Bd
  have hml : c.maxLocals = 2 := hml0
  have hown : s.vm.findClass "com/example/reportwire/reportwire/Arguments" = some m.cls := findClass_of_methodNamed Bd.named
  have hnm := (name_of_methodNamed Bd.named Bd.method).1
  have X0 : Stand p l e ({ frames := 4, cells := 3, slots := 11, locals := 52 } : Room) s m #[(.ref ob), (.ref aa)] below meth c s₁ [] 0 0 := Stand.of_body Bd
  have e0 : s₁.heap = h0 := by rw [← hh, Bd.state]; rfl
  have N0 := Fr.nil n0
  suffices hgo : Go p e below s 3 11 (Q6_2 Z ob aa ka sa sb h0 n0) (s₁.setTop (mkF m 0 #[.val (.ref ob), .val (.ref aa)] [])) by
    obtain ⟨t, o, h1, h2⟩ := hgo; exact ⟨t, o, castTop (ef_rm6_2 m ob aa) h1, h2⟩
  show Go p e below s _ _ _ (s₁.setTop (mkF m 0 #[.val (.ref ob), .val (.ref aa)] []))
  refine Go.st (fun _ k' => XS.aloadN X0.here hx rfl (hb hby d6_0) rfl rfl k') ?_
  show Go p e below s _ _ _ (s₁.setTop (mkF m 1 #[.val (.ref ob), .val (.ref aa)] [(.ref ob)]))
  obtain ⟨T1, X1, e1, st1⟩ := initO X0 hx hZ hown (wdx hw 34 rfl) (wdx hw 20 rfl) (wdx hw 21 rfl) e0 (g := (mkF m 1 #[.val (.ref ob), .val (.ref aa)] [(.ref ob)])) rfl (by rw [hml]; rfl) rfl (hb hby d6_1) (by decide) (W := 0) (by show 2 * 0 + _ ≤ _; exact Nat.le_of_eq rfl) (by decide)
  refine Go.st st1 ?_
  show Go p e below s _ _ _ (T1.setTop (mkF m 4 #[.val (.ref ob), .val (.ref aa)] []))
  refine Go.st (fun _ k' => XS.aloadN X1.here hx rfl (hb hby d6_4) rfl rfl k') ?_
  show Go p e below s _ _ _ (T1.setTop (mkF m 5 #[.val (.ref ob), .val (.ref aa)] [(.ref ob)]))
  obtain ⟨T2, h2, X2, e2, E2, A2, D2, -, st2⟩ := newO X1 hx hZ hown (wdx hw 35 rfl) (wdx hw 36 rfl) (wdx hw 37 rfl) e1 (g := (mkF m 5 #[.val (.ref ob), .val (.ref aa)] [(.ref ob)])) rfl (hb hby d6_5) (by decide) (by decide)
  obtain ⟨b2, g2⟩ : ∃ z, z = h0.size := ⟨_, rfl⟩
  rw [← g2] at A2 D2 st2
  refine Go.st st2 ?_
  have g_b2 : n0 ≤ b2 := Nat.le_trans (own_le O0) (Nat.le_of_eq g2.symm)
  have z_b2 : h0.size ≤ b2 := Nat.le_of_eq g2.symm
  have ne3 : ob ≠ b2 := Nat.ne_of_lt (Nat.lt_of_lt_of_le E_o.lt (Nat.le_of_eq g2.symm))
  have ne4 : aa ≠ b2 := Nat.ne_of_lt (Nat.lt_of_lt_of_le E_a.lt (Nat.le_of_eq g2.symm))
  have f5 : Exa Z h2 ob "com/example/reportwire/reportwire/Arguments" := E_o.ext E2
  have f6 : Fld Z h2 ob "com/example/reportwire/reportwire/Arguments" "optionsGiven" "Ljava/util/Set;" .null := Fo.ext E2
  have f7 : Fld Z h2 ob "com/example/reportwire/reportwire/Arguments" "args" "[Ljava/lang/String;" .null := Fa.ext E2
  have f8 : Fld Z h2 ob "com/example/reportwire/reportwire/Arguments" "next" "I" (.int (0 : Int32)) := Fn.ext E2
  have f9 : Exa Z h2 aa "[Ljava/lang/String;" := E_a.ext E2
  have f10 : Arv Z h2 aa ka (.object "java/lang/String") (2 : Int32) [(.ref sa), (.ref sb)] .null := Va.ext E2
  have O2 : Old Z n0 h2 := O0.ext E2
  have K2 : Keep h0 h2 [ob] := (Keep.refl h0 [ob]).ext E2
  have f11 : Fld Z h2 b2 "java/util/HashSet" "map" "Ljava/util/HashMap;" .null := D2 (Or.inl (wdx hw 72 rfl)) (ty := (.object "java/util/HashMap")) (by decide)
  show Go p e below s _ _ _ (T2.setTop (mkF m 8 #[.val (.ref ob), .val (.ref aa)] [(.ref b2), (.ref ob)]))
  refine Go.st (fun _ k' => XS.dup X2.here hx rfl (hb hby d6_8) rfl rfl k') ?_
  show Go p e below s _ _ _ (T2.setTop (mkF m 9 #[.val (.ref ob), .val (.ref aa)] [(.ref b2), (.ref b2), (.ref ob)]))
  obtain ⟨_, _, ⟨T12, L12, k12, n12⟩, -, X12, ⟨Lc12, hQ12, l12, y12, z12⟩, st12⟩ := X2.specialBack hx (y := (⟨"java/util/HashSet", "<init>", "()V"⟩ : MethodName)) rfl hown (mvT hZ (wdx hw 38 rfl)) (mvT hZ (wdx hw 39 rfl)) (mvT hZ (wdx hw 40 rfl)) (by decide) (backOf (W := 2) (rm7 l Z a0 hw [] b2 h2 n0 O2 A2 f11 g_b2) hZ (wdx hw 40 rfl) (wdx hw 37 rfl) (by decide) (by decide)) (g := (mkF m 9 #[.val (.ref ob), .val (.ref aa)] [(.ref b2), (.ref b2), (.ref ob)])) rfl (by rw [hml]; rfl) (Steps.refl _) (a := b2) (argsL := []) (rest := [(.ref b2), (.ref ob)]) (lenOf pd___V rfl) rfl (by show 2 * 0 + _ ≤ _; exact Nat.le_of_eq rfl) (hb hby d6_9) (fun _ _ => ⟨rfl, e2, (by exact Nat.le_of_ble_eq_true rfl), (by exact Nat.le_of_ble_eq_true rfl)⟩)
  dsimp only [Pt.U, Pt.locs, Pt.cells, Pt.slots] at X12 l12 y12 z12 st12 hQ12
  subst l12 y12 z12
  obtain ⟨rfl, Nq12, Kq12⟩ := hQ12
  have N12 := Fr.app N0 Nq12
  refine Go.tr st12 ?_
  have f13 : Exa Z T12.heap ob "com/example/reportwire/reportwire/Arguments" := f5.keep Kq12
  have f14 : Fld Z T12.heap ob "com/example/reportwire/reportwire/Arguments" "optionsGiven" "Ljava/util/Set;" .null := f6.keep Kq12 (ninS ne3 nin0)
  have f15 : Fld Z T12.heap ob "com/example/reportwire/reportwire/Arguments" "args" "[Ljava/lang/String;" .null := f7.keep Kq12 (ninS ne3 nin0)
  have f16 : Fld Z T12.heap ob "com/example/reportwire/reportwire/Arguments" "next" "I" (.int (0 : Int32)) := f8.keep Kq12 (ninS ne3 nin0)
  have f17 : Exa Z T12.heap aa "[Ljava/lang/String;" := f9.keep Kq12
  have f18 : Arv Z T12.heap aa ka (.object "java/lang/String") (2 : Int32) [(.ref sa), (.ref sb)] .null := f10.keep Kq12 (ninS ne4 nin0)
  have f19 : Exa Z T12.heap b2 "java/util/HashSet" := A2.keep Kq12
  have O12 : Old Z n0 T12.heap := O2.keep Kq12 (allS g_b2 all0)
  have K12 : Keep h0 T12.heap [ob] := K2.trans Kq12 (allS (Or.inr z_b2) all0)
  show Go p e below s _ _ _ (T12.setTop (mkF m 12 #[.val (.ref ob), .val (.ref aa)] [(.ref b2), (.ref ob)]))
  obtain ⟨T20, h20, X20, e20, W20, st20⟩ := putF X12 hx hZ hown (host := "") (Or.inl (wdx hw 73 rfl)) Via.refl rfl f14 f13 (Or.inr ⟨(wdx hw 74 rfl), rfl, hnm⟩) (wdx hw 29 rfl) (ty := (.object "java/util/Set")) (by decide) rfl rfl (g := (mkF m 12 #[.val (.ref ob), .val (.ref aa)] [(.ref b2), (.ref ob)])) rfl rfl (hb hby d6_12)
  refine Go.st st20 ?_
  have f21 : Exa Z h20 ob "com/example/reportwire/reportwire/Arguments" := f13.wr W20
  have f22 : Fld Z h20 ob "com/example/reportwire/reportwire/Arguments" "optionsGiven" "Ljava/util/Set;" (.ref b2) := f14.same W20
  have f23 : Fld Z h20 ob "com/example/reportwire/reportwire/Arguments" "args" "[Ljava/lang/String;" .null := f15.other W20 (Or.inr (slot_ne (Or.inr (wdx hw 85 rfl)) (Or.inr (wdx hw 74 rfl)) (by decide) (t := (.array (.object "java/lang/String"))) (t' := (.object "java/util/Set")) (by decide) (by decide)))
  have f24 : Fld Z h20 ob "com/example/reportwire/reportwire/Arguments" "next" "I" (.int (0 : Int32)) := f16.other W20 (Or.inr (slot_ne (Or.inl (wdx hw 92 rfl)) (Or.inr (wdx hw 74 rfl)) (by decide) (t := .int) (t' := (.object "java/util/Set")) (by decide) (by decide)))
  have f25 : Exa Z h20 aa "[Ljava/lang/String;" := f17.wr W20
  have f26 : Arv Z h20 aa ka (.object "java/lang/String") (2 : Int32) [(.ref sa), (.ref sb)] .null := f18.other W20 (Ne.symm ne_oa)
  have f27 : Exa Z h20 b2 "java/util/HashSet" := f19.wr W20
  have O20 : Old Z n0 h20 := O12.wr W20 g_o
  have N20 := Fr.snoc X20 N12 g_o
  have K20 : Keep h0 h20 [ob] := K12.wr W20 (Or.inl (by simp))
  show Go p e below s _ _ _ (T20.setTop (mkF m 15 #[.val (.ref ob), .val (.ref aa)] []))
  refine Go.st (fun _ k' => XS.aloadN X20.here hx rfl (hb hby d6_15) rfl rfl k') ?_
  show Go p e below s _ _ _ (T20.setTop (mkF m 16 #[.val (.ref ob), .val (.ref aa)] [(.ref ob)]))
  refine Go.st (fun _ k' => XS.aloadN X20.here hx rfl (hb hby d6_16) rfl rfl k') ?_
  show Go p e below s _ _ _ (T20.setTop (mkF m 17 #[.val (.ref ob), .val (.ref aa)] [(.ref aa), (.ref ob)]))
  obtain ⟨T28, h28, X28, e28, E28, A28, Ex28, st28⟩ := cloneH X20 hx hZ hown (wdx hw 75 rfl) (wdx hw 76 rfl) (wdx hw 80 rfl) (wdx hw 78 rfl) (wdx hw 79 rfl) (wdx hw 81 rfl) e20 (hs := []) f26 f25 (g := (mkF m 17 #[.val (.ref ob), .val (.ref aa)] [(.ref aa), (.ref ob)])) rfl (by rw [hml]; rfl) rfl (hb hby d6_17) (by decide) (W := 1) (cap := 2) (by show 2 * 0 + _ ≤ _; exact Nat.le_of_eq rfl) (by decide) (by decide) (by decide) (by decide)
  obtain ⟨b28, g28⟩ : ∃ z, z = h20.size := ⟨_, rfl⟩
  rw [← g28] at A28 Ex28 st28
  refine Go.st st28 ?_
  have g_b28 : n0 ≤ b28 := Nat.le_trans (own_le O20) (Nat.le_of_eq g28.symm)
  have z_b28 : h0.size ≤ b28 := Nat.le_trans K20.1 (Nat.le_of_eq g28.symm)
  have ne29 : ob ≠ b28 := Nat.ne_of_lt (Nat.lt_of_lt_of_le f21.lt (Nat.le_of_eq g28.symm))
  have ne30 : aa ≠ b28 := Nat.ne_of_lt (Nat.lt_of_lt_of_le f25.lt (Nat.le_of_eq g28.symm))
  have ne31 : b2 ≠ b28 := Nat.ne_of_lt (Nat.lt_of_lt_of_le f27.lt (Nat.le_of_eq g28.symm))
  have f32 : Exa Z h28 ob "com/example/reportwire/reportwire/Arguments" := f21.ext E28
  have f33 : Fld Z h28 ob "com/example/reportwire/reportwire/Arguments" "optionsGiven" "Ljava/util/Set;" (.ref b2) := f22.ext E28
  have f34 : Fld Z h28 ob "com/example/reportwire/reportwire/Arguments" "args" "[Ljava/lang/String;" .null := f23.ext E28
  have f35 : Fld Z h28 ob "com/example/reportwire/reportwire/Arguments" "next" "I" (.int (0 : Int32)) := f24.ext E28
  have f36 : Exa Z h28 aa "[Ljava/lang/String;" := f25.ext E28
  have f37 : Arv Z h28 aa ka (.object "java/lang/String") (2 : Int32) [(.ref sa), (.ref sb)] .null := f26.ext E28
  have f38 : Exa Z h28 b2 "java/util/HashSet" := f27.ext E28
  have O28 : Old Z n0 h28 := O20.ext E28
  have K28 : Keep h0 h28 [ob] := K20.ext E28
  have f39 : Arv Z h28 b28 ka (.object "java/lang/String") (2 : Int32) [(.ref sa), (.ref sb)] .null := A28
  show Go p e below s _ _ _ (T28.setTop (mkF m 20 #[.val (.ref ob), .val (.ref aa)] [(.ref b28), (.ref ob)]))
  obtain ⟨T40, X40, e40, st40⟩ := castY X28 hx hZ hown (wdx hw 82 rfl) e28 (Ins.self Ex28) (g := (mkF m 20 #[.val (.ref ob), .val (.ref aa)] [(.ref b28), (.ref ob)])) rfl rfl (hb hby d6_20)
  refine Go.st st40 ?_
  show Go p e below s _ _ _ (T40.setTop (mkF m 23 #[.val (.ref ob), .val (.ref aa)] [(.ref b28), (.ref ob)]))
  obtain ⟨T41, h41, X41, e41, W41, st41⟩ := putF X40 hx hZ hown (host := "") (Or.inl (wdx hw 84 rfl)) Via.refl e40 f34 f32 (Or.inr ⟨(wdx hw 85 rfl), rfl, hnm⟩) (wdx hw 29 rfl) (ty := (.array (.object "java/lang/String"))) (by decide) rfl rfl (g := (mkF m 23 #[.val (.ref ob), .val (.ref aa)] [(.ref b28), (.ref ob)])) rfl rfl (hb hby d6_23)
  refine Go.st st41 ?_
  have f42 : Exa Z h41 ob "com/example/reportwire/reportwire/Arguments" := f32.wr W41
  have f43 : Fld Z h41 ob "com/example/reportwire/reportwire/Arguments" "optionsGiven" "Ljava/util/Set;" (.ref b2) := f33.other W41 (Or.inr (slot_ne (Or.inr (wdx hw 74 rfl)) (Or.inr (wdx hw 85 rfl)) (by decide) (t := (.object "java/util/Set")) (t' := (.array (.object "java/lang/String"))) (by decide) (by decide)))
  have f44 : Fld Z h41 ob "com/example/reportwire/reportwire/Arguments" "args" "[Ljava/lang/String;" (.ref b28) := f34.same W41
  have f45 : Fld Z h41 ob "com/example/reportwire/reportwire/Arguments" "next" "I" (.int (0 : Int32)) := f35.other W41 (Or.inr (slot_ne (Or.inl (wdx hw 92 rfl)) (Or.inr (wdx hw 85 rfl)) (by decide) (t := .int) (t' := (.array (.object "java/lang/String"))) (by decide) (by decide)))
  have f46 : Exa Z h41 aa "[Ljava/lang/String;" := f36.wr W41
  have f47 : Arv Z h41 aa ka (.object "java/lang/String") (2 : Int32) [(.ref sa), (.ref sb)] .null := f37.other W41 (Ne.symm ne_oa)
  have f48 : Exa Z h41 b2 "java/util/HashSet" := f38.wr W41
  have f49 : Exa Z h41 b28 "[Ljava/lang/String;" := Ex28.wr W41
  have f50 : Arv Z h41 b28 ka (.object "java/lang/String") (2 : Int32) [(.ref sa), (.ref sb)] .null := f39.other W41 (Ne.symm ne29)
  have O41 : Old Z n0 h41 := O28.wr W41 g_o
  have N41 := Fr.snoc X41 N20 g_o
  have K41 : Keep h0 h41 [ob] := K28.wr W41 (Or.inl (by simp))
  show Go p e below s _ _ _ (T41.setTop (mkF m 26 #[.val (.ref ob), .val (.ref aa)] []))
  refine Go.retV X41 hx hlk Bd.returns (hb hby d6_26) (by decide) (by decide) e41 ?_
  exact ⟨b28, ka, rfl, N41, K41, f44, f45, f50, z_b28⟩
theorem ef_rm12_2_0 (m : MethodId) (ob : Addr) : entryFrame m #[(.ref ob)] 1 = mkF m 0 #[.val (.ref ob)] [] := by first | (simp [entryFrame, mkF, argsToLocals, Value.category]; done) | rfl
def Q12_2_0 (Z : State) (ob : Addr) (na : Addr) (kn : ClassId) (sa : Addr) (sb : Addr) (h0 : Heap) (n0 : Nat) (v : Option Value) (h : Heap) (L : List Loc) : Prop := v = some (.int (1 : Int32)) ∧ Fr n0 L ∧ h = h0
set_option maxRecDepth 65536 in
set_option maxHeartbeats 40000000 in
theorem rm12_2_0 (l : Launch) (Z : State) (a0 : Array Value) (hw : ∀ d ∈ tables_1, d.before a0 Z = true) (ws : List Jvm.Cond) (ob : Addr) (na : Addr) (kn : ClassId) (sa : Addr) (sb : Addr) (h0 : Heap) (n0 : Nat) (O0 : Old Z n0 h0) (Fa : Fld Z h0 ob "com/example/reportwire/reportwire/Arguments" "args" "[Ljava/lang/String;" (.ref na)) (Fn : Fld Z h0 ob "com/example/reportwire/reportwire/Arguments" "next" "I" (.int (0 : Int32))) (Va : Arv Z h0 na kn (.object "java/lang/String") (2 : Int32) [(.ref sa), (.ref sb)] .null) :
    MetFree l (⟨"com/example/reportwire/reportwire/Arguments", "hasNext", "()Z"⟩ : MethodName) (head1 (Jvm.Cond.code (⟨"com/example/reportwire/reportwire/Arguments", "hasNext", "()Z"⟩ : MethodName) prog_7_method_7_code 1 (some .boolean) :: ws) ({ frames := 0, cells := 0, slots := 0, locals := 0 } : Room)) (fun ay U => ay = #[(.ref ob)] ∧ Z.Warmed39 U.vm ∧ U.heap = h0) (fun _ _ _ _ _ => True) (fun _ U o U' => ∃ v L, o = .returned v ∧ Q12_2_0 Z ob na kn sa sb h0 n0 v U'.heap L ∧ FrameEnd U o U' L ({ frames := 0, cells := 0, slots := 0, locals := 0 } : Room).cells ({ frames := 0, cells := 0, slots := 0, locals := 0 } : Room).slots) := by
  refine MetFree.of_bodySF (plainFor_of_name pn_com_example_reportwire_reportwire_Arguments) hisR ?_
  intro p e s m args below meth c s₁ Bd hml0 hP hK
  obtain ⟨rfl, hZ, hh⟩ := hP
  have hx := Bd.exec
  have hby := Bd.bytes
  have hlk : meth.locks = false := BodyLoose.notSynchronized Bd
  have hml : c.maxLocals = 1 := hml0
  have hown : s.vm.findClass "com/example/reportwire/reportwire/Arguments" = some m.cls := findClass_of_methodNamed Bd.named
  have hnm := (name_of_methodNamed Bd.named Bd.method).1
  have X0 : Stand p l e ({ frames := 0, cells := 0, slots := 0, locals := 0 } : Room) s m #[(.ref ob)] below meth c s₁ [] 0 0 := Stand.of_body Bd
  have e0 : s₁.heap = h0 := by rw [← hh, Bd.state]; rfl
  have N0 := Fr.nil n0
  suffices hgo : Go p e below s 0 0 (Q12_2_0 Z ob na kn sa sb h0 n0) (s₁.setTop (mkF m 0 #[.val (.ref ob)] [])) by
    obtain ⟨t, o, h1, h2⟩ := hgo; exact ⟨t, o, castTop (ef_rm12_2_0 m ob) h1, h2⟩
  show Go p e below s _ _ _ (s₁.setTop (mkF m 0 #[.val (.ref ob)] []))
  refine Go.st (fun _ k' => XS.aloadN X0.here hx rfl (hb hby d12_0) rfl rfl k') ?_
  show Go p e below s _ _ _ (s₁.setTop (mkF m 1 #[.val (.ref ob)] [(.ref ob)]))
  obtain ⟨T1, X1, e1, st1⟩ := getF X0 hx hZ hown (host := "") (Or.inl (wdx hw 91 rfl)) Via.refl e0 Fn (g := (mkF m 1 #[.val (.ref ob)] [(.ref ob)])) rfl rfl (hb hby d12_1)
  refine Go.st st1 ?_
  show Go p e below s _ _ _ (T1.setTop (mkF m 4 #[.val (.ref ob)] [(.int (0 : Int32))]))
  refine Go.st (fun _ k' => XS.aloadN X1.here hx rfl (hb hby d12_4) rfl rfl k') ?_
  show Go p e below s _ _ _ (T1.setTop (mkF m 5 #[.val (.ref ob)] [(.ref ob), (.int (0 : Int32))]))
  obtain ⟨T2, X2, e2, st2⟩ := getF X1 hx hZ hown (host := "") (Or.inl (wdx hw 84 rfl)) Via.refl e1 Fa (g := (mkF m 5 #[.val (.ref ob)] [(.ref ob), (.int (0 : Int32))])) rfl rfl (hb hby d12_5)
  refine Go.st st2 ?_
  show Go p e below s _ _ _ (T2.setTop (mkF m 8 #[.val (.ref ob)] [(.ref na), (.int (0 : Int32))]))
  obtain ⟨cl3, Ar3, qc3, Sz3, Nn3, Ha3, Gf3⟩ := id Va
  refine Go.st (fun _ k' => X2.arraylength hx (by rw [e2]; exact Ar3.1) (State.isArrayOf_alike hZ.alike Ar3.2.1) (g := (mkF m 8 #[.val (.ref ob)] [(.ref na), (.int (0 : Int32))])) rfl rfl (hb hby d12_8) _ k') ?_
  rw [len_of Sz3 Nn3]
  show Go p e below s _ _ _ (T2.setTop (mkF m 9 #[.val (.ref ob)] [(.int (2 : Int32)), (.int (0 : Int32))]))
  refine Go.st (fun _ k' => XS.icmpNo X2.here hx rfl (hb hby d12_9) rfl (XT.ii_ge_f (by decide)) k') ?_
  show Go p e below s _ _ _ (T2.setTop (mkF m 12 #[.val (.ref ob)] []))
  refine Go.st (fun _ k' => XS.iconst X2.here hx rfl (hb hby d12_12) k') ?_
  show Go p e below s _ _ _ (T2.setTop (mkF m 13 #[.val (.ref ob)] [(.int (1 : Int32))]))
  refine Go.st (fun _ k' => XS.goto X2.here hx rfl (pc0 := 13) (pc' := 17) rfl (hb hby d12_13) (by decide) (by decide) k') ?_
  show Go p e below s _ _ _ (T2.setTop (mkF m 17 #[.val (.ref ob)] [(.int (1 : Int32))]))
  refine Go.retB X2 hx hlk (t := .boolean) Bd.returns (by simp) (hb hby d12_17) (by decide) (by decide) e2 ?_
  exact ⟨rfl, N0, rfl⟩
theorem ef_rm14_2_0 (m : MethodId) (ob : Addr) : entryFrame m #[(.ref ob)] 1 = mkF m 0 #[.val (.ref ob)] [] := by first | (simp [entryFrame, mkF, argsToLocals, Value.category]; done) | rfl
def Q14_2_0 (Z : State) (ob : Addr) (na : Addr) (kn : ClassId) (sa : Addr) (sb : Addr) (h0 : Heap) (n0 : Nat) (v : Option Value) (h : Heap) (L : List Loc) : Prop := v = some (.ref sa) ∧ Fr n0 L ∧ h = h0
set_option maxRecDepth 65536 in
set_option maxHeartbeats 40000000 in
theorem rm14_2_0 (l : Launch) (Z : State) (a0 : Array Value) (hw : ∀ d ∈ tables_1, d.before a0 Z = true) (ws : List Jvm.Cond) (ob : Addr) (na : Addr) (kn : ClassId) (sa : Addr) (sb : Addr) (h0 : Heap) (n0 : Nat) (O0 : Old Z n0 h0) (E_o : Exa Z h0 ob "com/example/reportwire/reportwire/Arguments") (Fa : Fld Z h0 ob "com/example/reportwire/reportwire/Arguments" "args" "[Ljava/lang/String;" (.ref na)) (Fn : Fld Z h0 ob "com/example/reportwire/reportwire/Arguments" "next" "I" (.int (0 : Int32))) (Va : Arv Z h0 na kn (.object "java/lang/String") (2 : Int32) [(.ref sa), (.ref sb)] .null) :
    MetFree l (⟨"com/example/reportwire/reportwire/Arguments", "peek", "()Ljava/lang/String;"⟩ : MethodName) (head1 (Jvm.Cond.code (⟨"com/example/reportwire/reportwire/Arguments", "peek", "()Ljava/lang/String;"⟩ : MethodName) prog_7_method_9_code 1 (some (.object "java/lang/String")) :: ws) ({ frames := 1, cells := 0, slots := 0, locals := 12 } : Room)) (fun ay U => ay = #[(.ref ob)] ∧ Z.Warmed39 U.vm ∧ U.heap = h0) (fun _ _ _ _ _ => True) (fun _ U o U' => ∃ v L, o = .returned v ∧ Q14_2_0 Z ob na kn sa sb h0 n0 v U'.heap L ∧ FrameEnd U o U' L ({ frames := 1, cells := 0, slots := 0, locals := 12 } : Room).cells ({ frames := 1, cells := 0, slots := 0, locals := 12 } : Room).slots) := by
  refine MetFree.of_bodySF (plainFor_of_name pn_com_example_reportwire_reportwire_Arguments) hisR ?_
  intro p e s m args below meth c s₁ Bd hml0 hP hK
  obtain ⟨rfl, hZ, hh⟩ := hP
  have hx := Bd.exec
  have hby := Bd.bytes
  have hlk : meth.locks = false := BodyLoose.notSynchronized Bd
  have hml : c.maxLocals = 1 := hml0
  have hown : s.vm.findClass "com/example/reportwire/reportwire/Arguments" = some m.cls := findClass_of_methodNamed Bd.named
  have hnm := (name_of_methodNamed Bd.named Bd.method).1
  have X0 : Stand p l e ({ frames := 1, cells := 0, slots := 0, locals := 12 } : Room) s m #[(.ref ob)] below meth c s₁ [] 0 0 := Stand.of_body Bd
  have e0 : s₁.heap = h0 := by rw [← hh, Bd.state]; rfl
  have N0 := Fr.nil n0
  suffices hgo : Go p e below s 0 0 (Q14_2_0 Z ob na kn sa sb h0 n0) (s₁.setTop (mkF m 0 #[.val (.ref ob)] [])) by
    obtain ⟨t, o, h1, h2⟩ := hgo; exact ⟨t, o, castTop (ef_rm14_2_0 m ob) h1, h2⟩
  show Go p e below s _ _ _ (s₁.setTop (mkF m 0 #[.val (.ref ob)] []))
  refine Go.st (fun _ k' => XS.aloadN X0.here hx rfl (hb hby d14_0) rfl rfl k') ?_
  show Go p e below s _ _ _ (s₁.setTop (mkF m 1 #[.val (.ref ob)] [(.ref ob)]))
  obtain ⟨cq1, kq1, q1a, q1b, q1c⟩ := isOf hZ e0 E_o
  obtain ⟨_, _, ⟨T1, L1, k1, n1⟩, -, X1, ⟨Lc1, hQ1, l1, y1, z1⟩, st1⟩ := X0.virtualBack hx (y := (⟨"com/example/reportwire/reportwire/Arguments", "hasNext", "()Z"⟩ : MethodName)) (z := (⟨"com/example/reportwire/reportwire/Arguments", "hasNext", "()Z"⟩ : MethodName)) hown (mvT hZ (wdx hw 103 rfl)) (mvT hZ (wdx hw 87 rfl)) (notFace_of_selects (args := #[]) (mvT hZ (wdx hw 89 rfl))) (mvT hZ (wdx hw 89 rfl)) (mvT hZ (wdx hw 88 rfl)) (by decide) (backOf (W := 0) (rm12_2_0 l Z a0 hw [] ob na kn sa sb h0 n0 O0 Fa Fn Va) hZ (wdx hw 90 rfl) (wdx hw 30 rfl) (by decide) (by decide)) q1a q1c (g := (mkF m 1 #[.val (.ref ob)] [(.ref ob)])) rfl (by rw [hml]; rfl) (Steps.refl _) (argsL := []) (rest := []) (lenOf pd___Z rfl) rfl (by show 2 * 0 + _ ≤ _; exact Nat.le_of_eq rfl) (hb hby d14_1) (fun _ _ => ⟨rfl, e0, (by exact Nat.le_of_ble_eq_true rfl), (by exact Nat.le_of_ble_eq_true rfl)⟩)
  dsimp only [Pt.U, Pt.locs, Pt.cells, Pt.slots] at X1 l1 y1 z1 st1 hQ1
  subst l1 y1 z1
  obtain ⟨rfl, Nq1, eq1⟩ := hQ1
  have N1 := Fr.app N0 Nq1
  refine Go.tr st1 ?_
  show Go p e below s _ _ _ (T1.setTop (mkF m 4 #[.val (.ref ob)] [(.int (1 : Int32))]))
  refine Go.st (fun _ k' => XS.ifYes X1.here hx rfl (pc0 := 4) (pc' := 17) rfl (hb hby d14_4) rfl (XT.i0_ne_t (by decide)) (by decide) (by decide) k') ?_
  show Go p e below s _ _ _ (T1.setTop (mkF m 17 #[.val (.ref ob)] []))
  refine Go.st (fun _ k' => XS.aloadN X1.here hx rfl (hb hby d14_17) rfl rfl k') ?_
  show Go p e below s _ _ _ (T1.setTop (mkF m 18 #[.val (.ref ob)] [(.ref ob)]))
  obtain ⟨T2, X2, e2, st2⟩ := getF X1 hx hZ hown (host := "") (Or.inl (wdx hw 84 rfl)) Via.refl eq1 Fa (g := (mkF m 18 #[.val (.ref ob)] [(.ref ob)])) rfl rfl (hb hby d14_18)
  refine Go.st st2 ?_
  show Go p e below s _ _ _ (T2.setTop (mkF m 21 #[.val (.ref ob)] [(.ref na)]))
  refine Go.st (fun _ k' => XS.aloadN X2.here hx rfl (hb hby d14_21) rfl rfl k') ?_
  show Go p e below s _ _ _ (T2.setTop (mkF m 22 #[.val (.ref ob)] [(.ref ob), (.ref na)]))
  obtain ⟨T3, X3, e3, st3⟩ := getF X2 hx hZ hown (host := "") (Or.inl (wdx hw 91 rfl)) Via.refl e2 Fn (g := (mkF m 22 #[.val (.ref ob)] [(.ref ob), (.ref na)])) rfl rfl (hb hby d14_22)
  refine Go.st st3 ?_
  show Go p e below s _ _ _ (T3.setTop (mkF m 25 #[.val (.ref ob)] [(.int (0 : Int32)), (.ref na)]))
  obtain ⟨cl4, Ar4, qc4, Sz4, Nn4, Ha4, Gf4⟩ := id Va
  refine Go.st (fun _ k' => X3.aaload hx (j := (0 : Int32)) (v := (.ref sa)) (by rw [e3]; exact Ar4.1) (State.isArrayOf_alike hZ.alike Ar4.2.1) rfl Ar4.2.2 (inb_of Sz4 ⟨by decide, by decide⟩) (Ha4.at (inb_of Sz4 ⟨by decide, by decide⟩) rfl) (g := (mkF m 25 #[.val (.ref ob)] [(.int (0 : Int32)), (.ref na)])) rfl rfl (hb hby d14_25) _ k') ?_
  show Go p e below s _ _ _ (T3.setTop (mkF m 26 #[.val (.ref ob)] [(.ref sa)]))
  refine Go.ret X3 hx hlk (t := (.object "java/lang/String")) Bd.returns rfl (Or.inr (Or.inr (Or.inr (Or.inr ⟨rfl, rfl, rfl⟩)))) (hb hby d14_26) (by decide) (by decide) e3 ?_
  exact ⟨rfl, N1, rfl⟩
theorem ef_rm13_2_0 (m : MethodId) (ob : Addr) : entryFrame m #[(.ref ob)] 2 = mkF m 0 #[.val (.ref ob), .unset] [] := by first | (simp [entryFrame, mkF, argsToLocals, Value.category]; done) | rfl
def Q13_2_0 (Z : State) (ob : Addr) (na : Addr) (kn : ClassId) (sa : Addr) (sb : Addr) (h0 : Heap) (n0 : Nat) (v : Option Value) (h : Heap) (L : List Loc) : Prop := v = some (.ref sa) ∧ Fr n0 L ∧ Keep h0 h [ob] ∧ Fld Z h ob "com/example/reportwire/reportwire/Arguments" "args" "[Ljava/lang/String;" (.ref na) ∧ Fld Z h ob "com/example/reportwire/reportwire/Arguments" "next" "I" (.int (1 : Int32))
set_option maxRecDepth 65536 in
set_option maxHeartbeats 40000000 in
theorem rm13_2_0 (l : Launch) (Z : State) (a0 : Array Value) (hw : ∀ d ∈ tables_1, d.before a0 Z = true) (ws : List Jvm.Cond) (ob : Addr) (na : Addr) (kn : ClassId) (sa : Addr) (sb : Addr) (h0 : Heap) (n0 : Nat) (O0 : Old Z n0 h0) (E_o : Exa Z h0 ob "com/example/reportwire/reportwire/Arguments") (Fa : Fld Z h0 ob "com/example/reportwire/reportwire/Arguments" "args" "[Ljava/lang/String;" (.ref na)) (Fn : Fld Z h0 ob "com/example/reportwire/reportwire/Arguments" "next" "I" (.int (0 : Int32))) (Va : Arv Z h0 na kn (.object "java/lang/String") (2 : Int32) [(.ref sa), (.ref sb)] .null) (g_o : n0 ≤ ob) (ne_on : ob ≠ na) :
    MetFree l (⟨"com/example/reportwire/reportwire/Arguments", "next", "()Ljava/lang/String;"⟩ : MethodName) (head1 (Jvm.Cond.code (⟨"com/example/reportwire/reportwire/Arguments", "next", "()Ljava/lang/String;"⟩ : MethodName) prog_7_method_10_code 2 (some (.object "java/lang/String")) :: ws) ({ frames := 2, cells := 0, slots := 0, locals := 24 } : Room)) (fun ay U => ay = #[(.ref ob)] ∧ Z.Warmed39 U.vm ∧ U.heap = h0) (fun _ _ _ _ _ => True) (fun _ U o U' => ∃ v L, o = .returned v ∧ Q13_2_0 Z ob na kn sa sb h0 n0 v U'.heap L ∧ FrameEnd U o U' L ({ frames := 2, cells := 0, slots := 0, locals := 24 } : Room).cells ({ frames := 2, cells := 0, slots := 0, locals := 24 } : Room).slots) := by
  refine MetFree.of_bodySF (plainFor_of_name pn_com_example_reportwire_reportwire_Arguments) hisR ?_
  intro p e s m args below meth c s₁ Bd hml0 hP hK
  obtain ⟨rfl, hZ, hh⟩ := hP
  have hx := Bd.exec
  have hby := Bd.bytes
  have hlk : meth.locks = false := BodyLoose.notSynchronized Bd
  have hml : c.maxLocals = 2 := hml0
  have hown : s.vm.findClass "com/example/reportwire/reportwire/Arguments" = some m.cls := findClass_of_methodNamed Bd.named
  have hnm := (name_of_methodNamed Bd.named Bd.method).1
  have X0 : Stand p l e ({ frames := 2, cells := 0, slots := 0, locals := 24 } : Room) s m #[(.ref ob)] below meth c s₁ [] 0 0 := Stand.of_body Bd
  have e0 : s₁.heap = h0 := by rw [← hh, Bd.state]; rfl
  have N0 := Fr.nil n0
  suffices hgo : Go p e below s 0 0 (Q13_2_0 Z ob na kn sa sb h0 n0) (s₁.setTop (mkF m 0 #[.val (.ref ob), .unset] [])) by
    obtain ⟨t, o, h1, h2⟩ := hgo; exact ⟨t, o, castTop (ef_rm13_2_0 m ob) h1, h2⟩
  show Go p e below s _ _ _ (s₁.setTop (mkF m 0 #[.val (.ref ob), .unset] []))
  refine Go.st (fun _ k' => XS.aloadN X0.here hx rfl (hb hby d13_0) rfl rfl k') ?_
  show Go p e below s _ _ _ (s₁.setTop (mkF m 1 #[.val (.ref ob), .unset] [(.ref ob)]))
  obtain ⟨cq1, kq1, q1a, q1b, q1c⟩ := isOf hZ e0 E_o
  obtain ⟨_, _, ⟨T1, L1, k1, n1⟩, -, X1, ⟨Lc1, hQ1, l1, y1, z1⟩, st1⟩ := X0.virtualBack hx (y := (⟨"com/example/reportwire/reportwire/Arguments", "peek", "()Ljava/lang/String;"⟩ : MethodName)) (z := (⟨"com/example/reportwire/reportwire/Arguments", "peek", "()Ljava/lang/String;"⟩ : MethodName)) hown (mvT hZ (wdx hw 98 rfl)) (mvT hZ (wdx hw 99 rfl)) (notFace_of_selects (args := #[]) (mvT hZ (wdx hw 101 rfl))) (mvT hZ (wdx hw 101 rfl)) (mvT hZ (wdx hw 100 rfl)) (by decide) (backOf (W := 0) (rm14_2_0 l Z a0 hw [] ob na kn sa sb h0 n0 O0 E_o Fa Fn Va) hZ (wdx hw 102 rfl) (wdx hw 30 rfl) (by decide) (by decide)) q1a q1c (g := (mkF m 1 #[.val (.ref ob), .unset] [(.ref ob)])) rfl (by rw [hml]; rfl) (Steps.refl _) (argsL := []) (rest := []) (lenOf pd___Ljava_lang_String_ rfl) rfl (by show 2 * 0 + _ ≤ _; exact Nat.le_of_eq rfl) (hb hby d13_1) (fun _ _ => ⟨rfl, e0, (by exact Nat.le_of_ble_eq_true rfl), (by exact Nat.le_of_ble_eq_true rfl)⟩)
  dsimp only [Pt.U, Pt.locs, Pt.cells, Pt.slots] at X1 l1 y1 z1 st1 hQ1
  subst l1 y1 z1
  obtain ⟨rfl, Nq1, eq1⟩ := hQ1
  have N1 := Fr.app N0 Nq1
  refine Go.tr st1 ?_
  show Go p e below s _ _ _ (T1.setTop (mkF m 4 #[.val (.ref ob), .unset] [(.ref sa)]))
  refine Go.st (fun _ k' => XS.astoreN X1.here hx rfl (hb hby d13_4) rfl rfl (l' := #[.val (.ref ob), .val (.ref sa)]) rfl k') ?_
  show Go p e below s _ _ _ (T1.setTop (mkF m 5 #[.val (.ref ob), .val (.ref sa)] []))
  refine Go.st (fun _ k' => XS.aloadN X1.here hx rfl (hb hby d13_5) rfl rfl k') ?_
  show Go p e below s _ _ _ (T1.setTop (mkF m 6 #[.val (.ref ob), .val (.ref sa)] [(.ref ob)]))
  refine Go.st (fun _ k' => XS.dup X1.here hx rfl (hb hby d13_6) rfl rfl k') ?_
  show Go p e below s _ _ _ (T1.setTop (mkF m 7 #[.val (.ref ob), .val (.ref sa)] [(.ref ob), (.ref ob)]))
  obtain ⟨T2, X2, e2, st2⟩ := getF X1 hx hZ hown (host := "") (Or.inl (wdx hw 91 rfl)) Via.refl eq1 Fn (g := (mkF m 7 #[.val (.ref ob), .val (.ref sa)] [(.ref ob), (.ref ob)])) rfl rfl (hb hby d13_7)
  refine Go.st st2 ?_
  show Go p e below s _ _ _ (T2.setTop (mkF m 10 #[.val (.ref ob), .val (.ref sa)] [(.int (0 : Int32)), (.ref ob)]))
  refine Go.st (fun _ k' => XS.iconst X2.here hx rfl (hb hby d13_10) k') ?_
  show Go p e below s _ _ _ (T2.setTop (mkF m 11 #[.val (.ref ob), .val (.ref sa)] [(.int (1 : Int32)), (.int (0 : Int32)), (.ref ob)]))
  refine Go.st (fun _ k' => XS.iadd X2.here hx rfl (hb hby d13_11) rfl k') ?_
  show Go p e below s _ _ _ (T2.setTop (mkF m 12 #[.val (.ref ob), .val (.ref sa)] [(.int (1 : Int32)), (.ref ob)]))
  obtain ⟨T3, h3, X3, e3, W3, st3⟩ := putF X2 hx hZ hown (host := "") (Or.inl (wdx hw 91 rfl)) Via.refl e2 Fn E_o (Or.inl (wdx hw 92 rfl)) (wdx hw 29 rfl) (ty := .int) (by decide) rfl rfl (g := (mkF m 12 #[.val (.ref ob), .val (.ref sa)] [(.int (1 : Int32)), (.ref ob)])) rfl rfl (hb hby d13_12)
  refine Go.st st3 ?_
  have f4 : Exa Z h3 ob "com/example/reportwire/reportwire/Arguments" := E_o.wr W3
  have f5 : Fld Z h3 ob "com/example/reportwire/reportwire/Arguments" "args" "[Ljava/lang/String;" (.ref na) := Fa.other W3 (Or.inr (slot_ne (Or.inr (wdx hw 85 rfl)) (Or.inl (wdx hw 92 rfl)) (by decide) (t := (.array (.object "java/lang/String"))) (t' := .int) (by decide) (by decide)))
  have f6 : Fld Z h3 ob "com/example/reportwire/reportwire/Arguments" "next" "I" (.int (1 : Int32)) := Fn.same W3
  have f7 : Arv Z h3 na kn (.object "java/lang/String") (2 : Int32) [(.ref sa), (.ref sb)] .null := Va.other W3 (Ne.symm ne_on)
  have O3 : Old Z n0 h3 := O0.wr W3 g_o
  have N3 := Fr.snoc X3 N1 g_o
  have K3 : Keep h0 h3 [ob] := (Keep.refl h0 [ob]).wr W3 (Or.inl (by simp))
  show Go p e below s _ _ _ (T3.setTop (mkF m 15 #[.val (.ref ob), .val (.ref sa)] []))
  refine Go.st (fun _ k' => XS.aloadN X3.here hx rfl (hb hby d13_15) rfl rfl k') ?_
  show Go p e below s _ _ _ (T3.setTop (mkF m 16 #[.val (.ref ob), .val (.ref sa)] [(.ref sa)]))
  refine Go.ret X3 hx hlk (t := (.object "java/lang/String")) Bd.returns rfl (Or.inr (Or.inr (Or.inr (Or.inr ⟨rfl, rfl, rfl⟩)))) (hb hby d13_16) (by decide) (by decide) e3 ?_
  exact ⟨rfl, N3, K3, f5, f6⟩
theorem ef_rm12_2_1 (m : MethodId) (ob : Addr) : entryFrame m #[(.ref ob)] 1 = mkF m 0 #[.val (.ref ob)] [] := by first | (simp [entryFrame, mkF, argsToLocals, Value.category]; done) | rfl
def Q12_2_1 (Z : State) (ob : Addr) (na : Addr) (kn : ClassId) (sa : Addr) (sb : Addr) (h0 : Heap) (n0 : Nat) (v : Option Value) (h : Heap) (L : List Loc) : Prop := v = some (.int (1 : Int32)) ∧ Fr n0 L ∧ h = h0
set_option maxRecDepth 65536 in
set_option maxHeartbeats 40000000 in
theorem rm12_2_1 (l : Launch) (Z : State) (a0 : Array Value) (hw : ∀ d ∈ tables_1, d.before a0 Z = true) (ws : List Jvm.Cond) (ob : Addr) (na : Addr) (kn : ClassId) (sa : Addr) (sb : Addr) (h0 : Heap) (n0 : Nat) (O0 : Old Z n0 h0) (Fa : Fld Z h0 ob "com/example/reportwire/reportwire/Arguments" "args" "[Ljava/lang/String;" (.ref na)) (Fn : Fld Z h0 ob "com/example/reportwire/reportwire/Arguments" "next" "I" (.int (1 : Int32))) (Va : Arv Z h0 na kn (.object "java/lang/String") (2 : Int32) [(.ref sa), (.ref sb)] .null) :
    MetFree l (⟨"com/example/reportwire/reportwire/Arguments", "hasNext", "()Z"⟩ : MethodName) (head1 (Jvm.Cond.code (⟨"com/example/reportwire/reportwire/Arguments", "hasNext", "()Z"⟩ : MethodName) prog_7_method_7_code 1 (some .boolean) :: ws) ({ frames := 0, cells := 0, slots := 0, locals := 0 } : Room)) (fun ay U => ay = #[(.ref ob)] ∧ Z.Warmed39 U.vm ∧ U.heap = h0) (fun _ _ _ _ _ => True) (fun _ U o U' => ∃ v L, o = .returned v ∧ Q12_2_1 Z ob na kn sa sb h0 n0 v U'.heap L ∧ FrameEnd U o U' L ({ frames := 0, cells := 0, slots := 0, locals := 0 } : Room).cells ({ frames := 0, cells := 0, slots := 0, locals := 0 } : Room).slots) := by
  refine MetFree.of_bodySF (plainFor_of_name pn_com_example_reportwire_reportwire_Arguments) hisR ?_
  intro p e s m args below meth c s₁ Bd hml0 hP hK
  obtain ⟨rfl, hZ, hh⟩ := hP
  have hx := Bd.exec
  have hby := Bd.bytes
  have hlk : meth.locks = false := BodyLoose.notSynchronized Bd
  have hml : c.maxLocals = 1 := hml0
  have hown : s.vm.findClass "com/example/reportwire/reportwire/Arguments" = some m.cls := findClass_of_methodNamed Bd.named
  have hnm := (name_of_methodNamed Bd.named Bd.method).1
  have X0 : Stand p l e ({ frames := 0, cells := 0, slots := 0, locals := 0 } : Room) s m #[(.ref ob)] below meth c s₁ [] 0 0 := Stand.of_body Bd
  have e0 : s₁.heap = h0 := by rw [← hh, Bd.state]; rfl
  have N0 := Fr.nil n0
  suffices hgo : Go p e below s 0 0 (Q12_2_1 Z ob na kn sa sb h0 n0) (s₁.setTop (mkF m 0 #[.val (.ref ob)] [])) by
    obtain ⟨t, o, h1, h2⟩ := hgo; exact ⟨t, o, castTop (ef_rm12_2_1 m ob) h1, h2⟩
  show Go p e below s _ _ _ (s₁.setTop (mkF m 0 #[.val (.ref ob)] []))
  refine Go.st (fun _ k' => XS.aloadN X0.here hx rfl (hb hby d12_0) rfl rfl k') ?_
  show Go p e below s _ _ _ (s₁.setTop (mkF m 1 #[.val (.ref ob)] [(.ref ob)]))
  obtain ⟨T1, X1, e1, st1⟩ := getF X0 hx hZ hown (host := "") (Or.inl (wdx hw 91 rfl)) Via.refl e0 Fn (g := (mkF m 1 #[.val (.ref ob)] [(.ref ob)])) rfl rfl (hb hby d12_1)
  refine Go.st st1 ?_
  show Go p e below s _ _ _ (T1.setTop (mkF m 4 #[.val (.ref ob)] [(.int (1 : Int32))]))
  refine Go.st (fun _ k' => XS.aloadN X1.here hx rfl (hb hby d12_4) rfl rfl k') ?_
  show Go p e below s _ _ _ (T1.setTop (mkF m 5 #[.val (.ref ob)] [(.ref ob), (.int (1 : Int32))]))
  obtain ⟨T2, X2, e2, st2⟩ := getF X1 hx hZ hown (host := "") (Or.inl (wdx hw 84 rfl)) Via.refl e1 Fa (g := (mkF m 5 #[.val (.ref ob)] [(.ref ob), (.int (1 : Int32))])) rfl rfl (hb hby d12_5)
  refine Go.st st2 ?_
  show Go p e below s _ _ _ (T2.setTop (mkF m 8 #[.val (.ref ob)] [(.ref na), (.int (1 : Int32))]))
  obtain ⟨cl3, Ar3, qc3, Sz3, Nn3, Ha3, Gf3⟩ := id Va
  refine Go.st (fun _ k' => X2.arraylength hx (by rw [e2]; exact Ar3.1) (State.isArrayOf_alike hZ.alike Ar3.2.1) (g := (mkF m 8 #[.val (.ref ob)] [(.ref na), (.int (1 : Int32))])) rfl rfl (hb hby d12_8) _ k') ?_
  rw [len_of Sz3 Nn3]
  show Go p e below s _ _ _ (T2.setTop (mkF m 9 #[.val (.ref ob)] [(.int (2 : Int32)), (.int (1 : Int32))]))
  refine Go.st (fun _ k' => XS.icmpNo X2.here hx rfl (hb hby d12_9) rfl (XT.ii_ge_f (by decide)) k') ?_
  show Go p e below s _ _ _ (T2.setTop (mkF m 12 #[.val (.ref ob)] []))
  refine Go.st (fun _ k' => XS.iconst X2.here hx rfl (hb hby d12_12) k') ?_
  show Go p e below s _ _ _ (T2.setTop (mkF m 13 #[.val (.ref ob)] [(.int (1 : Int32))]))
  refine Go.st (fun _ k' => XS.goto X2.here hx rfl (pc0 := 13) (pc' := 17) rfl (hb hby d12_13) (by decide) (by decide) k') ?_
  show Go p e below s _ _ _ (T2.setTop (mkF m 17 #[.val (.ref ob)] [(.int (1 : Int32))]))
  refine Go.retB X2 hx hlk (t := .boolean) Bd.returns (by simp) (hb hby d12_17) (by decide) (by decide) e2 ?_
  exact ⟨rfl, N0, rfl⟩
theorem ef_rm14_2_1 (m : MethodId) (ob : Addr) : entryFrame m #[(.ref ob)] 1 = mkF m 0 #[.val (.ref ob)] [] := by first | (simp [entryFrame, mkF, argsToLocals, Value.category]; done) | rfl
def Q14_2_1 (Z : State) (ob : Addr) (na : Addr) (kn : ClassId) (sa : Addr) (sb : Addr) (h0 : Heap) (n0 : Nat) (v : Option Value) (h : Heap) (L : List Loc) : Prop := v = some (.ref sb) ∧ Fr n0 L ∧ h = h0
set_option maxRecDepth 65536 in
set_option maxHeartbeats 40000000 in
theorem rm14_2_1 (l : Launch) (Z : State) (a0 : Array Value) (hw : ∀ d ∈ tables_1, d.before a0 Z = true) (ws : List Jvm.Cond) (ob : Addr) (na : Addr) (kn : ClassId) (sa : Addr) (sb : Addr) (h0 : Heap) (n0 : Nat) (O0 : Old Z n0 h0) (E_o : Exa Z h0 ob "com/example/reportwire/reportwire/Arguments") (Fa : Fld Z h0 ob "com/example/reportwire/reportwire/Arguments" "args" "[Ljava/lang/String;" (.ref na)) (Fn : Fld Z h0 ob "com/example/reportwire/reportwire/Arguments" "next" "I" (.int (1 : Int32))) (Va : Arv Z h0 na kn (.object "java/lang/String") (2 : Int32) [(.ref sa), (.ref sb)] .null) :
    MetFree l (⟨"com/example/reportwire/reportwire/Arguments", "peek", "()Ljava/lang/String;"⟩ : MethodName) (head1 (Jvm.Cond.code (⟨"com/example/reportwire/reportwire/Arguments", "peek", "()Ljava/lang/String;"⟩ : MethodName) prog_7_method_9_code 1 (some (.object "java/lang/String")) :: ws) ({ frames := 1, cells := 0, slots := 0, locals := 12 } : Room)) (fun ay U => ay = #[(.ref ob)] ∧ Z.Warmed39 U.vm ∧ U.heap = h0) (fun _ _ _ _ _ => True) (fun _ U o U' => ∃ v L, o = .returned v ∧ Q14_2_1 Z ob na kn sa sb h0 n0 v U'.heap L ∧ FrameEnd U o U' L ({ frames := 1, cells := 0, slots := 0, locals := 12 } : Room).cells ({ frames := 1, cells := 0, slots := 0, locals := 12 } : Room).slots) := by
  refine MetFree.of_bodySF (plainFor_of_name pn_com_example_reportwire_reportwire_Arguments) hisR ?_
  intro p e s m args below meth c s₁ Bd hml0 hP hK
  obtain ⟨rfl, hZ, hh⟩ := hP
  have hx := Bd.exec
  have hby := Bd.bytes
  have hlk : meth.locks = false := BodyLoose.notSynchronized Bd
  have hml : c.maxLocals = 1 := hml0
  have hown : s.vm.findClass "com/example/reportwire/reportwire/Arguments" = some m.cls := findClass_of_methodNamed Bd.named
  have hnm := (name_of_methodNamed Bd.named Bd.method).1
  have X0 : Stand p l e ({ frames := 1, cells := 0, slots := 0, locals := 12 } : Room) s m #[(.ref ob)] below meth c s₁ [] 0 0 := Stand.of_body Bd
  have e0 : s₁.heap = h0 := by rw [← hh, Bd.state]; rfl
  have N0 := Fr.nil n0
  suffices hgo : Go p e below s 0 0 (Q14_2_1 Z ob na kn sa sb h0 n0) (s₁.setTop (mkF m 0 #[.val (.ref ob)] [])) by
    obtain ⟨t, o, h1, h2⟩ := hgo; exact ⟨t, o, castTop (ef_rm14_2_1 m ob) h1, h2⟩
  show Go p e below s _ _ _ (s₁.setTop (mkF m 0 #[.val (.ref ob)] []))
  refine Go.st (fun _ k' => XS.aloadN X0.here hx rfl (hb hby d14_0) rfl rfl k') ?_
  show Go p e below s _ _ _ (s₁.setTop (mkF m 1 #[.val (.ref ob)] [(.ref ob)]))
  obtain ⟨cq1, kq1, q1a, q1b, q1c⟩ := isOf hZ e0 E_o
  obtain ⟨_, _, ⟨T1, L1, k1, n1⟩, -, X1, ⟨Lc1, hQ1, l1, y1, z1⟩, st1⟩ := X0.virtualBack hx (y := (⟨"com/example/reportwire/reportwire/Arguments", "hasNext", "()Z"⟩ : MethodName)) (z := (⟨"com/example/reportwire/reportwire/Arguments", "hasNext", "()Z"⟩ : MethodName)) hown (mvT hZ (wdx hw 103 rfl)) (mvT hZ (wdx hw 87 rfl)) (notFace_of_selects (args := #[]) (mvT hZ (wdx hw 89 rfl))) (mvT hZ (wdx hw 89 rfl)) (mvT hZ (wdx hw 88 rfl)) (by decide) (backOf (W := 0) (rm12_2_1 l Z a0 hw [] ob na kn sa sb h0 n0 O0 Fa Fn Va) hZ (wdx hw 90 rfl) (wdx hw 30 rfl) (by decide) (by decide)) q1a q1c (g := (mkF m 1 #[.val (.ref ob)] [(.ref ob)])) rfl (by rw [hml]; rfl) (Steps.refl _) (argsL := []) (rest := []) (lenOf pd___Z rfl) rfl (by show 2 * 0 + _ ≤ _; exact Nat.le_of_eq rfl) (hb hby d14_1) (fun _ _ => ⟨rfl, e0, (by exact Nat.le_of_ble_eq_true rfl), (by exact Nat.le_of_ble_eq_true rfl)⟩)
  dsimp only [Pt.U, Pt.locs, Pt.cells, Pt.slots] at X1 l1 y1 z1 st1 hQ1
  subst l1 y1 z1
  obtain ⟨rfl, Nq1, eq1⟩ := hQ1
  have N1 := Fr.app N0 Nq1
  refine Go.tr st1 ?_
  show Go p e below s _ _ _ (T1.setTop (mkF m 4 #[.val (.ref ob)] [(.int (1 : Int32))]))
  refine Go.st (fun _ k' => XS.ifYes X1.here hx rfl (pc0 := 4) (pc' := 17) rfl (hb hby d14_4) rfl (XT.i0_ne_t (by decide)) (by decide) (by decide) k') ?_
  show Go p e below s _ _ _ (T1.setTop (mkF m 17 #[.val (.ref ob)] []))
  refine Go.st (fun _ k' => XS.aloadN X1.here hx rfl (hb hby d14_17) rfl rfl k') ?_
  show Go p e below s _ _ _ (T1.setTop (mkF m 18 #[.val (.ref ob)] [(.ref ob)]))
  obtain ⟨T2, X2, e2, st2⟩ := getF X1 hx hZ hown (host := "") (Or.inl (wdx hw 84 rfl)) Via.refl eq1 Fa (g := (mkF m 18 #[.val (.ref ob)] [(.ref ob)])) rfl rfl (hb hby d14_18)
  refine Go.st st2 ?_
  show Go p e below s _ _ _ (T2.setTop (mkF m 21 #[.val (.ref ob)] [(.ref na)]))
  refine Go.st (fun _ k' => XS.aloadN X2.here hx rfl (hb hby d14_21) rfl rfl k') ?_
  show Go p e below s _ _ _ (T2.setTop (mkF m 22 #[.val (.ref ob)] [(.ref ob), (.ref na)]))
  obtain ⟨T3, X3, e3, st3⟩ := getF X2 hx hZ hown (host := "") (Or.inl (wdx hw 91 rfl)) Via.refl e2 Fn (g := (mkF m 22 #[.val (.ref ob)] [(.ref ob), (.ref na)])) rfl rfl (hb hby d14_22)
  refine Go.st st3 ?_
  show Go p e below s _ _ _ (T3.setTop (mkF m 25 #[.val (.ref ob)] [(.int (1 : Int32)), (.ref na)]))
  obtain ⟨cl4, Ar4, qc4, Sz4, Nn4, Ha4, Gf4⟩ := id Va
  refine Go.st (fun _ k' => X3.aaload hx (j := (1 : Int32)) (v := (.ref sb)) (by rw [e3]; exact Ar4.1) (State.isArrayOf_alike hZ.alike Ar4.2.1) rfl Ar4.2.2 (inb_of Sz4 ⟨by decide, by decide⟩) (Ha4.at (inb_of Sz4 ⟨by decide, by decide⟩) rfl) (g := (mkF m 25 #[.val (.ref ob)] [(.int (1 : Int32)), (.ref na)])) rfl rfl (hb hby d14_25) _ k') ?_
  show Go p e below s _ _ _ (T3.setTop (mkF m 26 #[.val (.ref ob)] [(.ref sb)]))
  refine Go.ret X3 hx hlk (t := (.object "java/lang/String")) Bd.returns rfl (Or.inr (Or.inr (Or.inr (Or.inr ⟨rfl, rfl, rfl⟩)))) (hb hby d14_26) (by decide) (by decide) e3 ?_
  exact ⟨rfl, N1, rfl⟩
theorem ef_rm13_2_1 (m : MethodId) (ob : Addr) : entryFrame m #[(.ref ob)] 2 = mkF m 0 #[.val (.ref ob), .unset] [] := by first | (simp [entryFrame, mkF, argsToLocals, Value.category]; done) | rfl
def Q13_2_1 (Z : State) (ob : Addr) (na : Addr) (kn : ClassId) (sa : Addr) (sb : Addr) (h0 : Heap) (n0 : Nat) (v : Option Value) (h : Heap) (L : List Loc) : Prop := v = some (.ref sb) ∧ Fr n0 L ∧ Keep h0 h [ob] ∧ Fld Z h ob "com/example/reportwire/reportwire/Arguments" "args" "[Ljava/lang/String;" (.ref na) ∧ Fld Z h ob "com/example/reportwire/reportwire/Arguments" "next" "I" (.int (2 : Int32))
set_option maxRecDepth 65536 in
set_option maxHeartbeats 40000000 in
theorem rm13_2_1 (l : Launch) (Z : State) (a0 : Array Value) (hw : ∀ d ∈ tables_1, d.before a0 Z = true) (ws : List Jvm.Cond) (ob : Addr) (na : Addr) (kn : ClassId) (sa : Addr) (sb : Addr) (h0 : Heap) (n0 : Nat) (O0 : Old Z n0 h0) (E_o : Exa Z h0 ob "com/example/reportwire/reportwire/Arguments") (Fa : Fld Z h0 ob "com/example/reportwire/reportwire/Arguments" "args" "[Ljava/lang/String;" (.ref na)) (Fn : Fld Z h0 ob "com/example/reportwire/reportwire/Arguments" "next" "I" (.int (1 : Int32))) (Va : Arv Z h0 na kn (.object "java/lang/String") (2 : Int32) [(.ref sa), (.ref sb)] .null) (g_o : n0 ≤ ob) (ne_on : ob ≠ na) :
    MetFree l (⟨"com/example/reportwire/reportwire/Arguments", "next", "()Ljava/lang/String;"⟩ : MethodName) (head1 (Jvm.Cond.code (⟨"com/example/reportwire/reportwire/Arguments", "next", "()Ljava/lang/String;"⟩ : MethodName) prog_7_method_10_code 2 (some (.object "java/lang/String")) :: ws) ({ frames := 2, cells := 0, slots := 0, locals := 24 } : Room)) (fun ay U => ay = #[(.ref ob)] ∧ Z.Warmed39 U.vm ∧ U.heap = h0) (fun _ _ _ _ _ => True) (fun _ U o U' => ∃ v L, o = .returned v ∧ Q13_2_1 Z ob na kn sa sb h0 n0 v U'.heap L ∧ FrameEnd U o U' L ({ frames := 2, cells := 0, slots := 0, locals := 24 } : Room).cells ({ frames := 2, cells := 0, slots := 0, locals := 24 } : Room).slots) := by
  refine MetFree.of_bodySF (plainFor_of_name pn_com_example_reportwire_reportwire_Arguments) hisR ?_
  intro p e s m args below meth c s₁ Bd hml0 hP hK
  obtain ⟨rfl, hZ, hh⟩ := hP
  have hx := Bd.exec
  have hby := Bd.bytes
  have hlk : meth.locks = false := BodyLoose.notSynchronized Bd
  have hml : c.maxLocals = 2 := hml0
  have hown : s.vm.findClass "com/example/reportwire/reportwire/Arguments" = some m.cls := findClass_of_methodNamed Bd.named
  have hnm := (name_of_methodNamed Bd.named Bd.method).1
  have X0 : Stand p l e ({ frames := 2, cells := 0, slots := 0, locals := 24 } : Room) s m #[(.ref ob)] below meth c s₁ [] 0 0 := Stand.of_body Bd
  have e0 : s₁.heap = h0 := by rw [← hh, Bd.state]; rfl
  have N0 := Fr.nil n0
  suffices hgo : Go p e below s 0 0 (Q13_2_1 Z ob na kn sa sb h0 n0) (s₁.setTop (mkF m 0 #[.val (.ref ob), .unset] [])) by
    obtain ⟨t, o, h1, h2⟩ := hgo; exact ⟨t, o, castTop (ef_rm13_2_1 m ob) h1, h2⟩
  show Go p e below s _ _ _ (s₁.setTop (mkF m 0 #[.val (.ref ob), .unset] []))
  refine Go.st (fun _ k' => XS.aloadN X0.here hx rfl (hb hby d13_0) rfl rfl k') ?_
  show Go p e below s _ _ _ (s₁.setTop (mkF m 1 #[.val (.ref ob), .unset] [(.ref ob)]))
  obtain ⟨cq1, kq1, q1a, q1b, q1c⟩ := isOf hZ e0 E_o
  obtain ⟨_, _, ⟨T1, L1, k1, n1⟩, -, X1, ⟨Lc1, hQ1, l1, y1, z1⟩, st1⟩ := X0.virtualBack hx (y := (⟨"com/example/reportwire/reportwire/Arguments", "peek", "()Ljava/lang/String;"⟩ : MethodName)) (z := (⟨"com/example/reportwire/reportwire/Arguments", "peek", "()Ljava/lang/String;"⟩ : MethodName)) hown (mvT hZ (wdx hw 98 rfl)) (mvT hZ (wdx hw 99 rfl)) (notFace_of_selects (args := #[]) (mvT hZ (wdx hw 101 rfl))) (mvT hZ (wdx hw 101 rfl)) (mvT hZ (wdx hw 100 rfl)) (by decide) (backOf (W := 0) (rm14_2_1 l Z a0 hw [] ob na kn sa sb h0 n0 O0 E_o Fa Fn Va) hZ (wdx hw 102 rfl) (wdx hw 30 rfl) (by decide) (by decide)) q1a q1c (g := (mkF m 1 #[.val (.ref ob), .unset] [(.ref ob)])) rfl (by rw [hml]; rfl) (Steps.refl _) (argsL := []) (rest := []) (lenOf pd___Ljava_lang_String_ rfl) rfl (by show 2 * 0 + _ ≤ _; exact Nat.le_of_eq rfl) (hb hby d13_1) (fun _ _ => ⟨rfl, e0, (by exact Nat.le_of_ble_eq_true rfl), (by exact Nat.le_of_ble_eq_true rfl)⟩)
  dsimp only [Pt.U, Pt.locs, Pt.cells, Pt.slots] at X1 l1 y1 z1 st1 hQ1
  subst l1 y1 z1
  obtain ⟨rfl, Nq1, eq1⟩ := hQ1
  have N1 := Fr.app N0 Nq1
  refine Go.tr st1 ?_
  show Go p e below s _ _ _ (T1.setTop (mkF m 4 #[.val (.ref ob), .unset] [(.ref sb)]))
  refine Go.st (fun _ k' => XS.astoreN X1.here hx rfl (hb hby d13_4) rfl rfl (l' := #[.val (.ref ob), .val (.ref sb)]) rfl k') ?_
  show Go p e below s _ _ _ (T1.setTop (mkF m 5 #[.val (.ref ob), .val (.ref sb)] []))
  refine Go.st (fun _ k' => XS.aloadN X1.here hx rfl (hb hby d13_5) rfl rfl k') ?_
  show Go p e below s _ _ _ (T1.setTop (mkF m 6 #[.val (.ref ob), .val (.ref sb)] [(.ref ob)]))
  refine Go.st (fun _ k' => XS.dup X1.here hx rfl (hb hby d13_6) rfl rfl k') ?_
  show Go p e below s _ _ _ (T1.setTop (mkF m 7 #[.val (.ref ob), .val (.ref sb)] [(.ref ob), (.ref ob)]))
  obtain ⟨T2, X2, e2, st2⟩ := getF X1 hx hZ hown (host := "") (Or.inl (wdx hw 91 rfl)) Via.refl eq1 Fn (g := (mkF m 7 #[.val (.ref ob), .val (.ref sb)] [(.ref ob), (.ref ob)])) rfl rfl (hb hby d13_7)
  refine Go.st st2 ?_
  show Go p e below s _ _ _ (T2.setTop (mkF m 10 #[.val (.ref ob), .val (.ref sb)] [(.int (1 : Int32)), (.ref ob)]))
  refine Go.st (fun _ k' => XS.iconst X2.here hx rfl (hb hby d13_10) k') ?_
  show Go p e below s _ _ _ (T2.setTop (mkF m 11 #[.val (.ref ob), .val (.ref sb)] [(.int (1 : Int32)), (.int (1 : Int32)), (.ref ob)]))
  refine Go.st (fun _ k' => XS.iadd X2.here hx rfl (hb hby d13_11) rfl k') ?_
  show Go p e below s _ _ _ (T2.setTop (mkF m 12 #[.val (.ref ob), .val (.ref sb)] [(.int (2 : Int32)), (.ref ob)]))
  obtain ⟨T3, h3, X3, e3, W3, st3⟩ := putF X2 hx hZ hown (host := "") (Or.inl (wdx hw 91 rfl)) Via.refl e2 Fn E_o (Or.inl (wdx hw 92 rfl)) (wdx hw 29 rfl) (ty := .int) (by decide) rfl rfl (g := (mkF m 12 #[.val (.ref ob), .val (.ref sb)] [(.int (2 : Int32)), (.ref ob)])) rfl rfl (hb hby d13_12)
  refine Go.st st3 ?_
  have f4 : Exa Z h3 ob "com/example/reportwire/reportwire/Arguments" := E_o.wr W3
  have f5 : Fld Z h3 ob "com/example/reportwire/reportwire/Arguments" "args" "[Ljava/lang/String;" (.ref na) := Fa.other W3 (Or.inr (slot_ne (Or.inr (wdx hw 85 rfl)) (Or.inl (wdx hw 92 rfl)) (by decide) (t := (.array (.object "java/lang/String"))) (t' := .int) (by decide) (by decide)))
  have f6 : Fld Z h3 ob "com/example/reportwire/reportwire/Arguments" "next" "I" (.int (2 : Int32)) := Fn.same W3
  have f7 : Arv Z h3 na kn (.object "java/lang/String") (2 : Int32) [(.ref sa), (.ref sb)] .null := Va.other W3 (Ne.symm ne_on)
  have O3 : Old Z n0 h3 := O0.wr W3 g_o
  have N3 := Fr.snoc X3 N1 g_o
  have K3 : Keep h0 h3 [ob] := (Keep.refl h0 [ob]).wr W3 (Or.inl (by simp))
  show Go p e below s _ _ _ (T3.setTop (mkF m 15 #[.val (.ref ob), .val (.ref sb)] []))
  refine Go.st (fun _ k' => XS.aloadN X3.here hx rfl (hb hby d13_15) rfl rfl k') ?_
  show Go p e below s _ _ _ (T3.setTop (mkF m 16 #[.val (.ref ob), .val (.ref sb)] [(.ref sb)]))
  refine Go.ret X3 hx hlk (t := (.object "java/lang/String")) Bd.returns rfl (Or.inr (Or.inr (Or.inr (Or.inr ⟨rfl, rfl, rfl⟩)))) (hb hby d13_16) (by decide) (by decide) e3 ?_
  exact ⟨rfl, N3, K3, f5, f6⟩
theorem ef_rm12_2_2 (m : MethodId) (ob : Addr) : entryFrame m #[(.ref ob)] 1 = mkF m 0 #[.val (.ref ob)] [] := by first | (simp [entryFrame, mkF, argsToLocals, Value.category]; done) | rfl
def Q12_2_2 (Z : State) (ob : Addr) (na : Addr) (kn : ClassId) (sa : Addr) (sb : Addr) (h0 : Heap) (n0 : Nat) (v : Option Value) (h : Heap) (L : List Loc) : Prop := v = some (.int (0 : Int32)) ∧ Fr n0 L ∧ h = h0
set_option maxRecDepth 65536 in
set_option maxHeartbeats 40000000 in
theorem rm12_2_2 (l : Launch) (Z : State) (a0 : Array Value) (hw : ∀ d ∈ tables_1, d.before a0 Z = true) (ws : List Jvm.Cond) (ob : Addr) (na : Addr) (kn : ClassId) (sa : Addr) (sb : Addr) (h0 : Heap) (n0 : Nat) (O0 : Old Z n0 h0) (Fa : Fld Z h0 ob "com/example/reportwire/reportwire/Arguments" "args" "[Ljava/lang/String;" (.ref na)) (Fn : Fld Z h0 ob "com/example/reportwire/reportwire/Arguments" "next" "I" (.int (2 : Int32))) (Va : Arv Z h0 na kn (.object "java/lang/String") (2 : Int32) [(.ref sa), (.ref sb)] .null) :
    MetFree l (⟨"com/example/reportwire/reportwire/Arguments", "hasNext", "()Z"⟩ : MethodName) (head1 (Jvm.Cond.code (⟨"com/example/reportwire/reportwire/Arguments", "hasNext", "()Z"⟩ : MethodName) prog_7_method_7_code 1 (some .boolean) :: ws) ({ frames := 0, cells := 0, slots := 0, locals := 0 } : Room)) (fun ay U => ay = #[(.ref ob)] ∧ Z.Warmed39 U.vm ∧ U.heap = h0) (fun _ _ _ _ _ => True) (fun _ U o U' => ∃ v L, o = .returned v ∧ Q12_2_2 Z ob na kn sa sb h0 n0 v U'.heap L ∧ FrameEnd U o U' L ({ frames := 0, cells := 0, slots := 0, locals := 0 } : Room).cells ({ frames := 0, cells := 0, slots := 0, locals := 0 } : Room).slots) := by
  refine MetFree.of_bodySF (plainFor_of_name pn_com_example_reportwire_reportwire_Arguments) hisR ?_
  intro p e s m args below meth c s₁ Bd hml0 hP hK
  obtain ⟨rfl, hZ, hh⟩ := hP
  have hx := Bd.exec
  have hby := Bd.bytes
  have hlk : meth.locks = false := BodyLoose.notSynchronized Bd
  have hml : c.maxLocals = 1 := hml0
  have hown : s.vm.findClass "com/example/reportwire/reportwire/Arguments" = some m.cls := findClass_of_methodNamed Bd.named
  have hnm := (name_of_methodNamed Bd.named Bd.method).1
  have X0 : Stand p l e ({ frames := 0, cells := 0, slots := 0, locals := 0 } : Room) s m #[(.ref ob)] below meth c s₁ [] 0 0 := Stand.of_body Bd
  have e0 : s₁.heap = h0 := by rw [← hh, Bd.state]; rfl
  have N0 := Fr.nil n0
  suffices hgo : Go p e below s 0 0 (Q12_2_2 Z ob na kn sa sb h0 n0) (s₁.setTop (mkF m 0 #[.val (.ref ob)] [])) by
    obtain ⟨t, o, h1, h2⟩ := hgo; exact ⟨t, o, castTop (ef_rm12_2_2 m ob) h1, h2⟩
  show Go p e below s _ _ _ (s₁.setTop (mkF m 0 #[.val (.ref ob)] []))
  refine Go.st (fun _ k' => XS.aloadN X0.here hx rfl (hb hby d12_0) rfl rfl k') ?_
  show Go p e below s _ _ _ (s₁.setTop (mkF m 1 #[.val (.ref ob)] [(.ref ob)]))
  obtain ⟨T1, X1, e1, st1⟩ := getF X0 hx hZ hown (host := "") (Or.inl (wdx hw 91 rfl)) Via.refl e0 Fn (g := (mkF m 1 #[.val (.ref ob)] [(.ref ob)])) rfl rfl (hb hby d12_1)
  refine Go.st st1 ?_
  show Go p e below s _ _ _ (T1.setTop (mkF m 4 #[.val (.ref ob)] [(.int (2 : Int32))]))
  refine Go.st (fun _ k' => XS.aloadN X1.here hx rfl (hb hby d12_4) rfl rfl k') ?_
  show Go p e below s _ _ _ (T1.setTop (mkF m 5 #[.val (.ref ob)] [(.ref ob), (.int (2 : Int32))]))
  obtain ⟨T2, X2, e2, st2⟩ := getF X1 hx hZ hown (host := "") (Or.inl (wdx hw 84 rfl)) Via.refl e1 Fa (g := (mkF m 5 #[.val (.ref ob)] [(.ref ob), (.int (2 : Int32))])) rfl rfl (hb hby d12_5)
  refine Go.st st2 ?_
  show Go p e below s _ _ _ (T2.setTop (mkF m 8 #[.val (.ref ob)] [(.ref na), (.int (2 : Int32))]))
  obtain ⟨cl3, Ar3, qc3, Sz3, Nn3, Ha3, Gf3⟩ := id Va
  refine Go.st (fun _ k' => X2.arraylength hx (by rw [e2]; exact Ar3.1) (State.isArrayOf_alike hZ.alike Ar3.2.1) (g := (mkF m 8 #[.val (.ref ob)] [(.ref na), (.int (2 : Int32))])) rfl rfl (hb hby d12_8) _ k') ?_
  rw [len_of Sz3 Nn3]
  show Go p e below s _ _ _ (T2.setTop (mkF m 9 #[.val (.ref ob)] [(.int (2 : Int32)), (.int (2 : Int32))]))
  refine Go.st (fun _ k' => XS.icmpYes X2.here hx rfl (pc0 := 9) (pc' := 16) rfl (hb hby d12_9) rfl (XT.ii_ge_t (by decide)) (by decide) (by decide) k') ?_
  show Go p e below s _ _ _ (T2.setTop (mkF m 16 #[.val (.ref ob)] []))
  refine Go.st (fun _ k' => XS.iconst X2.here hx rfl (hb hby d12_16) k') ?_
  show Go p e below s _ _ _ (T2.setTop (mkF m 17 #[.val (.ref ob)] [(.int (0 : Int32))]))
  refine Go.retB X2 hx hlk (t := .boolean) Bd.returns (by simp) (hb hby d12_17) (by decide) (by decide) e2 ?_
  exact ⟨rfl, N0, rfl⟩
theorem ef_rm6_3 (m : MethodId) (ob : Addr) (aa : Addr) : entryFrame m #[(.ref ob), (.ref aa)] 2 = mkF m 0 #[.val (.ref ob), .val (.ref aa)] [] := by first | (simp [entryFrame, mkF, argsToLocals, Value.category]; done) | rfl
def Q6_3 (Z : State) (ob : Addr) (aa : Addr) (ka : ClassId) (sa : Addr) (sb : Addr) (sc : Addr) (h0 : Heap) (n0 : Nat) (v : Option Value) (h : Heap) (L : List Loc) : Prop := ∃ (na : Addr) (kn : ClassId), v = none ∧ Fr n0 L ∧ Keep h0 h [ob] ∧ Fld Z h ob "com/example/reportwire/reportwire/Arguments" "args" "[Ljava/lang/String;" (.ref na) ∧ Fld Z h ob "com/example/reportwire/reportwire/Arguments" "next" "I" (.int (0 : Int32)) ∧ Arv Z h na kn (.object "java/lang/String") (3 : Int32) [(.ref sa), (.ref sb), (.ref sc)] .null ∧ h0.size ≤ na
set_option maxRecDepth 65536 in
set_option maxHeartbeats 40000000 in
theorem rm6_3 (l : Launch) (Z : State) (a0 : Array Value) (hw : ∀ d ∈ tables_1, d.before a0 Z = true) (ws : List Jvm.Cond) (ob : Addr) (aa : Addr) (ka : ClassId) (sa : Addr) (sb : Addr) (sc : Addr) (h0 : Heap) (n0 : Nat) (O0 : Old Z n0 h0) (E_o : Exa Z h0 ob "com/example/reportwire/reportwire/Arguments") (Fo : Fld Z h0 ob "com/example/reportwire/reportwire/Arguments" "optionsGiven" "Ljava/util/Set;" .null) (Fa : Fld Z h0 ob "com/example/reportwire/reportwire/Arguments" "args" "[Ljava/lang/String;" .null) (Fn : Fld Z h0 ob "com/example/reportwire/reportwire/Arguments" "next" "I" (.int (0 : Int32))) (E_a : Exa Z h0 aa "[Ljava/lang/String;") (Va : Arv Z h0 aa ka (.object "java/lang/String") (3 : Int32) [(.ref sa), (.ref sb), (.ref sc)] .null) (g_o : n0 ≤ ob) (ne_oa : ob ≠ aa) :
    MetFree l (⟨"com/example/reportwire/reportwire/Arguments", "<init>", "([Ljava/lang/String;)V"⟩ : MethodName) (head1 (Jvm.Cond.code (⟨"com/example/reportwire/reportwire/Arguments", "<init>", "([Ljava/lang/String;)V"⟩ : MethodName) prog_7_method_1_code 2 none :: ws) ({ frames := 4, cells := 3, slots := 12, locals := 52 } : Room)) (fun ay U => ay = #[(.ref ob), (.ref aa)] ∧ Z.Warmed39 U.vm ∧ U.heap = h0) (fun _ _ _ _ _ => True) (fun _ U o U' => ∃ v L, o = .returned v ∧ Q6_3 Z ob aa ka sa sb sc h0 n0 v U'.heap L ∧ FrameEnd U o U' L ({ frames := 4, cells := 3, slots := 12, locals := 52 } : Room).cells ({ frames := 4, cells := 3, slots := 12, locals := 52 } : Room).slots) := by
  refine MetFree.of_bodySF (plainFor_of_name pn_com_example_reportwire_reportwire_Arguments) hisR ?_
  intro p e s m args below meth c s₁ Bd hml0 hP hK
  obtain ⟨rfl, hZ, hh⟩ := hP
  have hx := Bd.exec
  have hby := Bd.bytes
  have hlk : meth.locks = false := BodyLoose.notSynchronized Bd
  have hml : c.maxLocals = 2 := hml0
  have hown : s.vm.findClass "com/example/reportwire/reportwire/Arguments" = some m.cls := findClass_of_methodNamed Bd.named
  have hnm := (name_of_methodNamed Bd.named Bd.method).1
  have X0 : Stand p l e ({ frames := 4, cells := 3, slots := 12, locals := 52 } : Room) s m #[(.ref ob), (.ref aa)] below meth c s₁ [] 0 0 := Stand.of_body Bd
  have e0 : s₁.heap = h0 := by rw [← hh, Bd.state]; rfl
  have N0 := Fr.nil n0
  suffices hgo : Go p e below s 3 12 (Q6_3 Z ob aa ka sa sb sc h0 n0) (s₁.setTop (mkF m 0 #[.val (.ref ob), .val (.ref aa)] [])) by
    obtain ⟨t, o, h1, h2⟩ := hgo; exact ⟨t, o, castTop (ef_rm6_3 m ob aa) h1, h2⟩
  show Go p e below s _ _ _ (s₁.setTop (mkF m 0 #[.val (.ref ob), .val (.ref aa)] []))
  refine Go.st (fun _ k' => XS.aloadN X0.here hx rfl (hb hby d6_0) rfl rfl k') ?_
  show Go p e below s _ _ _ (s₁.setTop (mkF m 1 #[.val (.ref ob), .val (.ref aa)] [(.ref ob)]))
  obtain ⟨T1, X1, e1, st1⟩ := initO X0 hx hZ hown (wdx hw 34 rfl) (wdx hw 20 rfl) (wdx hw 21 rfl) e0 (g := (mkF m 1 #[.val (.ref ob), .val (.ref aa)] [(.ref ob)])) rfl (by rw [hml]; rfl) rfl (hb hby d6_1) (by decide) (W := 0) (by show 2 * 0 + _ ≤ _; exact Nat.le_of_eq rfl) (by decide)
  refine Go.st st1 ?_
  show Go p e below s _ _ _ (T1.setTop (mkF m 4 #[.val (.ref ob), .val (.ref aa)] []))
  refine Go.st (fun _ k' => XS.aloadN X1.here hx rfl (hb hby d6_4) rfl rfl k') ?_
  show Go p e below s _ _ _ (T1.setTop (mkF m 5 #[.val (.ref ob), .val (.ref aa)] [(.ref ob)]))
  obtain ⟨T2, h2, X2, e2, E2, A2, D2, -, st2⟩ := newO X1 hx hZ hown (wdx hw 35 rfl) (wdx hw 36 rfl) (wdx hw 37 rfl) e1 (g := (mkF m 5 #[.val (.ref ob), .val (.ref aa)] [(.ref ob)])) rfl (hb hby d6_5) (by decide) (by decide)
  obtain ⟨b2, g2⟩ : ∃ z, z = h0.size := ⟨_, rfl⟩
  rw [← g2] at A2 D2 st2
  refine Go.st st2 ?_
  have g_b2 : n0 ≤ b2 := Nat.le_trans (own_le O0) (Nat.le_of_eq g2.symm)
  have z_b2 : h0.size ≤ b2 := Nat.le_of_eq g2.symm
  have ne3 : ob ≠ b2 := Nat.ne_of_lt (Nat.lt_of_lt_of_le E_o.lt (Nat.le_of_eq g2.symm))
  have ne4 : aa ≠ b2 := Nat.ne_of_lt (Nat.lt_of_lt_of_le E_a.lt (Nat.le_of_eq g2.symm))
  have f5 : Exa Z h2 ob "com/example/reportwire/reportwire/Arguments" := E_o.ext E2
  have f6 : Fld Z h2 ob "com/example/reportwire/reportwire/Arguments" "optionsGiven" "Ljava/util/Set;" .null := Fo.ext E2
  have f7 : Fld Z h2 ob "com/example/reportwire/reportwire/Arguments" "args" "[Ljava/lang/String;" .null := Fa.ext E2
  have f8 : Fld Z h2 ob "com/example/reportwire/reportwire/Arguments" "next" "I" (.int (0 : Int32)) := Fn.ext E2
  have f9 : Exa Z h2 aa "[Ljava/lang/String;" := E_a.ext E2
  have f10 : Arv Z h2 aa ka (.object "java/lang/String") (3 : Int32) [(.ref sa), (.ref sb), (.ref sc)] .null := Va.ext E2
  have O2 : Old Z n0 h2 := O0.ext E2
  have K2 : Keep h0 h2 [ob] := (Keep.refl h0 [ob]).ext E2
  have f11 : Fld Z h2 b2 "java/util/HashSet" "map" "Ljava/util/HashMap;" .null := D2 (Or.inl (wdx hw 72 rfl)) (ty := (.object "java/util/HashMap")) (by decide)
  show Go p e below s _ _ _ (T2.setTop (mkF m 8 #[.val (.ref ob), .val (.ref aa)] [(.ref b2), (.ref ob)]))
  refine Go.st (fun _ k' => XS.dup X2.here hx rfl (hb hby d6_8) rfl rfl k') ?_
  show Go p e below s _ _ _ (T2.setTop (mkF m 9 #[.val (.ref ob), .val (.ref aa)] [(.ref b2), (.ref b2), (.ref ob)]))
  obtain ⟨_, _, ⟨T12, L12, k12, n12⟩, -, X12, ⟨Lc12, hQ12, l12, y12, z12⟩, st12⟩ := X2.specialBack hx (y := (⟨"java/util/HashSet", "<init>", "()V"⟩ : MethodName)) rfl hown (mvT hZ (wdx hw 38 rfl)) (mvT hZ (wdx hw 39 rfl)) (mvT hZ (wdx hw 40 rfl)) (by decide) (backOf (W := 2) (rm7 l Z a0 hw [] b2 h2 n0 O2 A2 f11 g_b2) hZ (wdx hw 40 rfl) (wdx hw 37 rfl) (by decide) (by decide)) (g := (mkF m 9 #[.val (.ref ob), .val (.ref aa)] [(.ref b2), (.ref b2), (.ref ob)])) rfl (by rw [hml]; rfl) (Steps.refl _) (a := b2) (argsL := []) (rest := [(.ref b2), (.ref ob)]) (lenOf pd___V rfl) rfl (by show 2 * 0 + _ ≤ _; exact Nat.le_of_eq rfl) (hb hby d6_9) (fun _ _ => ⟨rfl, e2, (by exact Nat.le_of_ble_eq_true rfl), (by exact Nat.le_of_ble_eq_true rfl)⟩)
  dsimp only [Pt.U, Pt.locs, Pt.cells, Pt.slots] at X12 l12 y12 z12 st12 hQ12
  subst l12 y12 z12
  obtain ⟨rfl, Nq12, Kq12⟩ := hQ12
  have N12 := Fr.app N0 Nq12
  refine Go.tr st12 ?_
  have f13 : Exa Z T12.heap ob "com/example/reportwire/reportwire/Arguments" := f5.keep Kq12
  have f14 : Fld Z T12.heap ob "com/example/reportwire/reportwire/Arguments" "optionsGiven" "Ljava/util/Set;" .null := f6.keep Kq12 (ninS ne3 nin0)
  have f15 : Fld Z T12.heap ob "com/example/reportwire/reportwire/Arguments" "args" "[Ljava/lang/String;" .null := f7.keep Kq12 (ninS ne3 nin0)
  have f16 : Fld Z T12.heap ob "com/example/reportwire/reportwire/Arguments" "next" "I" (.int (0 : Int32)) := f8.keep Kq12 (ninS ne3 nin0)
  have f17 : Exa Z T12.heap aa "[Ljava/lang/String;" := f9.keep Kq12
  have f18 : Arv Z T12.heap aa ka (.object "java/lang/String") (3 : Int32) [(.ref sa), (.ref sb), (.ref sc)] .null := f10.keep Kq12 (ninS ne4 nin0)
  have f19 : Exa Z T12.heap b2 "java/util/HashSet" := A2.keep Kq12
  have O12 : Old Z n0 T12.heap := O2.keep Kq12 (allS g_b2 all0)
  have K12 : Keep h0 T12.heap [ob] := K2.trans Kq12 (allS (Or.inr z_b2) all0)
  show Go p e below s _ _ _ (T12.setTop (mkF m 12 #[.val (.ref ob), .val (.ref aa)] [(.ref b2), (.ref ob)]))
  obtain ⟨T20, h20, X20, e20, W20, st20⟩ := putF X12 hx hZ hown (host := "") (Or.inl (wdx hw 73 rfl)) Via.refl rfl f14 f13 (Or.inr ⟨(wdx hw 74 rfl), rfl, hnm⟩) (wdx hw 29 rfl) (ty := (.object "java/util/Set")) (by decide) rfl rfl (g := (mkF m 12 #[.val (.ref ob), .val (.ref aa)] [(.ref b2), (.ref ob)])) rfl rfl (hb hby d6_12)
  refine Go.st st20 ?_
  have f21 : Exa Z h20 ob "com/example/reportwire/reportwire/Arguments" := f13.wr W20
  have f22 : Fld Z h20 ob "com/example/reportwire/reportwire/Arguments" "optionsGiven" "Ljava/util/Set;" (.ref b2) := f14.same W20
  have f23 : Fld Z h20 ob "com/example/reportwire/reportwire/Arguments" "args" "[Ljava/lang/String;" .null := f15.other W20 (Or.inr (slot_ne (Or.inr (wdx hw 85 rfl)) (Or.inr (wdx hw 74 rfl)) (by decide) (t := (.array (.object "java/lang/String"))) (t' := (.object "java/util/Set")) (by decide) (by decide)))
  have f24 : Fld Z h20 ob "com/example/reportwire/reportwire/Arguments" "next" "I" (.int (0 : Int32)) := f16.other W20 (Or.inr (slot_ne (Or.inl (wdx hw 92 rfl)) (Or.inr (wdx hw 74 rfl)) (by decide) (t := .int) (t' := (.object "java/util/Set")) (by decide) (by decide)))
  have f25 : Exa Z h20 aa "[Ljava/lang/String;" := f17.wr W20
  have f26 : Arv Z h20 aa ka (.object "java/lang/String") (3 : Int32) [(.ref sa), (.ref sb), (.ref sc)] .null := f18.other W20 (Ne.symm ne_oa)
  have f27 : Exa Z h20 b2 "java/util/HashSet" := f19.wr W20
  have O20 : Old Z n0 h20 := O12.wr W20 g_o
  have N20 := Fr.snoc X20 N12 g_o
  have K20 : Keep h0 h20 [ob] := K12.wr W20 (Or.inl (by simp))
  show Go p e below s _ _ _ (T20.setTop (mkF m 15 #[.val (.ref ob), .val (.ref aa)] []))
  refine Go.st (fun _ k' => XS.aloadN X20.here hx rfl (hb hby d6_15) rfl rfl k') ?_
  show Go p e below s _ _ _ (T20.setTop (mkF m 16 #[.val (.ref ob), .val (.ref aa)] [(.ref ob)]))
  refine Go.st (fun _ k' => XS.aloadN X20.here hx rfl (hb hby d6_16) rfl rfl k') ?_
  show Go p e below s _ _ _ (T20.setTop (mkF m 17 #[.val (.ref ob), .val (.ref aa)] [(.ref aa), (.ref ob)]))
  obtain ⟨T28, h28, X28, e28, E28, A28, Ex28, st28⟩ := cloneH X20 hx hZ hown (wdx hw 75 rfl) (wdx hw 76 rfl) (wdx hw 80 rfl) (wdx hw 78 rfl) (wdx hw 79 rfl) (wdx hw 81 rfl) e20 (hs := []) f26 f25 (g := (mkF m 17 #[.val (.ref ob), .val (.ref aa)] [(.ref aa), (.ref ob)])) rfl (by rw [hml]; rfl) rfl (hb hby d6_17) (by decide) (W := 1) (cap := 3) (by show 2 * 0 + _ ≤ _; exact Nat.le_of_eq rfl) (by decide) (by decide) (by decide) (by decide)
  obtain ⟨b28, g28⟩ : ∃ z, z = h20.size := ⟨_, rfl⟩
  rw [← g28] at A28 Ex28 st28
  refine Go.st st28 ?_
  have g_b28 : n0 ≤ b28 := Nat.le_trans (own_le O20) (Nat.le_of_eq g28.symm)
  have z_b28 : h0.size ≤ b28 := Nat.le_trans K20.1 (Nat.le_of_eq g28.symm)
  have ne29 : ob ≠ b28 := Nat.ne_of_lt (Nat.lt_of_lt_of_le f21.lt (Nat.le_of_eq g28.symm))
  have ne30 : aa ≠ b28 := Nat.ne_of_lt (Nat.lt_of_lt_of_le f25.lt (Nat.le_of_eq g28.symm))
  have ne31 : b2 ≠ b28 := Nat.ne_of_lt (Nat.lt_of_lt_of_le f27.lt (Nat.le_of_eq g28.symm))
  have f32 : Exa Z h28 ob "com/example/reportwire/reportwire/Arguments" := f21.ext E28
  have f33 : Fld Z h28 ob "com/example/reportwire/reportwire/Arguments" "optionsGiven" "Ljava/util/Set;" (.ref b2) := f22.ext E28
  have f34 : Fld Z h28 ob "com/example/reportwire/reportwire/Arguments" "args" "[Ljava/lang/String;" .null := f23.ext E28
  have f35 : Fld Z h28 ob "com/example/reportwire/reportwire/Arguments" "next" "I" (.int (0 : Int32)) := f24.ext E28
  have f36 : Exa Z h28 aa "[Ljava/lang/String;" := f25.ext E28
  have f37 : Arv Z h28 aa ka (.object "java/lang/String") (3 : Int32) [(.ref sa), (.ref sb), (.ref sc)] .null := f26.ext E28
  have f38 : Exa Z h28 b2 "java/util/HashSet" := f27.ext E28
  have O28 : Old Z n0 h28 := O20.ext E28
  have K28 : Keep h0 h28 [ob] := K20.ext E28
  have f39 : Arv Z h28 b28 ka (.object "java/lang/String") (3 : Int32) [(.ref sa), (.ref sb), (.ref sc)] .null := A28
  show Go p e below s _ _ _ (T28.setTop (mkF m 20 #[.val (.ref ob), .val (.ref aa)] [(.ref b28), (.ref ob)]))
  obtain ⟨T40, X40, e40, st40⟩ := castY X28 hx hZ hown (wdx hw 82 rfl) e28 (Ins.self Ex28) (g := (mkF m 20 #[.val (.ref ob), .val (.ref aa)] [(.ref b28), (.ref ob)])) rfl rfl (hb hby d6_20)
  refine Go.st st40 ?_
  show Go p e below s _ _ _ (T40.setTop (mkF m 23 #[.val (.ref ob), .val (.ref aa)] [(.ref b28), (.ref ob)]))
  obtain ⟨T41, h41, X41, e41, W41, st41⟩ := putF X40 hx hZ hown (host := "") (Or.inl (wdx hw 84 rfl)) Via.refl e40 f34 f32 (Or.inr ⟨(wdx hw 85 rfl), rfl, hnm⟩) (wdx hw 29 rfl) (ty := (.array (.object "java/lang/String"))) (by decide) rfl rfl (g := (mkF m 23 #[.val (.ref ob), .val (.ref aa)] [(.ref b28), (.ref ob)])) rfl rfl (hb hby d6_23)
  refine Go.st st41 ?_
  have f42 : Exa Z h41 ob "com/example/reportwire/reportwire/Arguments" := f32.wr W41
  have f43 : Fld Z h41 ob "com/example/reportwire/reportwire/Arguments" "optionsGiven" "Ljava/util/Set;" (.ref b2) := f33.other W41 (Or.inr (slot_ne (Or.inr (wdx hw 74 rfl)) (Or.inr (wdx hw 85 rfl)) (by decide) (t := (.object "java/util/Set")) (t' := (.array (.object "java/lang/String"))) (by decide) (by decide)))
  have f44 : Fld Z h41 ob "com/example/reportwire/reportwire/Arguments" "args" "[Ljava/lang/String;" (.ref b28) := f34.same W41
  have f45 : Fld Z h41 ob "com/example/reportwire/reportwire/Arguments" "next" "I" (.int (0 : Int32)) := f35.other W41 (Or.inr (slot_ne (Or.inl (wdx hw 92 rfl)) (Or.inr (wdx hw 85 rfl)) (by decide) (t := .int) (t' := (.array (.object "java/lang/String"))) (by decide) (by decide)))
  have f46 : Exa Z h41 aa "[Ljava/lang/String;" := f36.wr W41
  have f47 : Arv Z h41 aa ka (.object "java/lang/String") (3 : Int32) [(.ref sa), (.ref sb), (.ref sc)] .null := f37.other W41 (Ne.symm ne_oa)
  have f48 : Exa Z h41 b2 "java/util/HashSet" := f38.wr W41
  have f49 : Exa Z h41 b28 "[Ljava/lang/String;" := Ex28.wr W41
  have f50 : Arv Z h41 b28 ka (.object "java/lang/String") (3 : Int32) [(.ref sa), (.ref sb), (.ref sc)] .null := f39.other W41 (Ne.symm ne29)
  have O41 : Old Z n0 h41 := O28.wr W41 g_o
  have N41 := Fr.snoc X41 N20 g_o
  have K41 : Keep h0 h41 [ob] := K28.wr W41 (Or.inl (by simp))
  show Go p e below s _ _ _ (T41.setTop (mkF m 26 #[.val (.ref ob), .val (.ref aa)] []))
  refine Go.retV X41 hx hlk Bd.returns (hb hby d6_26) (by decide) (by decide) e41 ?_
  exact ⟨b28, ka, rfl, N41, K41, f44, f45, f50, z_b28⟩
theorem ef_rm12_3_0 (m : MethodId) (ob : Addr) : entryFrame m #[(.ref ob)] 1 = mkF m 0 #[.val (.ref ob)] [] := by first | (simp [entryFrame, mkF, argsToLocals, Value.category]; done) | rfl
def Q12_3_0 (Z : State) (ob : Addr) (na : Addr) (kn : ClassId) (sa : Addr) (sb : Addr) (sc : Addr) (h0 : Heap) (n0 : Nat) (v : Option Value) (h : Heap) (L : List Loc) : Prop := v = some (.int (1 : Int32)) ∧ Fr n0 L ∧ h = h0
set_option maxRecDepth 65536 in
set_option maxHeartbeats 40000000 in
theorem rm12_3_0 (l : Launch) (Z : State) (a0 : Array Value) (hw : ∀ d ∈ tables_1, d.before a0 Z = true) (ws : List Jvm.Cond) (ob : Addr) (na : Addr) (kn : ClassId) (sa : Addr) (sb : Addr) (sc : Addr) (h0 : Heap) (n0 : Nat) (O0 : Old Z n0 h0) (Fa : Fld Z h0 ob "com/example/reportwire/reportwire/Arguments" "args" "[Ljava/lang/String;" (.ref na)) (Fn : Fld Z h0 ob "com/example/reportwire/reportwire/Arguments" "next" "I" (.int (0 : Int32))) (Va : Arv Z h0 na kn (.object "java/lang/String") (3 : Int32) [(.ref sa), (.ref sb), (.ref sc)] .null) :
    MetFree l (⟨"com/example/reportwire/reportwire/Arguments", "hasNext", "()Z"⟩ : MethodName) (head1 (Jvm.Cond.code (⟨"com/example/reportwire/reportwire/Arguments", "hasNext", "()Z"⟩ : MethodName) prog_7_method_7_code 1 (some .boolean) :: ws) ({ frames := 0, cells := 0, slots := 0, locals := 0 } : Room)) (fun ay U => ay = #[(.ref ob)] ∧ Z.Warmed39 U.vm ∧ U.heap = h0) (fun _ _ _ _ _ => True) (fun _ U o U' => ∃ v L, o = .returned v ∧ Q12_3_0 Z ob na kn sa sb sc h0 n0 v U'.heap L ∧ FrameEnd U o U' L ({ frames := 0, cells := 0, slots := 0, locals := 0 } : Room).cells ({ frames := 0, cells := 0, slots := 0, locals := 0 } : Room).slots) := by
  refine MetFree.of_bodySF (plainFor_of_name pn_com_example_reportwire_reportwire_Arguments) hisR ?_
  intro p e s m args below meth c s₁ Bd hml0 hP hK
  obtain ⟨rfl, hZ, hh⟩ := hP
  have hx := Bd.exec
  have hby := Bd.bytes
  have hlk : meth.locks = false := BodyLoose.notSynchronized Bd
  have hml : c.maxLocals = 1 := hml0
  have hown : s.vm.findClass "com/example/reportwire/reportwire/Arguments" = some m.cls := findClass_of_methodNamed Bd.named
  have hnm := (name_of_methodNamed Bd.named Bd.method).1
  have X0 : Stand p l e ({ frames := 0, cells := 0, slots := 0, locals := 0 } : Room) s m #[(.ref ob)] below meth c s₁ [] 0 0 := Stand.of_body Bd
  have e0 : s₁.heap = h0 := by rw [← hh, Bd.state]; rfl
  have N0 := Fr.nil n0
  suffices hgo : Go p e below s 0 0 (Q12_3_0 Z ob na kn sa sb sc h0 n0) (s₁.setTop (mkF m 0 #[.val (.ref ob)] [])) by
    obtain ⟨t, o, h1, h2⟩ := hgo; exact ⟨t, o, castTop (ef_rm12_3_0 m ob) h1, h2⟩
  show Go p e below s _ _ _ (s₁.setTop (mkF m 0 #[.val (.ref ob)] []))
  refine Go.st (fun _ k' => XS.aloadN X0.here hx rfl (hb hby d12_0) rfl rfl k') ?_
  show Go p e below s _ _ _ (s₁.setTop (mkF m 1 #[.val (.ref ob)] [(.ref ob)]))
  obtain ⟨T1, X1, e1, st1⟩ := getF X0 hx hZ hown (host := "") (Or.inl (wdx hw 91 rfl)) Via.refl e0 Fn (g := (mkF m 1 #[.val (.ref ob)] [(.ref ob)])) rfl rfl (hb hby d12_1)
  refine Go.st st1 ?_
  show Go p e below s _ _ _ (T1.setTop (mkF m 4 #[.val (.ref ob)] [(.int (0 : Int32))]))
  refine Go.st (fun _ k' => XS.aloadN X1.here hx rfl (hb hby d12_4) rfl rfl k') ?_
  show Go p e below s _ _ _ (T1.setTop (mkF m 5 #[.val (.ref ob)] [(.ref ob), (.int (0 : Int32))]))
  obtain ⟨T2, X2, e2, st2⟩ := getF X1 hx hZ hown (host := "") (Or.inl (wdx hw 84 rfl)) Via.refl e1 Fa (g := (mkF m 5 #[.val (.ref ob)] [(.ref ob), (.int (0 : Int32))])) rfl rfl (hb hby d12_5)
  refine Go.st st2 ?_
  show Go p e below s _ _ _ (T2.setTop (mkF m 8 #[.val (.ref ob)] [(.ref na), (.int (0 : Int32))]))
  obtain ⟨cl3, Ar3, qc3, Sz3, Nn3, Ha3, Gf3⟩ := id Va
  refine Go.st (fun _ k' => X2.arraylength hx (by rw [e2]; exact Ar3.1) (State.isArrayOf_alike hZ.alike Ar3.2.1) (g := (mkF m 8 #[.val (.ref ob)] [(.ref na), (.int (0 : Int32))])) rfl rfl (hb hby d12_8) _ k') ?_
  rw [len_of Sz3 Nn3]
  show Go p e below s _ _ _ (T2.setTop (mkF m 9 #[.val (.ref ob)] [(.int (3 : Int32)), (.int (0 : Int32))]))
  refine Go.st (fun _ k' => XS.icmpNo X2.here hx rfl (hb hby d12_9) rfl (XT.ii_ge_f (by decide)) k') ?_
  show Go p e below s _ _ _ (T2.setTop (mkF m 12 #[.val (.ref ob)] []))
  refine Go.st (fun _ k' => XS.iconst X2.here hx rfl (hb hby d12_12) k') ?_
  show Go p e below s _ _ _ (T2.setTop (mkF m 13 #[.val (.ref ob)] [(.int (1 : Int32))]))
  refine Go.st (fun _ k' => XS.goto X2.here hx rfl (pc0 := 13) (pc' := 17) rfl (hb hby d12_13) (by decide) (by decide) k') ?_
  show Go p e below s _ _ _ (T2.setTop (mkF m 17 #[.val (.ref ob)] [(.int (1 : Int32))]))
  refine Go.retB X2 hx hlk (t := .boolean) Bd.returns (by simp) (hb hby d12_17) (by decide) (by decide) e2 ?_
  exact ⟨rfl, N0, rfl⟩
theorem ef_rm14_3_0 (m : MethodId) (ob : Addr) : entryFrame m #[(.ref ob)] 1 = mkF m 0 #[.val (.ref ob)] [] := by first | (simp [entryFrame, mkF, argsToLocals, Value.category]; done) | rfl
def Q14_3_0 (Z : State) (ob : Addr) (na : Addr) (kn : ClassId) (sa : Addr) (sb : Addr) (sc : Addr) (h0 : Heap) (n0 : Nat) (v : Option Value) (h : Heap) (L : List Loc) : Prop := v = some (.ref sa) ∧ Fr n0 L ∧ h = h0
set_option maxRecDepth 65536 in
set_option maxHeartbeats 40000000 in
theorem rm14_3_0 (l : Launch) (Z : State) (a0 : Array Value) (hw : ∀ d ∈ tables_1, d.before a0 Z = true) (ws : List Jvm.Cond) (ob : Addr) (na : Addr) (kn : ClassId) (sa : Addr) (sb : Addr) (sc : Addr) (h0 : Heap) (n0 : Nat) (O0 : Old Z n0 h0) (E_o : Exa Z h0 ob "com/example/reportwire/reportwire/Arguments") (Fa : Fld Z h0 ob "com/example/reportwire/reportwire/Arguments" "args" "[Ljava/lang/String;" (.ref na)) (Fn : Fld Z h0 ob "com/example/reportwire/reportwire/Arguments" "next" "I" (.int (0 : Int32))) (Va : Arv Z h0 na kn (.object "java/lang/String") (3 : Int32) [(.ref sa), (.ref sb), (.ref sc)] .null) :
    MetFree l (⟨"com/example/reportwire/reportwire/Arguments", "peek", "()Ljava/lang/String;"⟩ : MethodName) (head1 (Jvm.Cond.code (⟨"com/example/reportwire/reportwire/Arguments", "peek", "()Ljava/lang/String;"⟩ : MethodName) prog_7_method_9_code 1 (some (.object "java/lang/String")) :: ws) ({ frames := 1, cells := 0, slots := 0, locals := 12 } : Room)) (fun ay U => ay = #[(.ref ob)] ∧ Z.Warmed39 U.vm ∧ U.heap = h0) (fun _ _ _ _ _ => True) (fun _ U o U' => ∃ v L, o = .returned v ∧ Q14_3_0 Z ob na kn sa sb sc h0 n0 v U'.heap L ∧ FrameEnd U o U' L ({ frames := 1, cells := 0, slots := 0, locals := 12 } : Room).cells ({ frames := 1, cells := 0, slots := 0, locals := 12 } : Room).slots) := by
  refine MetFree.of_bodySF (plainFor_of_name pn_com_example_reportwire_reportwire_Arguments) hisR ?_
  intro p e s m args below meth c s₁ Bd hml0 hP hK
  obtain ⟨rfl, hZ, hh⟩ := hP
  have hx := Bd.exec
  have hby := Bd.bytes
  have hlk : meth.locks = false := BodyLoose.notSynchronized Bd
  have hml : c.maxLocals = 1 := hml0
  have hown : s.vm.findClass "com/example/reportwire/reportwire/Arguments" = some m.cls := findClass_of_methodNamed Bd.named
  have hnm := (name_of_methodNamed Bd.named Bd.method).1
  have X0 : Stand p l e ({ frames := 1, cells := 0, slots := 0, locals := 12 } : Room) s m #[(.ref ob)] below meth c s₁ [] 0 0 := Stand.of_body Bd
  have e0 : s₁.heap = h0 := by rw [← hh, Bd.state]; rfl
  have N0 := Fr.nil n0
  suffices hgo : Go p e below s 0 0 (Q14_3_0 Z ob na kn sa sb sc h0 n0) (s₁.setTop (mkF m 0 #[.val (.ref ob)] [])) by
    obtain ⟨t, o, h1, h2⟩ := hgo; exact ⟨t, o, castTop (ef_rm14_3_0 m ob) h1, h2⟩
  show Go p e below s _ _ _ (s₁.setTop (mkF m 0 #[.val (.ref ob)] []))
  refine Go.st (fun _ k' => XS.aloadN X0.here hx rfl (hb hby d14_0) rfl rfl k') ?_
  show Go p e below s _ _ _ (s₁.setTop (mkF m 1 #[.val (.ref ob)] [(.ref ob)]))
  obtain ⟨cq1, kq1, q1a, q1b, q1c⟩ := isOf hZ e0 E_o
  obtain ⟨_, _, ⟨T1, L1, k1, n1⟩, -, X1, ⟨Lc1, hQ1, l1, y1, z1⟩, st1⟩ := X0.virtualBack hx (y := (⟨"com/example/reportwire/reportwire/Arguments", "hasNext", "()Z"⟩ : MethodName)) (z := (⟨"com/example/reportwire/reportwire/Arguments", "hasNext", "()Z"⟩ : MethodName)) hown (mvT hZ (wdx hw 103 rfl)) (mvT hZ (wdx hw 87 rfl)) (notFace_of_selects (args := #[]) (mvT hZ (wdx hw 89 rfl))) (mvT hZ (wdx hw 89 rfl)) (mvT hZ (wdx hw 88 rfl)) (by decide) (backOf (W := 0) (rm12_3_0 l Z a0 hw [] ob na kn sa sb sc h0 n0 O0 Fa Fn Va) hZ (wdx hw 90 rfl) (wdx hw 30 rfl) (by decide) (by decide)) q1a q1c (g := (mkF m 1 #[.val (.ref ob)] [(.ref ob)])) rfl (by rw [hml]; rfl) (Steps.refl _) (argsL := []) (rest := []) (lenOf pd___Z rfl) rfl (by show 2 * 0 + _ ≤ _; exact Nat.le_of_eq rfl) (hb hby d14_1) (fun _ _ => ⟨rfl, e0, (by exact Nat.le_of_ble_eq_true rfl), (by exact Nat.le_of_ble_eq_true rfl)⟩)
  dsimp only [Pt.U, Pt.locs, Pt.cells, Pt.slots] at X1 l1 y1 z1 st1 hQ1
  subst l1 y1 z1
  obtain ⟨rfl, Nq1, eq1⟩ := hQ1
  have N1 := Fr.app N0 Nq1
  refine Go.tr st1 ?_
  show Go p e below s _ _ _ (T1.setTop (mkF m 4 #[.val (.ref ob)] [(.int (1 : Int32))]))
  refine Go.st (fun _ k' => XS.ifYes X1.here hx rfl (pc0 := 4) (pc' := 17) rfl (hb hby d14_4) rfl (XT.i0_ne_t (by decide)) (by decide) (by decide) k') ?_
  show Go p e below s _ _ _ (T1.setTop (mkF m 17 #[.val (.ref ob)] []))
  refine Go.st (fun _ k' => XS.aloadN X1.here hx rfl (hb hby d14_17) rfl rfl k') ?_
  show Go p e below s _ _ _ (T1.setTop (mkF m 18 #[.val (.ref ob)] [(.ref ob)]))
  obtain ⟨T2, X2, e2, st2⟩ := getF X1 hx hZ hown (host := "") (Or.inl (wdx hw 84 rfl)) Via.refl eq1 Fa (g := (mkF m 18 #[.val (.ref ob)] [(.ref ob)])) rfl rfl (hb hby d14_18)
  refine Go.st st2 ?_
  show Go p e below s _ _ _ (T2.setTop (mkF m 21 #[.val (.ref ob)] [(.ref na)]))
  refine Go.st (fun _ k' => XS.aloadN X2.here hx rfl (hb hby d14_21) rfl rfl k') ?_
  show Go p e below s _ _ _ (T2.setTop (mkF m 22 #[.val (.ref ob)] [(.ref ob), (.ref na)]))
  obtain ⟨T3, X3, e3, st3⟩ := getF X2 hx hZ hown (host := "") (Or.inl (wdx hw 91 rfl)) Via.refl e2 Fn (g := (mkF m 22 #[.val (.ref ob)] [(.ref ob), (.ref na)])) rfl rfl (hb hby d14_22)
  refine Go.st st3 ?_
  show Go p e below s _ _ _ (T3.setTop (mkF m 25 #[.val (.ref ob)] [(.int (0 : Int32)), (.ref na)]))
  obtain ⟨cl4, Ar4, qc4, Sz4, Nn4, Ha4, Gf4⟩ := id Va
  refine Go.st (fun _ k' => X3.aaload hx (j := (0 : Int32)) (v := (.ref sa)) (by rw [e3]; exact Ar4.1) (State.isArrayOf_alike hZ.alike Ar4.2.1) rfl Ar4.2.2 (inb_of Sz4 ⟨by decide, by decide⟩) (Ha4.at (inb_of Sz4 ⟨by decide, by decide⟩) rfl) (g := (mkF m 25 #[.val (.ref ob)] [(.int (0 : Int32)), (.ref na)])) rfl rfl (hb hby d14_25) _ k') ?_
  show Go p e below s _ _ _ (T3.setTop (mkF m 26 #[.val (.ref ob)] [(.ref sa)]))
  refine Go.ret X3 hx hlk (t := (.object "java/lang/String")) Bd.returns rfl (Or.inr (Or.inr (Or.inr (Or.inr ⟨rfl, rfl, rfl⟩)))) (hb hby d14_26) (by decide) (by decide) e3 ?_
  exact ⟨rfl, N1, rfl⟩
theorem ef_rm13_3_0 (m : MethodId) (ob : Addr) : entryFrame m #[(.ref ob)] 2 = mkF m 0 #[.val (.ref ob), .unset] [] := by first | (simp [entryFrame, mkF, argsToLocals, Value.category]; done) | rfl
def Q13_3_0 (Z : State) (ob : Addr) (na : Addr) (kn : ClassId) (sa : Addr) (sb : Addr) (sc : Addr) (h0 : Heap) (n0 : Nat) (v : Option Value) (h : Heap) (L : List Loc) : Prop := v = some (.ref sa) ∧ Fr n0 L ∧ Keep h0 h [ob] ∧ Fld Z h ob "com/example/reportwire/reportwire/Arguments" "args" "[Ljava/lang/String;" (.ref na) ∧ Fld Z h ob "com/example/reportwire/reportwire/Arguments" "next" "I" (.int (1 : Int32))
set_option maxRecDepth 65536 in
set_option maxHeartbeats 40000000 in
theorem rm13_3_0 (l : Launch) (Z : State) (a0 : Array Value) (hw : ∀ d ∈ tables_1, d.before a0 Z = true) (ws : List Jvm.Cond) (ob : Addr) (na : Addr) (kn : ClassId) (sa : Addr) (sb : Addr) (sc : Addr) (h0 : Heap) (n0 : Nat) (O0 : Old Z n0 h0) (E_o : Exa Z h0 ob "com/example/reportwire/reportwire/Arguments") (Fa : Fld Z h0 ob "com/example/reportwire/reportwire/Arguments" "args" "[Ljava/lang/String;" (.ref na)) (Fn : Fld Z h0 ob "com/example/reportwire/reportwire/Arguments" "next" "I" (.int (0 : Int32))) (Va : Arv Z h0 na kn (.object "java/lang/String") (3 : Int32) [(.ref sa), (.ref sb), (.ref sc)] .null) (g_o : n0 ≤ ob) (ne_on : ob ≠ na) :
    MetFree l (⟨"com/example/reportwire/reportwire/Arguments", "next", "()Ljava/lang/String;"⟩ : MethodName) (head1 (Jvm.Cond.code (⟨"com/example/reportwire/reportwire/Arguments", "next", "()Ljava/lang/String;"⟩ : MethodName) prog_7_method_10_code 2 (some (.object "java/lang/String")) :: ws) ({ frames := 2, cells := 0, slots := 0, locals := 24 } : Room)) (fun ay U => ay = #[(.ref ob)] ∧ Z.Warmed39 U.vm ∧ U.heap = h0) (fun _ _ _ _ _ => True) (fun _ U o U' => ∃ v L, o = .returned v ∧ Q13_3_0 Z ob na kn sa sb sc h0 n0 v U'.heap L ∧ FrameEnd U o U' L ({ frames := 2, cells := 0, slots := 0, locals := 24 } : Room).cells ({ frames := 2, cells := 0, slots := 0, locals := 24 } : Room).slots) := by
  refine MetFree.of_bodySF (plainFor_of_name pn_com_example_reportwire_reportwire_Arguments) hisR ?_
  intro p e s m args below meth c s₁ Bd hml0 hP hK
  obtain ⟨rfl, hZ, hh⟩ := hP
  have hx := Bd.exec
  have hby := Bd.bytes
  have hlk : meth.locks = false := BodyLoose.notSynchronized Bd
  have hml : c.maxLocals = 2 := hml0
  have hown : s.vm.findClass "com/example/reportwire/reportwire/Arguments" = some m.cls := findClass_of_methodNamed Bd.named
  have hnm := (name_of_methodNamed Bd.named Bd.method).1
  have X0 : Stand p l e ({ frames := 2, cells := 0, slots := 0, locals := 24 } : Room) s m #[(.ref ob)] below meth c s₁ [] 0 0 := Stand.of_body Bd
  have e0 : s₁.heap = h0 := by rw [← hh, Bd.state]; rfl
  have N0 := Fr.nil n0
  suffices hgo : Go p e below s 0 0 (Q13_3_0 Z ob na kn sa sb sc h0 n0) (s₁.setTop (mkF m 0 #[.val (.ref ob), .unset] [])) by
    obtain ⟨t, o, h1, h2⟩ := hgo; exact ⟨t, o, castTop (ef_rm13_3_0 m ob) h1, h2⟩
  show Go p e below s _ _ _ (s₁.setTop (mkF m 0 #[.val (.ref ob), .unset] []))
  refine Go.st (fun _ k' => XS.aloadN X0.here hx rfl (hb hby d13_0) rfl rfl k') ?_
  show Go p e below s _ _ _ (s₁.setTop (mkF m 1 #[.val (.ref ob), .unset] [(.ref ob)]))
  obtain ⟨cq1, kq1, q1a, q1b, q1c⟩ := isOf hZ e0 E_o
  obtain ⟨_, _, ⟨T1, L1, k1, n1⟩, -, X1, ⟨Lc1, hQ1, l1, y1, z1⟩, st1⟩ := X0.virtualBack hx (y := (⟨"com/example/reportwire/reportwire/Arguments", "peek", "()Ljava/lang/String;"⟩ : MethodName)) (z := (⟨"com/example/reportwire/reportwire/Arguments", "peek", "()Ljava/lang/String;"⟩ : MethodName)) hown (mvT hZ (wdx hw 98 rfl)) (mvT hZ (wdx hw 99 rfl)) (notFace_of_selects (args := #[]) (mvT hZ (wdx hw 101 rfl))) (mvT hZ (wdx hw 101 rfl)) (mvT hZ (wdx hw 100 rfl)) (by decide) (backOf (W := 0) (rm14_3_0 l Z a0 hw [] ob na kn sa sb sc h0 n0 O0 E_o Fa Fn Va) hZ (wdx hw 102 rfl) (wdx hw 30 rfl) (by decide) (by decide)) q1a q1c (g := (mkF m 1 #[.val (.ref ob), .unset] [(.ref ob)])) rfl (by rw [hml]; rfl) (Steps.refl _) (argsL := []) (rest := []) (lenOf pd___Ljava_lang_String_ rfl) rfl (by show 2 * 0 + _ ≤ _; exact Nat.le_of_eq rfl) (hb hby d13_1) (fun _ _ => ⟨rfl, e0, (by exact Nat.le_of_ble_eq_true rfl), (by exact Nat.le_of_ble_eq_true rfl)⟩)
  dsimp only [Pt.U, Pt.locs, Pt.cells, Pt.slots] at X1 l1 y1 z1 st1 hQ1
  subst l1 y1 z1
  obtain ⟨rfl, Nq1, eq1⟩ := hQ1
  have N1 := Fr.app N0 Nq1
  refine Go.tr st1 ?_
  show Go p e below s _ _ _ (T1.setTop (mkF m 4 #[.val (.ref ob), .unset] [(.ref sa)]))
  refine Go.st (fun _ k' => XS.astoreN X1.here hx rfl (hb hby d13_4) rfl rfl (l' := #[.val (.ref ob), .val (.ref sa)]) rfl k') ?_
  show Go p e below s _ _ _ (T1.setTop (mkF m 5 #[.val (.ref ob), .val (.ref sa)] []))
  refine Go.st (fun _ k' => XS.aloadN X1.here hx rfl (hb hby d13_5) rfl rfl k') ?_
  show Go p e below s _ _ _ (T1.setTop (mkF m 6 #[.val (.ref ob), .val (.ref sa)] [(.ref ob)]))
  refine Go.st (fun _ k' => XS.dup X1.here hx rfl (hb hby d13_6) rfl rfl k') ?_
  show Go p e below s _ _ _ (T1.setTop (mkF m 7 #[.val (.ref ob), .val (.ref sa)] [(.ref ob), (.ref ob)]))
  obtain ⟨T2, X2, e2, st2⟩ := getF X1 hx hZ hown (host := "") (Or.inl (wdx hw 91 rfl)) Via.refl eq1 Fn (g := (mkF m 7 #[.val (.ref ob), .val (.ref sa)] [(.ref ob), (.ref ob)])) rfl rfl (hb hby d13_7)
  refine Go.st st2 ?_
  show Go p e below s _ _ _ (T2.setTop (mkF m 10 #[.val (.ref ob), .val (.ref sa)] [(.int (0 : Int32)), (.ref ob)]))
  refine Go.st (fun _ k' => XS.iconst X2.here hx rfl (hb hby d13_10) k') ?_
  show Go p e below s _ _ _ (T2.setTop (mkF m 11 #[.val (.ref ob), .val (.ref sa)] [(.int (1 : Int32)), (.int (0 : Int32)), (.ref ob)]))
  refine Go.st (fun _ k' => XS.iadd X2.here hx rfl (hb hby d13_11) rfl k') ?_
  show Go p e below s _ _ _ (T2.setTop (mkF m 12 #[.val (.ref ob), .val (.ref sa)] [(.int (1 : Int32)), (.ref ob)]))
  obtain ⟨T3, h3, X3, e3, W3, st3⟩ := putF X2 hx hZ hown (host := "") (Or.inl (wdx hw 91 rfl)) Via.refl e2 Fn E_o (Or.inl (wdx hw 92 rfl)) (wdx hw 29 rfl) (ty := .int) (by decide) rfl rfl (g := (mkF m 12 #[.val (.ref ob), .val (.ref sa)] [(.int (1 : Int32)), (.ref ob)])) rfl rfl (hb hby d13_12)
  refine Go.st st3 ?_
  have f4 : Exa Z h3 ob "com/example/reportwire/reportwire/Arguments" := E_o.wr W3
  have f5 : Fld Z h3 ob "com/example/reportwire/reportwire/Arguments" "args" "[Ljava/lang/String;" (.ref na) := Fa.other W3 (Or.inr (slot_ne (Or.inr (wdx hw 85 rfl)) (Or.inl (wdx hw 92 rfl)) (by decide) (t := (.array (.object "java/lang/String"))) (t' := .int) (by decide) (by decide)))
  have f6 : Fld Z h3 ob "com/example/reportwire/reportwire/Arguments" "next" "I" (.int (1 : Int32)) := Fn.same W3
  have f7 : Arv Z h3 na kn (.object "java/lang/String") (3 : Int32) [(.ref sa), (.ref sb), (.ref sc)] .null := Va.other W3 (Ne.symm ne_on)
  have O3 : Old Z n0 h3 := O0.wr W3 g_o
  have N3 := Fr.snoc X3 N1 g_o
  have K3 : Keep h0 h3 [ob] := (Keep.refl h0 [ob]).wr W3 (Or.inl (by simp))
  show Go p e below s _ _ _ (T3.setTop (mkF m 15 #[.val (.ref ob), .val (.ref sa)] []))
  refine Go.st (fun _ k' => XS.aloadN X3.here hx rfl (hb hby d13_15) rfl rfl k') ?_
  show Go p e below s _ _ _ (T3.setTop (mkF m 16 #[.val (.ref ob), .val (.ref sa)] [(.ref sa)]))
  refine Go.ret X3 hx hlk (t := (.object "java/lang/String")) Bd.returns rfl (Or.inr (Or.inr (Or.inr (Or.inr ⟨rfl, rfl, rfl⟩)))) (hb hby d13_16) (by decide) (by decide) e3 ?_
  exact ⟨rfl, N3, K3, f5, f6⟩
theorem ef_rm12_3_1 (m : MethodId) (ob : Addr) : entryFrame m #[(.ref ob)] 1 = mkF m 0 #[.val (.ref ob)] [] := by first | (simp [entryFrame, mkF, argsToLocals, Value.category]; done) | rfl
def Q12_3_1 (Z : State) (ob : Addr) (na : Addr) (kn : ClassId) (sa : Addr) (sb : Addr) (sc : Addr) (h0 : Heap) (n0 : Nat) (v : Option Value) (h : Heap) (L : List Loc) : Prop := v = some (.int (1 : Int32)) ∧ Fr n0 L ∧ h = h0
set_option maxRecDepth 65536 in
set_option maxHeartbeats 40000000 in
theorem rm12_3_1 (l : Launch) (Z : State) (a0 : Array Value) (hw : ∀ d ∈ tables_1, d.before a0 Z = true) (ws : List Jvm.Cond) (ob : Addr) (na : Addr) (kn : ClassId) (sa : Addr) (sb : Addr) (sc : Addr) (h0 : Heap) (n0 : Nat) (O0 : Old Z n0 h0) (Fa : Fld Z h0 ob "com/example/reportwire/reportwire/Arguments" "args" "[Ljava/lang/String;" (.ref na)) (Fn : Fld Z h0 ob "com/example/reportwire/reportwire/Arguments" "next" "I" (.int (1 : Int32))) (Va : Arv Z h0 na kn (.object "java/lang/String") (3 : Int32) [(.ref sa), (.ref sb), (.ref sc)] .null) :
    MetFree l (⟨"com/example/reportwire/reportwire/Arguments", "hasNext", "()Z"⟩ : MethodName) (head1 (Jvm.Cond.code (⟨"com/example/reportwire/reportwire/Arguments", "hasNext", "()Z"⟩ : MethodName) prog_7_method_7_code 1 (some .boolean) :: ws) ({ frames := 0, cells := 0, slots := 0, locals := 0 } : Room)) (fun ay U => ay = #[(.ref ob)] ∧ Z.Warmed39 U.vm ∧ U.heap = h0) (fun _ _ _ _ _ => True) (fun _ U o U' => ∃ v L, o = .returned v ∧ Q12_3_1 Z ob na kn sa sb sc h0 n0 v U'.heap L ∧ FrameEnd U o U' L ({ frames := 0, cells := 0, slots := 0, locals := 0 } : Room).cells ({ frames := 0, cells := 0, slots := 0, locals := 0 } : Room).slots) := by
  refine MetFree.of_bodySF (plainFor_of_name pn_com_example_reportwire_reportwire_Arguments) hisR ?_
  intro p e s m args below meth c s₁ Bd hml0 hP hK
  obtain ⟨rfl, hZ, hh⟩ := hP
  have hx := Bd.exec
  have hby := Bd.bytes
  have hlk : meth.locks = false := BodyLoose.notSynchronized Bd
  have hml : c.maxLocals = 1 := hml0
  have hown : s.vm.findClass "com/example/reportwire/reportwire/Arguments" = some m.cls := findClass_of_methodNamed Bd.named
  have hnm := (name_of_methodNamed Bd.named Bd.method).1
  have X0 : Stand p l e ({ frames := 0, cells := 0, slots := 0, locals := 0 } : Room) s m #[(.ref ob)] below meth c s₁ [] 0 0 := Stand.of_body Bd
  have e0 : s₁.heap = h0 := by rw [← hh, Bd.state]; rfl
  have N0 := Fr.nil n0
  suffices hgo : Go p e below s 0 0 (Q12_3_1 Z ob na kn sa sb sc h0 n0) (s₁.setTop (mkF m 0 #[.val (.ref ob)] [])) by
    obtain ⟨t, o, h1, h2⟩ := hgo; exact ⟨t, o, castTop (ef_rm12_3_1 m ob) h1, h2⟩
  show Go p e below s _ _ _ (s₁.setTop (mkF m 0 #[.val (.ref ob)] []))
  refine Go.st (fun _ k' => XS.aloadN X0.here hx rfl (hb hby d12_0) rfl rfl k') ?_
  show Go p e below s _ _ _ (s₁.setTop (mkF m 1 #[.val (.ref ob)] [(.ref ob)]))
  obtain ⟨T1, X1, e1, st1⟩ := getF X0 hx hZ hown (host := "") (Or.inl (wdx hw 91 rfl)) Via.refl e0 Fn (g := (mkF m 1 #[.val (.ref ob)] [(.ref ob)])) rfl rfl (hb hby d12_1)
  refine Go.st st1 ?_
  show Go p e below s _ _ _ (T1.setTop (mkF m 4 #[.val (.ref ob)] [(.int (1 : Int32))]))
  refine Go.st (fun _ k' => XS.aloadN X1.here hx rfl (hb hby d12_4) rfl rfl k') ?_
  show Go p e below s _ _ _ (T1.setTop (mkF m 5 #[.val (.ref ob)] [(.ref ob), (.int (1 : Int32))]))
  obtain ⟨T2, X2, e2, st2⟩ := getF X1 hx hZ hown (host := "") (Or.inl (wdx hw 84 rfl)) Via.refl e1 Fa (g := (mkF m 5 #[.val (.ref ob)] [(.ref ob), (.int (1 : Int32))])) rfl rfl (hb hby d12_5)
  refine Go.st st2 ?_
  show Go p e below s _ _ _ (T2.setTop (mkF m 8 #[.val (.ref ob)] [(.ref na), (.int (1 : Int32))]))
  obtain ⟨cl3, Ar3, qc3, Sz3, Nn3, Ha3, Gf3⟩ := id Va
  refine Go.st (fun _ k' => X2.arraylength hx (by rw [e2]; exact Ar3.1) (State.isArrayOf_alike hZ.alike Ar3.2.1) (g := (mkF m 8 #[.val (.ref ob)] [(.ref na), (.int (1 : Int32))])) rfl rfl (hb hby d12_8) _ k') ?_
  rw [len_of Sz3 Nn3]
  show Go p e below s _ _ _ (T2.setTop (mkF m 9 #[.val (.ref ob)] [(.int (3 : Int32)), (.int (1 : Int32))]))
  refine Go.st (fun _ k' => XS.icmpNo X2.here hx rfl (hb hby d12_9) rfl (XT.ii_ge_f (by decide)) k') ?_
  show Go p e below s _ _ _ (T2.setTop (mkF m 12 #[.val (.ref ob)] []))
  refine Go.st (fun _ k' => XS.iconst X2.here hx rfl (hb hby d12_12) k') ?_
  show Go p e below s _ _ _ (T2.setTop (mkF m 13 #[.val (.ref ob)] [(.int (1 : Int32))]))
  refine Go.st (fun _ k' => XS.goto X2.here hx rfl (pc0 := 13) (pc' := 17) rfl (hb hby d12_13) (by decide) (by decide) k') ?_
  show Go p e below s _ _ _ (T2.setTop (mkF m 17 #[.val (.ref ob)] [(.int (1 : Int32))]))
  refine Go.retB X2 hx hlk (t := .boolean) Bd.returns (by simp) (hb hby d12_17) (by decide) (by decide) e2 ?_
  exact ⟨rfl, N0, rfl⟩
theorem ef_rm14_3_1 (m : MethodId) (ob : Addr) : entryFrame m #[(.ref ob)] 1 = mkF m 0 #[.val (.ref ob)] [] := by first | (simp [entryFrame, mkF, argsToLocals, Value.category]; done) | rfl
def Q14_3_1 (Z : State) (ob : Addr) (na : Addr) (kn : ClassId) (sa : Addr) (sb : Addr) (sc : Addr) (h0 : Heap) (n0 : Nat) (v : Option Value) (h : Heap) (L : List Loc) : Prop := v = some (.ref sb) ∧ Fr n0 L ∧ h = h0
set_option maxRecDepth 65536 in
set_option maxHeartbeats 40000000 in
theorem rm14_3_1 (l : Launch) (Z : State) (a0 : Array Value) (hw : ∀ d ∈ tables_1, d.before a0 Z = true) (ws : List Jvm.Cond) (ob : Addr) (na : Addr) (kn : ClassId) (sa : Addr) (sb : Addr) (sc : Addr) (h0 : Heap) (n0 : Nat) (O0 : Old Z n0 h0) (E_o : Exa Z h0 ob "com/example/reportwire/reportwire/Arguments") (Fa : Fld Z h0 ob "com/example/reportwire/reportwire/Arguments" "args" "[Ljava/lang/String;" (.ref na)) (Fn : Fld Z h0 ob "com/example/reportwire/reportwire/Arguments" "next" "I" (.int (1 : Int32))) (Va : Arv Z h0 na kn (.object "java/lang/String") (3 : Int32) [(.ref sa), (.ref sb), (.ref sc)] .null) :
    MetFree l (⟨"com/example/reportwire/reportwire/Arguments", "peek", "()Ljava/lang/String;"⟩ : MethodName) (head1 (Jvm.Cond.code (⟨"com/example/reportwire/reportwire/Arguments", "peek", "()Ljava/lang/String;"⟩ : MethodName) prog_7_method_9_code 1 (some (.object "java/lang/String")) :: ws) ({ frames := 1, cells := 0, slots := 0, locals := 12 } : Room)) (fun ay U => ay = #[(.ref ob)] ∧ Z.Warmed39 U.vm ∧ U.heap = h0) (fun _ _ _ _ _ => True) (fun _ U o U' => ∃ v L, o = .returned v ∧ Q14_3_1 Z ob na kn sa sb sc h0 n0 v U'.heap L ∧ FrameEnd U o U' L ({ frames := 1, cells := 0, slots := 0, locals := 12 } : Room).cells ({ frames := 1, cells := 0, slots := 0, locals := 12 } : Room).slots) := by
  refine MetFree.of_bodySF (plainFor_of_name pn_com_example_reportwire_reportwire_Arguments) hisR ?_
  intro p e s m args below meth c s₁ Bd hml0 hP hK
  obtain ⟨rfl, hZ, hh⟩ := hP
  have hx := Bd.exec
  have hby := Bd.bytes
  have hlk : meth.locks = false := BodyLoose.notSynchronized Bd
  have hml : c.maxLocals = 1 := hml0
  have hown : s.vm.findClass "com/example/reportwire/reportwire/Arguments" = some m.cls := findClass_of_methodNamed Bd.named
  have hnm := (name_of_methodNamed Bd.named Bd.method).1
  have X0 : Stand p l e ({ frames := 1, cells := 0, slots := 0, locals := 12 } : Room) s m #[(.ref ob)] below meth c s₁ [] 0 0 := Stand.of_body Bd
  have e0 : s₁.heap = h0 := by rw [← hh, Bd.state]; rfl
  have N0 := Fr.nil n0
  suffices hgo : Go p e below s 0 0 (Q14_3_1 Z ob na kn sa sb sc h0 n0) (s₁.setTop (mkF m 0 #[.val (.ref ob)] [])) by
    obtain ⟨t, o, h1, h2⟩ := hgo; exact ⟨t, o, castTop (ef_rm14_3_1 m ob) h1, h2⟩
  show Go p e below s _ _ _ (s₁.setTop (mkF m 0 #[.val (.ref ob)] []))
  refine Go.st (fun _ k' => XS.aloadN X0.here hx rfl (hb hby d14_0) rfl rfl k') ?_
  show Go p e below s _ _ _ (s₁.setTop (mkF m 1 #[.val (.ref ob)] [(.ref ob)]))
  obtain ⟨cq1, kq1, q1a, q1b, q1c⟩ := isOf hZ e0 E_o
  obtain ⟨_, _, ⟨T1, L1, k1, n1⟩, -, X1, ⟨Lc1, hQ1, l1, y1, z1⟩, st1⟩ := X0.virtualBack hx (y := (⟨"com/example/reportwire/reportwire/Arguments", "hasNext", "()Z"⟩ : MethodName)) (z := (⟨"com/example/reportwire/reportwire/Arguments", "hasNext", "()Z"⟩ : MethodName)) hown (mvT hZ (wdx hw 103 rfl)) (mvT hZ (wdx hw 87 rfl)) (notFace_of_selects (args := #[]) (mvT hZ (wdx hw 89 rfl))) (mvT hZ (wdx hw 89 rfl)) (mvT hZ (wdx hw 88 rfl)) (by decide) (backOf (W := 0) (rm12_3_1 l Z a0 hw [] ob na kn sa sb sc h0 n0 O0 Fa Fn Va) hZ (wdx hw 90 rfl) (wdx hw 30 rfl) (by decide) (by decide)) q1a q1c (g := (mkF m 1 #[.val (.ref ob)] [(.ref ob)])) rfl (by rw [hml]; rfl) (Steps.refl _) (argsL := []) (rest := []) (lenOf pd___Z rfl) rfl (by show 2 * 0 + _ ≤ _; exact Nat.le_of_eq rfl) (hb hby d14_1) (fun _ _ => ⟨rfl, e0, (by exact Nat.le_of_ble_eq_true rfl), (by exact Nat.le_of_ble_eq_true rfl)⟩)
  dsimp only [Pt.U, Pt.locs, Pt.cells, Pt.slots] at X1 l1 y1 z1 st1 hQ1
  subst l1 y1 z1
  obtain ⟨rfl, Nq1, eq1⟩ := hQ1
  have N1 := Fr.app N0 Nq1
  refine Go.tr st1 ?_
  show Go p e below s _ _ _ (T1.setTop (mkF m 4 #[.val (.ref ob)] [(.int (1 : Int32))]))
  refine Go.st (fun _ k' => XS.ifYes X1.here hx rfl (pc0 := 4) (pc' := 17) rfl (hb hby d14_4) rfl (XT.i0_ne_t (by decide)) (by decide) (by decide) k') ?_
  show Go p e below s _ _ _ (T1.setTop (mkF m 17 #[.val (.ref ob)] []))
  refine Go.st (fun _ k' => XS.aloadN X1.here hx rfl (hb hby d14_17) rfl rfl k') ?_
  show Go p e below s _ _ _ (T1.setTop (mkF m 18 #[.val (.ref ob)] [(.ref ob)]))
  obtain ⟨T2, X2, e2, st2⟩ := getF X1 hx hZ hown (host := "") (Or.inl (wdx hw 84 rfl)) Via.refl eq1 Fa (g := (mkF m 18 #[.val (.ref ob)] [(.ref ob)])) rfl rfl (hb hby d14_18)
  refine Go.st st2 ?_
  show Go p e below s _ _ _ (T2.setTop (mkF m 21 #[.val (.ref ob)] [(.ref na)]))
  refine Go.st (fun _ k' => XS.aloadN X2.here hx rfl (hb hby d14_21) rfl rfl k') ?_
  show Go p e below s _ _ _ (T2.setTop (mkF m 22 #[.val (.ref ob)] [(.ref ob), (.ref na)]))
  obtain ⟨T3, X3, e3, st3⟩ := getF X2 hx hZ hown (host := "") (Or.inl (wdx hw 91 rfl)) Via.refl e2 Fn (g := (mkF m 22 #[.val (.ref ob)] [(.ref ob), (.ref na)])) rfl rfl (hb hby d14_22)
  refine Go.st st3 ?_
  show Go p e below s _ _ _ (T3.setTop (mkF m 25 #[.val (.ref ob)] [(.int (1 : Int32)), (.ref na)]))
  obtain ⟨cl4, Ar4, qc4, Sz4, Nn4, Ha4, Gf4⟩ := id Va
  refine Go.st (fun _ k' => X3.aaload hx (j := (1 : Int32)) (v := (.ref sb)) (by rw [e3]; exact Ar4.1) (State.isArrayOf_alike hZ.alike Ar4.2.1) rfl Ar4.2.2 (inb_of Sz4 ⟨by decide, by decide⟩) (Ha4.at (inb_of Sz4 ⟨by decide, by decide⟩) rfl) (g := (mkF m 25 #[.val (.ref ob)] [(.int (1 : Int32)), (.ref na)])) rfl rfl (hb hby d14_25) _ k') ?_
  show Go p e below s _ _ _ (T3.setTop (mkF m 26 #[.val (.ref ob)] [(.ref sb)]))
  refine Go.ret X3 hx hlk (t := (.object "java/lang/String")) Bd.returns rfl (Or.inr (Or.inr (Or.inr (Or.inr ⟨rfl, rfl, rfl⟩)))) (hb hby d14_26) (by decide) (by decide) e3 ?_
  exact ⟨rfl, N1, rfl⟩
theorem ef_rm13_3_1 (m : MethodId) (ob : Addr) : entryFrame m #[(.ref ob)] 2 = mkF m 0 #[.val (.ref ob), .unset] [] := by first | (simp [entryFrame, mkF, argsToLocals, Value.category]; done) | rfl
def Q13_3_1 (Z : State) (ob : Addr) (na : Addr) (kn : ClassId) (sa : Addr) (sb : Addr) (sc : Addr) (h0 : Heap) (n0 : Nat) (v : Option Value) (h : Heap) (L : List Loc) : Prop := v = some (.ref sb) ∧ Fr n0 L ∧ Keep h0 h [ob] ∧ Fld Z h ob "com/example/reportwire/reportwire/Arguments" "args" "[Ljava/lang/String;" (.ref na) ∧ Fld Z h ob "com/example/reportwire/reportwire/Arguments" "next" "I" (.int (2 : Int32))
set_option maxRecDepth 65536 in
set_option maxHeartbeats 40000000 in
theorem rm13_3_1 (l : Launch) (Z : State) (a0 : Array Value) (hw : ∀ d ∈ tables_1, d.before a0 Z = true) (ws : List Jvm.Cond) (ob : Addr) (na : Addr) (kn : ClassId) (sa : Addr) (sb : Addr) (sc : Addr) (h0 : Heap) (n0 : Nat) (O0 : Old Z n0 h0) (E_o : Exa Z h0 ob "com/example/reportwire/reportwire/Arguments") (Fa : Fld Z h0 ob "com/example/reportwire/reportwire/Arguments" "args" "[Ljava/lang/String;" (.ref na)) (Fn : Fld Z h0 ob "com/example/reportwire/reportwire/Arguments" "next" "I" (.int (1 : Int32))) (Va : Arv Z h0 na kn (.object "java/lang/String") (3 : Int32) [(.ref sa), (.ref sb), (.ref sc)] .null) (g_o : n0 ≤ ob) (ne_on : ob ≠ na) :
    MetFree l (⟨"com/example/reportwire/reportwire/Arguments", "next", "()Ljava/lang/String;"⟩ : MethodName) (head1 (Jvm.Cond.code (⟨"com/example/reportwire/reportwire/Arguments", "next", "()Ljava/lang/String;"⟩ : MethodName) prog_7_method_10_code 2 (some (.object "java/lang/String")) :: ws) ({ frames := 2, cells := 0, slots := 0, locals := 24 } : Room)) (fun ay U => ay = #[(.ref ob)] ∧ Z.Warmed39 U.vm ∧ U.heap = h0) (fun _ _ _ _ _ => True) (fun _ U o U' => ∃ v L, o = .returned v ∧ Q13_3_1 Z ob na kn sa sb sc h0 n0 v U'.heap L ∧ FrameEnd U o U' L ({ frames := 2, cells := 0, slots := 0, locals := 24 } : Room).cells ({ frames := 2, cells := 0, slots := 0, locals := 24 } : Room).slots) := by
  refine MetFree.of_bodySF (plainFor_of_name pn_com_example_reportwire_reportwire_Arguments) hisR ?_
  intro p e s m args below meth c s₁ Bd hml0 hP hK
  obtain ⟨rfl, hZ, hh⟩ := hP
  have hx := Bd.exec
  have hby := Bd.bytes
  have hlk : meth.locks = false := BodyLoose.notSynchronized Bd
  have hml : c.maxLocals = 2 := hml0
  have hown : s.vm.findClass "com/example/reportwire/reportwire/Arguments" = some m.cls := findClass_of_methodNamed Bd.named
  have hnm := (name_of_methodNamed Bd.named Bd.method).1
  have X0 : Stand p l e ({ frames := 2, cells := 0, slots := 0, locals := 24 } : Room) s m #[(.ref ob)] below meth c s₁ [] 0 0 := Stand.of_body Bd
  have e0 : s₁.heap = h0 := by rw [← hh, Bd.state]; rfl
  have N0 := Fr.nil n0
  suffices hgo : Go p e below s 0 0 (Q13_3_1 Z ob na kn sa sb sc h0 n0) (s₁.setTop (mkF m 0 #[.val (.ref ob), .unset] [])) by
    obtain ⟨t, o, h1, h2⟩ := hgo; exact ⟨t, o, castTop (ef_rm13_3_1 m ob) h1, h2⟩
  show Go p e below s _ _ _ (s₁.setTop (mkF m 0 #[.val (.ref ob), .unset] []))
  refine Go.st (fun _ k' => XS.aloadN X0.here hx rfl (hb hby d13_0) rfl rfl k') ?_
  show Go p e below s _ _ _ (s₁.setTop (mkF m 1 #[.val (.ref ob), .unset] [(.ref ob)]))
  obtain ⟨cq1, kq1, q1a, q1b, q1c⟩ := isOf hZ e0 E_o
  obtain ⟨_, _, ⟨T1, L1, k1, n1⟩, -, X1, ⟨Lc1, hQ1, l1, y1, z1⟩, st1⟩ := X0.virtualBack hx (y := (⟨"com/example/reportwire/reportwire/Arguments", "peek", "()Ljava/lang/String;"⟩ : MethodName)) (z := (⟨"com/example/reportwire/reportwire/Arguments", "peek", "()Ljava/lang/String;"⟩ : MethodName)) hown (mvT hZ (wdx hw 98 rfl)) (mvT hZ (wdx hw 99 rfl)) (notFace_of_selects (args := #[]) (mvT hZ (wdx hw 101 rfl))) (mvT hZ (wdx hw 101 rfl)) (mvT hZ (wdx hw 100 rfl)) (by decide) (backOf (W := 0) (rm14_3_1 l Z a0 hw [] ob na kn sa sb sc h0 n0 O0 E_o Fa Fn Va) hZ (wdx hw 102 rfl) (wdx hw 30 rfl) (by decide) (by decide)) q1a q1c (g := (mkF m 1 #[.val (.ref ob), .unset] [(.ref ob)])) rfl (by rw [hml]; rfl) (Steps.refl _) (argsL := []) (rest := []) (lenOf pd___Ljava_lang_String_ rfl) rfl (by show 2 * 0 + _ ≤ _; exact Nat.le_of_eq rfl) (hb hby d13_1) (fun _ _ => ⟨rfl, e0, (by exact Nat.le_of_ble_eq_true rfl), (by exact Nat.le_of_ble_eq_true rfl)⟩)
  dsimp only [Pt.U, Pt.locs, Pt.cells, Pt.slots] at X1 l1 y1 z1 st1 hQ1
  subst l1 y1 z1
  obtain ⟨rfl, Nq1, eq1⟩ := hQ1
  have N1 := Fr.app N0 Nq1
  refine Go.tr st1 ?_
  show Go p e below s _ _ _ (T1.setTop (mkF m 4 #[.val (.ref ob), .unset] [(.ref sb)]))
  refine Go.st (fun _ k' => XS.astoreN X1.here hx rfl (hb hby d13_4) rfl rfl (l' := #[.val (.ref ob), .val (.ref sb)]) rfl k') ?_
  show Go p e below s _ _ _ (T1.setTop (mkF m 5 #[.val (.ref ob), .val (.ref sb)] []))
  refine Go.st (fun _ k' => XS.aloadN X1.here hx rfl (hb hby d13_5) rfl rfl k') ?_
  show Go p e below s _ _ _ (T1.setTop (mkF m 6 #[.val (.ref ob), .val (.ref sb)] [(.ref ob)]))
  refine Go.st (fun _ k' => XS.dup X1.here hx rfl (hb hby d13_6) rfl rfl k') ?_
  show Go p e below s _ _ _ (T1.setTop (mkF m 7 #[.val (.ref ob), .val (.ref sb)] [(.ref ob), (.ref ob)]))
  obtain ⟨T2, X2, e2, st2⟩ := getF X1 hx hZ hown (host := "") (Or.inl (wdx hw 91 rfl)) Via.refl eq1 Fn (g := (mkF m 7 #[.val (.ref ob), .val (.ref sb)] [(.ref ob), (.ref ob)])) rfl rfl (hb hby d13_7)
  refine Go.st st2 ?_
  show Go p e below s _ _ _ (T2.setTop (mkF m 10 #[.val (.ref ob), .val (.ref sb)] [(.int (1 : Int32)), (.ref ob)]))
  refine Go.st (fun _ k' => XS.iconst X2.here hx rfl (hb hby d13_10) k') ?_
  show Go p e below s _ _ _ (T2.setTop (mkF m 11 #[.val (.ref ob), .val (.ref sb)] [(.int (1 : Int32)), (.int (1 : Int32)), (.ref ob)]))
  refine Go.st (fun _ k' => XS.iadd X2.here hx rfl (hb hby d13_11) rfl k') ?_
  show Go p e below s _ _ _ (T2.setTop (mkF m 12 #[.val (.ref ob), .val (.ref sb)] [(.int (2 : Int32)), (.ref ob)]))
  obtain ⟨T3, h3, X3, e3, W3, st3⟩ := putF X2 hx hZ hown (host := "") (Or.inl (wdx hw 91 rfl)) Via.refl e2 Fn E_o (Or.inl (wdx hw 92 rfl)) (wdx hw 29 rfl) (ty := .int) (by decide) rfl rfl (g := (mkF m 12 #[.val (.ref ob), .val (.ref sb)] [(.int (2 : Int32)), (.ref ob)])) rfl rfl (hb hby d13_12)
  refine Go.st st3 ?_
  have f4 : Exa Z h3 ob "com/example/reportwire/reportwire/Arguments" := E_o.wr W3
  have f5 : Fld Z h3 ob "com/example/reportwire/reportwire/Arguments" "args" "[Ljava/lang/String;" (.ref na) := Fa.other W3 (Or.inr (slot_ne (Or.inr (wdx hw 85 rfl)) (Or.inl (wdx hw 92 rfl)) (by decide) (t := (.array (.object "java/lang/String"))) (t' := .int) (by decide) (by decide)))
  have f6 : Fld Z h3 ob "com/example/reportwire/reportwire/Arguments" "next" "I" (.int (2 : Int32)) := Fn.same W3
  have f7 : Arv Z h3 na kn (.object "java/lang/String") (3 : Int32) [(.ref sa), (.ref sb), (.ref sc)] .null := Va.other W3 (Ne.symm ne_on)
  have O3 : Old Z n0 h3 := O0.wr W3 g_o
  have N3 := Fr.snoc X3 N1 g_o
  have K3 : Keep h0 h3 [ob] := (Keep.refl h0 [ob]).wr W3 (Or.inl (by simp))
  show Go p e below s _ _ _ (T3.setTop (mkF m 15 #[.val (.ref ob), .val (.ref sb)] []))
  refine Go.st (fun _ k' => XS.aloadN X3.here hx rfl (hb hby d13_15) rfl rfl k') ?_
  show Go p e below s _ _ _ (T3.setTop (mkF m 16 #[.val (.ref ob), .val (.ref sb)] [(.ref sb)]))
  refine Go.ret X3 hx hlk (t := (.object "java/lang/String")) Bd.returns rfl (Or.inr (Or.inr (Or.inr (Or.inr ⟨rfl, rfl, rfl⟩)))) (hb hby d13_16) (by decide) (by decide) e3 ?_
  exact ⟨rfl, N3, K3, f5, f6⟩
theorem ef_rm12_3_2 (m : MethodId) (ob : Addr) : entryFrame m #[(.ref ob)] 1 = mkF m 0 #[.val (.ref ob)] [] := by first | (simp [entryFrame, mkF, argsToLocals, Value.category]; done) | rfl
def Q12_3_2 (Z : State) (ob : Addr) (na : Addr) (kn : ClassId) (sa : Addr) (sb : Addr) (sc : Addr) (h0 : Heap) (n0 : Nat) (v : Option Value) (h : Heap) (L : List Loc) : Prop := v = some (.int (1 : Int32)) ∧ Fr n0 L ∧ h = h0
set_option maxRecDepth 65536 in
set_option maxHeartbeats 40000000 in
theorem rm12_3_2 (l : Launch) (Z : State) (a0 : Array Value) (hw : ∀ d ∈ tables_1, d.before a0 Z = true) (ws : List Jvm.Cond) (ob : Addr) (na : Addr) (kn : ClassId) (sa : Addr) (sb : Addr) (sc : Addr) (h0 : Heap) (n0 : Nat) (O0 : Old Z n0 h0) (Fa : Fld Z h0 ob "com/example/reportwire/reportwire/Arguments" "args" "[Ljava/lang/String;" (.ref na)) (Fn : Fld Z h0 ob "com/example/reportwire/reportwire/Arguments" "next" "I" (.int (2 : Int32))) (Va : Arv Z h0 na kn (.object "java/lang/String") (3 : Int32) [(.ref sa), (.ref sb), (.ref sc)] .null) :
    MetFree l (⟨"com/example/reportwire/reportwire/Arguments", "hasNext", "()Z"⟩ : MethodName) (head1 (Jvm.Cond.code (⟨"com/example/reportwire/reportwire/Arguments", "hasNext", "()Z"⟩ : MethodName) prog_7_method_7_code 1 (some .boolean) :: ws) ({ frames := 0, cells := 0, slots := 0, locals := 0 } : Room)) (fun ay U => ay = #[(.ref ob)] ∧ Z.Warmed39 U.vm ∧ U.heap = h0) (fun _ _ _ _ _ => True) (fun _ U o U' => ∃ v L, o = .returned v ∧ Q12_3_2 Z ob na kn sa sb sc h0 n0 v U'.heap L ∧ FrameEnd U o U' L ({ frames := 0, cells := 0, slots := 0, locals := 0 } : Room).cells ({ frames := 0, cells := 0, slots := 0, locals := 0 } : Room).slots) := by
  refine MetFree.of_bodySF (plainFor_of_name pn_com_example_reportwire_reportwire_Arguments) hisR ?_
  intro p e s m args below meth c s₁ Bd hml0 hP hK
  obtain ⟨rfl, hZ, hh⟩ := hP
  have hx := Bd.exec
  have hby := Bd.bytes
  have hlk : meth.locks = false := BodyLoose.notSynchronized Bd
  have hml : c.maxLocals = 1 := hml0
  have hown : s.vm.findClass "com/example/reportwire/reportwire/Arguments" = some m.cls := findClass_of_methodNamed Bd.named
  have hnm := (name_of_methodNamed Bd.named Bd.method).1
  have X0 : Stand p l e ({ frames := 0, cells := 0, slots := 0, locals := 0 } : Room) s m #[(.ref ob)] below meth c s₁ [] 0 0 := Stand.of_body Bd
  have e0 : s₁.heap = h0 := by rw [← hh, Bd.state]; rfl
  have N0 := Fr.nil n0
  suffices hgo : Go p e below s 0 0 (Q12_3_2 Z ob na kn sa sb sc h0 n0) (s₁.setTop (mkF m 0 #[.val (.ref ob)] [])) by
    obtain ⟨t, o, h1, h2⟩ := hgo; exact ⟨t, o, castTop (ef_rm12_3_2 m ob) h1, h2⟩
  show Go p e below s _ _ _ (s₁.setTop (mkF m 0 #[.val (.ref ob)] []))
  refine Go.st (fun _ k' => XS.aloadN X0.here hx rfl (hb hby d12_0) rfl rfl k') ?_
  show Go p e below s _ _ _ (s₁.setTop (mkF m 1 #[.val (.ref ob)] [(.ref ob)]))
  obtain ⟨T1, X1, e1, st1⟩ := getF X0 hx hZ hown (host := "") (Or.inl (wdx hw 91 rfl)) Via.refl e0 Fn (g := (mkF m 1 #[.val (.ref ob)] [(.ref ob)])) rfl rfl (hb hby d12_1)
  refine Go.st st1 ?_
  show Go p e below s _ _ _ (T1.setTop (mkF m 4 #[.val (.ref ob)] [(.int (2 : Int32))]))
  refine Go.st (fun _ k' => XS.aloadN X1.here hx rfl (hb hby d12_4) rfl rfl k') ?_
  show Go p e below s _ _ _ (T1.setTop (mkF m 5 #[.val (.ref ob)] [(.ref ob), (.int (2 : Int32))]))
  obtain ⟨T2, X2, e2, st2⟩ := getF X1 hx hZ hown (host := "") (Or.inl (wdx hw 84 rfl)) Via.refl e1 Fa (g := (mkF m 5 #[.val (.ref ob)] [(.ref ob), (.int (2 : Int32))])) rfl rfl (hb hby d12_5)
  refine Go.st st2 ?_
  show Go p e below s _ _ _ (T2.setTop (mkF m 8 #[.val (.ref ob)] [(.ref na), (.int (2 : Int32))]))
  obtain ⟨cl3, Ar3, qc3, Sz3, Nn3, Ha3, Gf3⟩ := id Va
  refine Go.st (fun _ k' => X2.arraylength hx (by rw [e2]; exact Ar3.1) (State.isArrayOf_alike hZ.alike Ar3.2.1) (g := (mkF m 8 #[.val (.ref ob)] [(.ref na), (.int (2 : Int32))])) rfl rfl (hb hby d12_8) _ k') ?_
  rw [len_of Sz3 Nn3]
  show Go p e below s _ _ _ (T2.setTop (mkF m 9 #[.val (.ref ob)] [(.int (3 : Int32)), (.int (2 : Int32))]))
  refine Go.st (fun _ k' => XS.icmpNo X2.here hx rfl (hb hby d12_9) rfl (XT.ii_ge_f (by decide)) k') ?_
  show Go p e below s _ _ _ (T2.setTop (mkF m 12 #[.val (.ref ob)] []))
  refine Go.st (fun _ k' => XS.iconst X2.here hx rfl (hb hby d12_12) k') ?_
  show Go p e below s _ _ _ (T2.setTop (mkF m 13 #[.val (.ref ob)] [(.int (1 : Int32))]))
  refine Go.st (fun _ k' => XS.goto X2.here hx rfl (pc0 := 13) (pc' := 17) rfl (hb hby d12_13) (by decide) (by decide) k') ?_
  show Go p e below s _ _ _ (T2.setTop (mkF m 17 #[.val (.ref ob)] [(.int (1 : Int32))]))
  refine Go.retB X2 hx hlk (t := .boolean) Bd.returns (by simp) (hb hby d12_17) (by decide) (by decide) e2 ?_
  exact ⟨rfl, N0, rfl⟩
theorem ef_rm14_3_2 (m : MethodId) (ob : Addr) : entryFrame m #[(.ref ob)] 1 = mkF m 0 #[.val (.ref ob)] [] := by first | (simp [entryFrame, mkF, argsToLocals, Value.category]; done) | rfl
def Q14_3_2 (Z : State) (ob : Addr) (na : Addr) (kn : ClassId) (sa : Addr) (sb : Addr) (sc : Addr) (h0 : Heap) (n0 : Nat) (v : Option Value) (h : Heap) (L : List Loc) : Prop := v = some (.ref sc) ∧ Fr n0 L ∧ h = h0
set_option maxRecDepth 65536 in
set_option maxHeartbeats 40000000 in
theorem rm14_3_2 (l : Launch) (Z : State) (a0 : Array Value) (hw : ∀ d ∈ tables_1, d.before a0 Z = true) (ws : List Jvm.Cond) (ob : Addr) (na : Addr) (kn : ClassId) (sa : Addr) (sb : Addr) (sc : Addr) (h0 : Heap) (n0 : Nat) (O0 : Old Z n0 h0) (E_o : Exa Z h0 ob "com/example/reportwire/reportwire/Arguments") (Fa : Fld Z h0 ob "com/example/reportwire/reportwire/Arguments" "args" "[Ljava/lang/String;" (.ref na)) (Fn : Fld Z h0 ob "com/example/reportwire/reportwire/Arguments" "next" "I" (.int (2 : Int32))) (Va : Arv Z h0 na kn (.object "java/lang/String") (3 : Int32) [(.ref sa), (.ref sb), (.ref sc)] .null) :
    MetFree l (⟨"com/example/reportwire/reportwire/Arguments", "peek", "()Ljava/lang/String;"⟩ : MethodName) (head1 (Jvm.Cond.code (⟨"com/example/reportwire/reportwire/Arguments", "peek", "()Ljava/lang/String;"⟩ : MethodName) prog_7_method_9_code 1 (some (.object "java/lang/String")) :: ws) ({ frames := 1, cells := 0, slots := 0, locals := 12 } : Room)) (fun ay U => ay = #[(.ref ob)] ∧ Z.Warmed39 U.vm ∧ U.heap = h0) (fun _ _ _ _ _ => True) (fun _ U o U' => ∃ v L, o = .returned v ∧ Q14_3_2 Z ob na kn sa sb sc h0 n0 v U'.heap L ∧ FrameEnd U o U' L ({ frames := 1, cells := 0, slots := 0, locals := 12 } : Room).cells ({ frames := 1, cells := 0, slots := 0, locals := 12 } : Room).slots) := by
  refine MetFree.of_bodySF (plainFor_of_name pn_com_example_reportwire_reportwire_Arguments) hisR ?_
  intro p e s m args below meth c s₁ Bd hml0 hP hK
  obtain ⟨rfl, hZ, hh⟩ := hP
  have hx := Bd.exec
  have hby := Bd.bytes
  have hlk : meth.locks = false := BodyLoose.notSynchronized Bd
  have hml : c.maxLocals = 1 := hml0
  have hown : s.vm.findClass "com/example/reportwire/reportwire/Arguments" = some m.cls := findClass_of_methodNamed Bd.named
  have hnm := (name_of_methodNamed Bd.named Bd.method).1
  have X0 : Stand p l e ({ frames := 1, cells := 0, slots := 0, locals := 12 } : Room) s m #[(.ref ob)] below meth c s₁ [] 0 0 := Stand.of_body Bd
  have e0 : s₁.heap = h0 := by rw [← hh, Bd.state]; rfl
  have N0 := Fr.nil n0
  suffices hgo : Go p e below s 0 0 (Q14_3_2 Z ob na kn sa sb sc h0 n0) (s₁.setTop (mkF m 0 #[.val (.ref ob)] [])) by
    obtain ⟨t, o, h1, h2⟩ := hgo; exact ⟨t, o, castTop (ef_rm14_3_2 m ob) h1, h2⟩
  show Go p e below s _ _ _ (s₁.setTop (mkF m 0 #[.val (.ref ob)] []))
  refine Go.st (fun _ k' => XS.aloadN X0.here hx rfl (hb hby d14_0) rfl rfl k') ?_
  show Go p e below s _ _ _ (s₁.setTop (mkF m 1 #[.val (.ref ob)] [(.ref ob)]))
  obtain ⟨cq1, kq1, q1a, q1b, q1c⟩ := isOf hZ e0 E_o
  obtain ⟨_, _, ⟨T1, L1, k1, n1⟩, -, X1, ⟨Lc1, hQ1, l1, y1, z1⟩, st1⟩ := X0.virtualBack hx (y := (⟨"com/example/reportwire/reportwire/Arguments", "hasNext", "()Z"⟩ : MethodName)) (z := (⟨"com/example/reportwire/reportwire/Arguments", "hasNext", "()Z"⟩ : MethodName)) hown (mvT hZ (wdx hw 103 rfl)) (mvT hZ (wdx hw 87 rfl)) (notFace_of_selects (args := #[]) (mvT hZ (wdx hw 89 rfl))) (mvT hZ (wdx hw 89 rfl)) (mvT hZ (wdx hw 88 rfl)) (by decide) (backOf (W := 0) (rm12_3_2 l Z a0 hw [] ob na kn sa sb sc h0 n0 O0 Fa Fn Va) hZ (wdx hw 90 rfl) (wdx hw 30 rfl) (by decide) (by decide)) q1a q1c (g := (mkF m 1 #[.val (.ref ob)] [(.ref ob)])) rfl (by rw [hml]; rfl) (Steps.refl _) (argsL := []) (rest := []) (lenOf pd___Z rfl) rfl (by show 2 * 0 + _ ≤ _; exact Nat.le_of_eq rfl) (hb hby d14_1) (fun _ _ => ⟨rfl, e0, (by exact Nat.le_of_ble_eq_true rfl), (by exact Nat.le_of_ble_eq_true rfl)⟩)
  dsimp only [Pt.U, Pt.locs, Pt.cells, Pt.slots] at X1 l1 y1 z1 st1 hQ1
  subst l1 y1 z1
  obtain ⟨rfl, Nq1, eq1⟩ := hQ1
  have N1 := Fr.app N0 Nq1
  refine Go.tr st1 ?_
  show Go p e below s _ _ _ (T1.setTop (mkF m 4 #[.val (.ref ob)] [(.int (1 : Int32))]))
  refine Go.st (fun _ k' => XS.ifYes X1.here hx rfl (pc0 := 4) (pc' := 17) rfl (hb hby d14_4) rfl (XT.i0_ne_t (by decide)) (by decide) (by decide) k') ?_
  show Go p e below s _ _ _ (T1.setTop (mkF m 17 #[.val (.ref ob)] []))
  refine Go.st (fun _ k' => XS.aloadN X1.here hx rfl (hb hby d14_17) rfl rfl k') ?_
  show Go p e below s _ _ _ (T1.setTop (mkF m 18 #[.val (.ref ob)] [(.ref ob)]))
  obtain ⟨T2, X2, e2, st2⟩ := getF X1 hx hZ hown (host := "") (Or.inl (wdx hw 84 rfl)) Via.refl eq1 Fa (g := (mkF m 18 #[.val (.ref ob)] [(.ref ob)])) rfl rfl (hb hby d14_18)
  refine Go.st st2 ?_
  show Go p e below s _ _ _ (T2.setTop (mkF m 21 #[.val (.ref ob)] [(.ref na)]))
  refine Go.st (fun _ k' => XS.aloadN X2.here hx rfl (hb hby d14_21) rfl rfl k') ?_
  show Go p e below s _ _ _ (T2.setTop (mkF m 22 #[.val (.ref ob)] [(.ref ob), (.ref na)]))
  obtain ⟨T3, X3, e3, st3⟩ := getF X2 hx hZ hown (host := "") (Or.inl (wdx hw 91 rfl)) Via.refl e2 Fn (g := (mkF m 22 #[.val (.ref ob)] [(.ref ob), (.ref na)])) rfl rfl (hb hby d14_22)
  refine Go.st st3 ?_
  show Go p e below s _ _ _ (T3.setTop (mkF m 25 #[.val (.ref ob)] [(.int (2 : Int32)), (.ref na)]))
  obtain ⟨cl4, Ar4, qc4, Sz4, Nn4, Ha4, Gf4⟩ := id Va
  refine Go.st (fun _ k' => X3.aaload hx (j := (2 : Int32)) (v := (.ref sc)) (by rw [e3]; exact Ar4.1) (State.isArrayOf_alike hZ.alike Ar4.2.1) rfl Ar4.2.2 (inb_of Sz4 ⟨by decide, by decide⟩) (Ha4.at (inb_of Sz4 ⟨by decide, by decide⟩) rfl) (g := (mkF m 25 #[.val (.ref ob)] [(.int (2 : Int32)), (.ref na)])) rfl rfl (hb hby d14_25) _ k') ?_
  show Go p e below s _ _ _ (T3.setTop (mkF m 26 #[.val (.ref ob)] [(.ref sc)]))
  refine Go.ret X3 hx hlk (t := (.object "java/lang/String")) Bd.returns rfl (Or.inr (Or.inr (Or.inr (Or.inr ⟨rfl, rfl, rfl⟩)))) (hb hby d14_26) (by decide) (by decide) e3 ?_
  exact ⟨rfl, N1, rfl⟩
theorem ef_rm13_3_2 (m : MethodId) (ob : Addr) : entryFrame m #[(.ref ob)] 2 = mkF m 0 #[.val (.ref ob), .unset] [] := by first | (simp [entryFrame, mkF, argsToLocals, Value.category]; done) | rfl
def Q13_3_2 (Z : State) (ob : Addr) (na : Addr) (kn : ClassId) (sa : Addr) (sb : Addr) (sc : Addr) (h0 : Heap) (n0 : Nat) (v : Option Value) (h : Heap) (L : List Loc) : Prop := v = some (.ref sc) ∧ Fr n0 L ∧ Keep h0 h [ob] ∧ Fld Z h ob "com/example/reportwire/reportwire/Arguments" "args" "[Ljava/lang/String;" (.ref na) ∧ Fld Z h ob "com/example/reportwire/reportwire/Arguments" "next" "I" (.int (3 : Int32))
set_option maxRecDepth 65536 in
set_option maxHeartbeats 40000000 in
theorem rm13_3_2 (l : Launch) (Z : State) (a0 : Array Value) (hw : ∀ d ∈ tables_1, d.before a0 Z = true) (ws : List Jvm.Cond) (ob : Addr) (na : Addr) (kn : ClassId) (sa : Addr) (sb : Addr) (sc : Addr) (h0 : Heap) (n0 : Nat) (O0 : Old Z n0 h0) (E_o : Exa Z h0 ob "com/example/reportwire/reportwire/Arguments") (Fa : Fld Z h0 ob "com/example/reportwire/reportwire/Arguments" "args" "[Ljava/lang/String;" (.ref na)) (Fn : Fld Z h0 ob "com/example/reportwire/reportwire/Arguments" "next" "I" (.int (2 : Int32))) (Va : Arv Z h0 na kn (.object "java/lang/String") (3 : Int32) [(.ref sa), (.ref sb), (.ref sc)] .null) (g_o : n0 ≤ ob) (ne_on : ob ≠ na) :
    MetFree l (⟨"com/example/reportwire/reportwire/Arguments", "next", "()Ljava/lang/String;"⟩ : MethodName) (head1 (Jvm.Cond.code (⟨"com/example/reportwire/reportwire/Arguments", "next", "()Ljava/lang/String;"⟩ : MethodName) prog_7_method_10_code 2 (some (.object "java/lang/String")) :: ws) ({ frames := 2, cells := 0, slots := 0, locals := 24 } : Room)) (fun ay U => ay = #[(.ref ob)] ∧ Z.Warmed39 U.vm ∧ U.heap = h0) (fun _ _ _ _ _ => True) (fun _ U o U' => ∃ v L, o = .returned v ∧ Q13_3_2 Z ob na kn sa sb sc h0 n0 v U'.heap L ∧ FrameEnd U o U' L ({ frames := 2, cells := 0, slots := 0, locals := 24 } : Room).cells ({ frames := 2, cells := 0, slots := 0, locals := 24 } : Room).slots) := by
  refine MetFree.of_bodySF (plainFor_of_name pn_com_example_reportwire_reportwire_Arguments) hisR ?_
  intro p e s m args below meth c s₁ Bd hml0 hP hK
  obtain ⟨rfl, hZ, hh⟩ := hP
  have hx := Bd.exec
  have hby := Bd.bytes
  have hlk : meth.locks = false := BodyLoose.notSynchronized Bd
  have hml : c.maxLocals = 2 := hml0
  have hown : s.vm.findClass "com/example/reportwire/reportwire/Arguments" = some m.cls := findClass_of_methodNamed Bd.named
  have hnm := (name_of_methodNamed Bd.named Bd.method).1
  have X0 : Stand p l e ({ frames := 2, cells := 0, slots := 0, locals := 24 } : Room) s m #[(.ref ob)] below meth c s₁ [] 0 0 := Stand.of_body Bd
  have e0 : s₁.heap = h0 := by rw [← hh, Bd.state]; rfl
  have N0 := Fr.nil n0
  suffices hgo : Go p e below s 0 0 (Q13_3_2 Z ob na kn sa sb sc h0 n0) (s₁.setTop (mkF m 0 #[.val (.ref ob), .unset] [])) by
    obtain ⟨t, o, h1, h2⟩ := hgo; exact ⟨t, o, castTop (ef_rm13_3_2 m ob) h1, h2⟩
  show Go p e below s _ _ _ (s₁.setTop (mkF m 0 #[.val (.ref ob), .unset] []))
  refine Go.st (fun _ k' => XS.aloadN X0.here hx rfl (hb hby d13_0) rfl rfl k') ?_
  show Go p e below s _ _ _ (s₁.setTop (mkF m 1 #[.val (.ref ob), .unset] [(.ref ob)]))
  obtain ⟨cq1, kq1, q1a, q1b, q1c⟩ := isOf hZ e0 E_o
  obtain ⟨_, _, ⟨T1, L1, k1, n1⟩, -, X1, ⟨Lc1, hQ1, l1, y1, z1⟩, st1⟩ := X0.virtualBack hx (y := (⟨"com/example/reportwire/reportwire/Arguments", "peek", "()Ljava/lang/String;"⟩ : MethodName)) (z := (⟨"com/example/reportwire/reportwire/Arguments", "peek", "()Ljava/lang/String;"⟩ : MethodName)) hown (mvT hZ (wdx hw 98 rfl)) (mvT hZ (wdx hw 99 rfl)) (notFace_of_selects (args := #[]) (mvT hZ (wdx hw 101 rfl))) (mvT hZ (wdx hw 101 rfl)) (mvT hZ (wdx hw 100 rfl)) (by decide) (backOf (W := 0) (rm14_3_2 l Z a0 hw [] ob na kn sa sb sc h0 n0 O0 E_o Fa Fn Va) hZ (wdx hw 102 rfl) (wdx hw 30 rfl) (by decide) (by decide)) q1a q1c (g := (mkF m 1 #[.val (.ref ob), .unset] [(.ref ob)])) rfl (by rw [hml]; rfl) (Steps.refl _) (argsL := []) (rest := []) (lenOf pd___Ljava_lang_String_ rfl) rfl (by show 2 * 0 + _ ≤ _; exact Nat.le_of_eq rfl) (hb hby d13_1) (fun _ _ => ⟨rfl, e0, (by exact Nat.le_of_ble_eq_true rfl), (by exact Nat.le_of_ble_eq_true rfl)⟩)
  dsimp only [Pt.U, Pt.locs, Pt.cells, Pt.slots] at X1 l1 y1 z1 st1 hQ1
  subst l1 y1 z1
  obtain ⟨rfl, Nq1, eq1⟩ := hQ1
  have N1 := Fr.app N0 Nq1
  refine Go.tr st1 ?_
  show Go p e below s _ _ _ (T1.setTop (mkF m 4 #[.val (.ref ob), .unset] [(.ref sc)]))
  refine Go.st (fun _ k' => XS.astoreN X1.here hx rfl (hb hby d13_4) rfl rfl (l' := #[.val (.ref ob), .val (.ref sc)]) rfl k') ?_
  show Go p e below s _ _ _ (T1.setTop (mkF m 5 #[.val (.ref ob), .val (.ref sc)] []))
  refine Go.st (fun _ k' => XS.aloadN X1.here hx rfl (hb hby d13_5) rfl rfl k') ?_
  show Go p e below s _ _ _ (T1.setTop (mkF m 6 #[.val (.ref ob), .val (.ref sc)] [(.ref ob)]))
  refine Go.st (fun _ k' => XS.dup X1.here hx rfl (hb hby d13_6) rfl rfl k') ?_
  show Go p e below s _ _ _ (T1.setTop (mkF m 7 #[.val (.ref ob), .val (.ref sc)] [(.ref ob), (.ref ob)]))
  obtain ⟨T2, X2, e2, st2⟩ := getF X1 hx hZ hown (host := "") (Or.inl (wdx hw 91 rfl)) Via.refl eq1 Fn (g := (mkF m 7 #[.val (.ref ob), .val (.ref sc)] [(.ref ob), (.ref ob)])) rfl rfl (hb hby d13_7)
  refine Go.st st2 ?_
  show Go p e below s _ _ _ (T2.setTop (mkF m 10 #[.val (.ref ob), .val (.ref sc)] [(.int (2 : Int32)), (.ref ob)]))
  refine Go.st (fun _ k' => XS.iconst X2.here hx rfl (hb hby d13_10) k') ?_
  show Go p e below s _ _ _ (T2.setTop (mkF m 11 #[.val (.ref ob), .val (.ref sc)] [(.int (1 : Int32)), (.int (2 : Int32)), (.ref ob)]))
  refine Go.st (fun _ k' => XS.iadd X2.here hx rfl (hb hby d13_11) rfl k') ?_
  show Go p e below s _ _ _ (T2.setTop (mkF m 12 #[.val (.ref ob), .val (.ref sc)] [(.int (3 : Int32)), (.ref ob)]))
  obtain ⟨T3, h3, X3, e3, W3, st3⟩ := putF X2 hx hZ hown (host := "") (Or.inl (wdx hw 91 rfl)) Via.refl e2 Fn E_o (Or.inl (wdx hw 92 rfl)) (wdx hw 29 rfl) (ty := .int) (by decide) rfl rfl (g := (mkF m 12 #[.val (.ref ob), .val (.ref sc)] [(.int (3 : Int32)), (.ref ob)])) rfl rfl (hb hby d13_12)
  refine Go.st st3 ?_
  have f4 : Exa Z h3 ob "com/example/reportwire/reportwire/Arguments" := E_o.wr W3
  have f5 : Fld Z h3 ob "com/example/reportwire/reportwire/Arguments" "args" "[Ljava/lang/String;" (.ref na) := Fa.other W3 (Or.inr (slot_ne (Or.inr (wdx hw 85 rfl)) (Or.inl (wdx hw 92 rfl)) (by decide) (t := (.array (.object "java/lang/String"))) (t' := .int) (by decide) (by decide)))
  have f6 : Fld Z h3 ob "com/example/reportwire/reportwire/Arguments" "next" "I" (.int (3 : Int32)) := Fn.same W3
  have f7 : Arv Z h3 na kn (.object "java/lang/String") (3 : Int32) [(.ref sa), (.ref sb), (.ref sc)] .null := Va.other W3 (Ne.symm ne_on)
  have O3 : Old Z n0 h3 := O0.wr W3 g_o
  have N3 := Fr.snoc X3 N1 g_o
  have K3 : Keep h0 h3 [ob] := (Keep.refl h0 [ob]).wr W3 (Or.inl (by simp))
  show Go p e below s _ _ _ (T3.setTop (mkF m 15 #[.val (.ref ob), .val (.ref sc)] []))
  refine Go.st (fun _ k' => XS.aloadN X3.here hx rfl (hb hby d13_15) rfl rfl k') ?_
  show Go p e below s _ _ _ (T3.setTop (mkF m 16 #[.val (.ref ob), .val (.ref sc)] [(.ref sc)]))
  refine Go.ret X3 hx hlk (t := (.object "java/lang/String")) Bd.returns rfl (Or.inr (Or.inr (Or.inr (Or.inr ⟨rfl, rfl, rfl⟩)))) (hb hby d13_16) (by decide) (by decide) e3 ?_
  exact ⟨rfl, N3, K3, f5, f6⟩
theorem ef_rm12_3_3 (m : MethodId) (ob : Addr) : entryFrame m #[(.ref ob)] 1 = mkF m 0 #[.val (.ref ob)] [] := by first | (simp [entryFrame, mkF, argsToLocals, Value.category]; done) | rfl
def Q12_3_3 (Z : State) (ob : Addr) (na : Addr) (kn : ClassId) (sa : Addr) (sb : Addr) (sc : Addr) (h0 : Heap) (n0 : Nat) (v : Option Value) (h : Heap) (L : List Loc) : Prop := v = some (.int (0 : Int32)) ∧ Fr n0 L ∧ h = h0
set_option maxRecDepth 65536 in
set_option maxHeartbeats 40000000 in
theorem rm12_3_3 (l : Launch) (Z : State) (a0 : Array Value) (hw : ∀ d ∈ tables_1, d.before a0 Z = true) (ws : List Jvm.Cond) (ob : Addr) (na : Addr) (kn : ClassId) (sa : Addr) (sb : Addr) (sc : Addr) (h0 : Heap) (n0 : Nat) (O0 : Old Z n0 h0) (Fa : Fld Z h0 ob "com/example/reportwire/reportwire/Arguments" "args" "[Ljava/lang/String;" (.ref na)) (Fn : Fld Z h0 ob "com/example/reportwire/reportwire/Arguments" "next" "I" (.int (3 : Int32))) (Va : Arv Z h0 na kn (.object "java/lang/String") (3 : Int32) [(.ref sa), (.ref sb), (.ref sc)] .null) :
    MetFree l (⟨"com/example/reportwire/reportwire/Arguments", "hasNext", "()Z"⟩ : MethodName) (head1 (Jvm.Cond.code (⟨"com/example/reportwire/reportwire/Arguments", "hasNext", "()Z"⟩ : MethodName) prog_7_method_7_code 1 (some .boolean) :: ws) ({ frames := 0, cells := 0, slots := 0, locals := 0 } : Room)) (fun ay U => ay = #[(.ref ob)] ∧ Z.Warmed39 U.vm ∧ U.heap = h0) (fun _ _ _ _ _ => True) (fun _ U o U' => ∃ v L, o = .returned v ∧ Q12_3_3 Z ob na kn sa sb sc h0 n0 v U'.heap L ∧ FrameEnd U o U' L ({ frames := 0, cells := 0, slots := 0, locals := 0 } : Room).cells ({ frames := 0, cells := 0, slots := 0, locals := 0 } : Room).slots) := by
  refine MetFree.of_bodySF (plainFor_of_name pn_com_example_reportwire_reportwire_Arguments) hisR ?_
  intro p e s m args below meth c s₁ Bd hml0 hP hK
  obtain ⟨rfl, hZ, hh⟩ := hP
  have hx := Bd.exec
  have hby := Bd.bytes
  have hlk : meth.locks = false := BodyLoose.notSynchronized Bd
  have hml : c.maxLocals = 1 := hml0
  have hown : s.vm.findClass "com/example/reportwire/reportwire/Arguments" = some m.cls := findClass_of_methodNamed Bd.named
  have hnm := (name_of_methodNamed Bd.named Bd.method).1
  have X0 : Stand p l e ({ frames := 0, cells := 0, slots := 0, locals := 0 } : Room) s m #[(.ref ob)] below meth c s₁ [] 0 0 := Stand.of_body Bd
  have e0 : s₁.heap = h0 := by rw [← hh, Bd.state]; rfl
  have N0 := Fr.nil n0
  suffices hgo : Go p e below s 0 0 (Q12_3_3 Z ob na kn sa sb sc h0 n0) (s₁.setTop (mkF m 0 #[.val (.ref ob)] [])) by
    obtain ⟨t, o, h1, h2⟩ := hgo; exact ⟨t, o, castTop (ef_rm12_3_3 m ob) h1, h2⟩
  show Go p e below s _ _ _ (s₁.setTop (mkF m 0 #[.val (.ref ob)] []))
  refine Go.st (fun _ k' => XS.aloadN X0.here hx rfl (hb hby d12_0) rfl rfl k') ?_
  show Go p e below s _ _ _ (s₁.setTop (mkF m 1 #[.val (.ref ob)] [(.ref ob)]))
  obtain ⟨T1, X1, e1, st1⟩ := getF X0 hx hZ hown (host := "") (Or.inl (wdx hw 91 rfl)) Via.refl e0 Fn (g := (mkF m 1 #[.val (.ref ob)] [(.ref ob)])) rfl rfl (hb hby d12_1)
  refine Go.st st1 ?_
  show Go p e below s _ _ _ (T1.setTop (mkF m 4 #[.val (.ref ob)] [(.int (3 : Int32))]))
  refine Go.st (fun _ k' => XS.aloadN X1.here hx rfl (hb hby d12_4) rfl rfl k') ?_
  show Go p e below s _ _ _ (T1.setTop (mkF m 5 #[.val (.ref ob)] [(.ref ob), (.int (3 : Int32))]))
  obtain ⟨T2, X2, e2, st2⟩ := getF X1 hx hZ hown (host := "") (Or.inl (wdx hw 84 rfl)) Via.refl e1 Fa (g := (mkF m 5 #[.val (.ref ob)] [(.ref ob), (.int (3 : Int32))])) rfl rfl (hb hby d12_5)
  refine Go.st st2 ?_
  show Go p e below s _ _ _ (T2.setTop (mkF m 8 #[.val (.ref ob)] [(.ref na), (.int (3 : Int32))]))
  obtain ⟨cl3, Ar3, qc3, Sz3, Nn3, Ha3, Gf3⟩ := id Va
  refine Go.st (fun _ k' => X2.arraylength hx (by rw [e2]; exact Ar3.1) (State.isArrayOf_alike hZ.alike Ar3.2.1) (g := (mkF m 8 #[.val (.ref ob)] [(.ref na), (.int (3 : Int32))])) rfl rfl (hb hby d12_8) _ k') ?_
  rw [len_of Sz3 Nn3]
  show Go p e below s _ _ _ (T2.setTop (mkF m 9 #[.val (.ref ob)] [(.int (3 : Int32)), (.int (3 : Int32))]))
  refine Go.st (fun _ k' => XS.icmpYes X2.here hx rfl (pc0 := 9) (pc' := 16) rfl (hb hby d12_9) rfl (XT.ii_ge_t (by decide)) (by decide) (by decide) k') ?_
  show Go p e below s _ _ _ (T2.setTop (mkF m 16 #[.val (.ref ob)] []))
  refine Go.st (fun _ k' => XS.iconst X2.here hx rfl (hb hby d12_16) k') ?_
  show Go p e below s _ _ _ (T2.setTop (mkF m 17 #[.val (.ref ob)] [(.int (0 : Int32))]))
  refine Go.retB X2 hx hlk (t := .boolean) Bd.returns (by simp) (hb hby d12_17) (by decide) (by decide) e2 ?_
  exact ⟨rfl, N0, rfl⟩
theorem d15_0 : decode jdk_42_method_66_code 0 = .ok (.aload_n 0, 1) := by decide +kernel
theorem d15_1 : decode jdk_42_method_66_code 1 = .ok (.aload_n 1, 1) := by decide +kernel
theorem d15_2 : decode jdk_42_method_66_code 2 = .ok (.if_acmp .ne 5, 3) := by decide +kernel
theorem d15_5 : decode jdk_42_method_66_code 5 = .ok (.iconst 1, 1) := by decide +kernel
theorem d15_6 : decode jdk_42_method_66_code 6 = .ok (.ireturn, 1) := by decide +kernel
theorem ef_rm15 (m : MethodId) (ob : Addr) : entryFrame m #[(.ref ob), (.ref ob)] 3 = mkF m 0 #[.val (.ref ob), .val (.ref ob), .unset] [] := by first | (simp [entryFrame, mkF, argsToLocals, Value.category]; done) | rfl
def Q15 (Z : State) (ob : Addr) (h0 : Heap) (n0 : Nat) (v : Option Value) (h : Heap) (L : List Loc) : Prop := v = some (.int (1 : Int32)) ∧ Fr n0 L ∧ h = h0
set_option maxRecDepth 65536 in
set_option maxHeartbeats 40000000 in
theorem rm15 (l : Launch) (Z : State) (a0 : Array Value) (hw : ∀ d ∈ tables_1, d.before a0 Z = true) (ws : List Jvm.Cond) (ob : Addr) (h0 : Heap) (n0 : Nat) (O0 : Old Z n0 h0) :
    MetFree l (⟨"java/lang/String", "equals", "(Ljava/lang/Object;)Z"⟩ : MethodName) (head1 (Jvm.Cond.code (⟨"java/lang/String", "equals", "(Ljava/lang/Object;)Z"⟩ : MethodName) jdk_42_method_66_code 3 (some .boolean) :: ws) ({ frames := 0, cells := 0, slots := 0, locals := 0 } : Room)) (fun ay U => ay = #[(.ref ob), (.ref ob)] ∧ Z.Warmed39 U.vm ∧ U.heap = h0) (fun _ _ _ _ _ => True) (fun _ U o U' => ∃ v L, o = .returned v ∧ Q15 Z ob h0 n0 v U'.heap L ∧ FrameEnd U o U' L ({ frames := 0, cells := 0, slots := 0, locals := 0 } : Room).cells ({ frames := 0, cells := 0, slots := 0, locals := 0 } : Room).slots) := by
  refine MetFree.of_bodySF (plainFor_of_name pn_java_lang_String) hisR ?_
  intro p e s m args below meth c s₁ Bd hml0 hP hK
  obtain ⟨rfl, hZ, hh⟩ := hP
  have hx := Bd.exec
  have hby := Bd.bytes
  have hlk : meth.locks = false := BodyLoose.notSynchronized Bd
  have hml : c.maxLocals = 3 := hml0
  have hown : s.vm.findClass "java/lang/String" = some m.cls := findClass_of_methodNamed Bd.named
  have hnm := (name_of_methodNamed Bd.named Bd.method).1
  have X0 : Stand p l e ({ frames := 0, cells := 0, slots := 0, locals := 0 } : Room) s m #[(.ref ob), (.ref ob)] below meth c s₁ [] 0 0 := Stand.of_body Bd
  have e0 : s₁.heap = h0 := by rw [← hh, Bd.state]; rfl
  have N0 := Fr.nil n0
  suffices hgo : Go p e below s 0 0 (Q15 Z ob h0 n0) (s₁.setTop (mkF m 0 #[.val (.ref ob), .val (.ref ob), .unset] [])) by
    obtain ⟨t, o, h1, h2⟩ := hgo; exact ⟨t, o, castTop (ef_rm15 m ob) h1, h2⟩
  show Go p e below s _ _ _ (s₁.setTop (mkF m 0 #[.val (.ref ob), .val (.ref ob), .unset] []))
  refine Go.st (fun _ k' => XS.aloadN X0.here hx rfl (hb hby d15_0) rfl rfl k') ?_
  show Go p e below s _ _ _ (s₁.setTop (mkF m 1 #[.val (.ref ob), .val (.ref ob), .unset] [(.ref ob)]))
  refine Go.st (fun _ k' => XS.aloadN X0.here hx rfl (hb hby d15_1) rfl rfl k') ?_
  show Go p e below s _ _ _ (s₁.setTop (mkF m 2 #[.val (.ref ob), .val (.ref ob), .unset] [(.ref ob), (.ref ob)]))
  refine Go.st (fun _ k' => Jvm.RoadKit.acmp (g := (mkF m 2 #[.val (.ref ob), .val (.ref ob), .unset] [(.ref ob), (.ref ob)])) X0 hx rfl rfl rfl (pc0 := 2) (pc' := 5) (same := true) rfl (hb hby d15_2) rfl (decide_eq_true rfl) (by decide) (by decide) k') ?_
  show Go p e below s _ _ _ (s₁.setTop (mkF m 5 #[.val (.ref ob), .val (.ref ob), .unset] []))
  refine Go.st (fun _ k' => XS.iconst X0.here hx rfl (hb hby d15_5) k') ?_
  show Go p e below s _ _ _ (s₁.setTop (mkF m 6 #[.val (.ref ob), .val (.ref ob), .unset] [(.int (1 : Int32))]))
  refine Go.retB X0 hx hlk (t := .boolean) Bd.returns (by simp) (hb hby d15_6) (by decide) (by decide) e0 ?_
  exact ⟨rfl, N0, rfl⟩
theorem pd__C_Ljava_lang_String_ : parseMethodDescriptor "(C)Ljava/lang/String;" = some ⟨[.char], some (.object "java/lang/String")⟩ := by decide +kernel
theorem pd___Ljava_lang_String__V : parseMethodDescriptor "([Ljava/lang/String;)V" = some ⟨[(.array (.object "java/lang/String"))], none⟩ := by decide +kernel
theorem pd__Ljava_lang_Object__Z : parseMethodDescriptor "(Ljava/lang/Object;)Z" = some ⟨[(.object "java/lang/Object")], some .boolean⟩ := by decide +kernel
theorem pn_com_example_reportwire_reportwire_ArgumentsHasNextPinLaw : plainName "com/example/reportwire/reportwire/ArgumentsHasNextPinLaw" = true := by first | (simp [plainName, overriddenIn]; done) | decide +kernel
theorem ef_rm0 (m : MethodId) (size : Int32) (steps : Int32) (chs : Int32) : entryFrame m #[(.int size), (.int steps), (.int chs)] maxLocals = mkF m 0 #[.val (.int size), .val (.int steps), .val (.int chs), .unset, .unset, .unset, .unset, .unset, .unset, .unset, .unset, .unset] [] := by first | (simp [entryFrame, mkF, argsToLocals, Value.category, maxLocals]; done) | rfl
def Q0 (Z : State) (size : Int32) (steps : Int32) (chs : Int32) (cs : Int32) (h0 : Heap) (n0 : Nat) (v : Option Value) (h : Heap) (L : List Loc) : Prop := v = some (.int (1 : Int32)) ∧ Fr n0 L ∧ True
set_option maxRecDepth 65536 in
set_option maxHeartbeats 40000000 in
theorem rm0 (l : Launch) (Z : State) (a0 : Array Value) (hw : ∀ d ∈ tables_1, d.before a0 Z = true) (ws : List Jvm.Cond) (size : Int32) (steps : Int32) (chs : Int32) (cs : Int32) (h0 : Heap) (n0 : Nat) (O0 : Old Z n0 h0) (S_cs : Sta Z Z.heap "java/lang/String" "COMPACT_STRINGS" "Z" (.int cs)) (q_cs : ¬ cs = (0 : Int32)) :
    MetFree l x (head1 (Jvm.Cond.code x code maxLocals ret :: ws) room_1) (fun ay U => ay = #[(.int size), (.int steps), (.int chs)] ∧ Z.Warmed39 U.vm ∧ U.heap = h0) (fun _ _ _ _ _ => True) (fun _ U o U' => ∃ v L, o = .returned v ∧ Q0 Z size steps chs cs h0 n0 v U'.heap L ∧ FrameEnd U o U' L room_1.cells room_1.slots) := by
  refine MetFree.of_bodySF (plainFor_of_name pn_com_example_reportwire_reportwire_ArgumentsHasNextPinLaw) hisR ?_
  intro p e s m args below meth c s₁ Bd hml0 hP hK
  obtain ⟨rfl, hZ, hh⟩ := hP
  have hx := Bd.exec
  have hby := Bd.bytes
  have hlk : meth.locks = false := BodyLoose.notSynchronized Bd
  have hml : c.maxLocals = 12 := hml0
  have hown : s.vm.findClass "com/example/reportwire/reportwire/ArgumentsHasNextPinLaw" = some m.cls := findClass_of_methodNamed Bd.named
  have hnm := (name_of_methodNamed Bd.named Bd.method).1
  have X0 : Stand p l e room_1 s m #[(.int size), (.int steps), (.int chs)] below meth c s₁ [] 0 0 := Stand.of_body Bd
  have e0 : s₁.heap = h0 := by rw [← hh, Bd.state]; rfl
  have N0 := Fr.nil n0
  suffices hgo : Go p e below s 32 192 (Q0 Z size steps chs cs h0 n0) (s₁.setTop (mkF m 0 #[.val (.int size), .val (.int steps), .val (.int chs), .unset, .unset, .unset, .unset, .unset, .unset, .unset, .unset, .unset] [])) by
    obtain ⟨t, o, h1, h2⟩ := hgo; exact ⟨t, o, castTop (ef_rm0 m size steps chs) h1, h2⟩
  show Go p e below s _ _ _ (s₁.setTop (mkF m 0 #[.val (.int size), .val (.int steps), .val (.int chs), .unset, .unset, .unset, .unset, .unset, .unset, .unset, .unset, .unset] []))
  refine Go.st (fun _ k' => XS.iloadN X0.here hx rfl (hb hby at_0) rfl k') ?_
  show Go p e below s _ _ _ (s₁.setTop (mkF m 1 #[.val (.int size), .val (.int steps), .val (.int chs), .unset, .unset, .unset, .unset, .unset, .unset, .unset, .unset, .unset] [(.int size)]))
  refine Go.st (fun _ k' => XS.iconst X0.here hx rfl (hb hby at_1) k') ?_
  show Go p e below s _ _ _ (s₁.setTop (mkF m 2 #[.val (.int size), .val (.int steps), .val (.int chs), .unset, .unset, .unset, .unset, .unset, .unset, .unset, .unset, .unset] [(.int (3 : Int32)), (.int size)]))
  refine Go.st (fun _ k' => XS.iand X0.here hx rfl (hb hby at_2) rfl k') ?_
  show Go p e below s _ _ _ (s₁.setTop (mkF m 3 #[.val (.int size), .val (.int steps), .val (.int chs), .unset, .unset, .unset, .unset, .unset, .unset, .unset, .unset, .unset] [(.int (size &&& (3 : Int32)))]))
  refine Go.st (fun _ k' => XS.istoreN X0.here hx rfl (hb hby at_3) rfl (l' := #[.val (.int size), .val (.int steps), .val (.int chs), .val (.int (size &&& (3 : Int32))), .unset, .unset, .unset, .unset, .unset, .unset, .unset, .unset]) rfl k') ?_
  show Go p e below s _ _ _ (s₁.setTop (mkF m 4 #[.val (.int size), .val (.int steps), .val (.int chs), .val (.int (size &&& (3 : Int32))), .unset, .unset, .unset, .unset, .unset, .unset, .unset, .unset] []))
  refine Go.st (fun _ k' => XS.iloadN X0.here hx rfl (hb hby at_4) rfl k') ?_
  show Go p e below s _ _ _ (s₁.setTop (mkF m 5 #[.val (.int size), .val (.int steps), .val (.int chs), .val (.int (size &&& (3 : Int32))), .unset, .unset, .unset, .unset, .unset, .unset, .unset, .unset] [(.int steps)]))
  refine Go.st (fun _ k' => XS.iconst X0.here hx rfl (hb hby at_5) k') ?_
  show Go p e below s _ _ _ (s₁.setTop (mkF m 6 #[.val (.int size), .val (.int steps), .val (.int chs), .val (.int (size &&& (3 : Int32))), .unset, .unset, .unset, .unset, .unset, .unset, .unset, .unset] [(.int (3 : Int32)), (.int steps)]))
  refine Go.st (fun _ k' => XS.iand X0.here hx rfl (hb hby at_6) rfl k') ?_
  show Go p e below s _ _ _ (s₁.setTop (mkF m 7 #[.val (.int size), .val (.int steps), .val (.int chs), .val (.int (size &&& (3 : Int32))), .unset, .unset, .unset, .unset, .unset, .unset, .unset, .unset] [(.int (steps &&& (3 : Int32)))]))
  refine Go.st (fun _ k' => XS.istore X0.here hx rfl (hb hby at_7) rfl (l' := #[.val (.int size), .val (.int steps), .val (.int chs), .val (.int (size &&& (3 : Int32))), .val (.int (steps &&& (3 : Int32))), .unset, .unset, .unset, .unset, .unset, .unset, .unset]) rfl k') ?_
  show Go p e below s _ _ _ (s₁.setTop (mkF m 9 #[.val (.int size), .val (.int steps), .val (.int chs), .val (.int (size &&& (3 : Int32))), .val (.int (steps &&& (3 : Int32))), .unset, .unset, .unset, .unset, .unset, .unset, .unset] []))
  refine Go.st (fun _ k' => XS.iloadN X0.here hx rfl (hb hby at_9) rfl k') ?_
  show Go p e below s _ _ _ (s₁.setTop (mkF m 10 #[.val (.int size), .val (.int steps), .val (.int chs), .val (.int (size &&& (3 : Int32))), .val (.int (steps &&& (3 : Int32))), .unset, .unset, .unset, .unset, .unset, .unset, .unset] [(.int chs)]))
  refine Go.st (fun _ k' => XS.sipush X0.here hx rfl (hb hby at_10) k') ?_
  show Go p e below s _ _ _ (s₁.setTop (mkF m 13 #[.val (.int size), .val (.int steps), .val (.int chs), .val (.int (size &&& (3 : Int32))), .val (.int (steps &&& (3 : Int32))), .unset, .unset, .unset, .unset, .unset, .unset, .unset] [(.int (255 : Int32)), (.int chs)]))
  refine Go.st (fun _ k' => XS.iand X0.here hx rfl (hb hby at_13) rfl k') ?_
  show Go p e below s _ _ _ (s₁.setTop (mkF m 14 #[.val (.int size), .val (.int steps), .val (.int chs), .val (.int (size &&& (3 : Int32))), .val (.int (steps &&& (3 : Int32))), .unset, .unset, .unset, .unset, .unset, .unset, .unset] [(.int (chs &&& (255 : Int32)))]))
  refine Go.st (fun _ k' => XS.i2c X0.here hx rfl (hb hby at_14) rfl k') ?_
  show Go p e below s _ _ _ (s₁.setTop (mkF m 15 #[.val (.int size), .val (.int steps), .val (.int chs), .val (.int (size &&& (3 : Int32))), .val (.int (steps &&& (3 : Int32))), .unset, .unset, .unset, .unset, .unset, .unset, .unset] [(.int ((chs &&& (255 : Int32)).toUInt32.toUInt16.toUInt32.toInt32))]))
  obtain ⟨_, _, ⟨T1, L1, k1, n1⟩, -, X1, ⟨Lc1, hQ1, l1, y1, z1⟩, st1⟩ := Jvm.LawKit.callS X0 hx (y := (⟨"java/lang/String", "valueOf", "(C)Ljava/lang/String;"⟩ : MethodName)) hown (mvT hZ (wdx hw 0 rfl)) (mvT hZ (wdx hw 1 rfl)) (mvT hZ (wdx hw 2 rfl)) (mvT hZ (wdx hw 3 rfl)) (by decide) (backOf (W := 0) (rm1 l Z a0 hw [] ((chs &&& (255 : Int32)).toUInt32.toUInt16.toUInt32.toInt32) cs h0 n0 O0 S_cs q_cs (own_ch _)) hZ (wdx hw 3 rfl) (wdx hw 2 rfl) (by decide) (by decide)) (g := (mkF m 15 #[.val (.int size), .val (.int steps), .val (.int chs), .val (.int (size &&& (3 : Int32))), .val (.int (steps &&& (3 : Int32))), .unset, .unset, .unset, .unset, .unset, .unset, .unset] [(.int ((chs &&& (255 : Int32)).toUInt32.toUInt16.toUInt32.toInt32))])) rfl (by rw [hml]; rfl) (argsL := [(.int ((chs &&& (255 : Int32)).toUInt32.toUInt16.toUInt32.toInt32))]) (rest := []) (lenOf pd__C_Ljava_lang_String_ rfl) rfl (by show 2 * 0 + _ ≤ _; exact Nat.le_of_eq rfl) (hb hby at_15) (fun _ _ => ⟨rfl, e0, (by exact Nat.le_of_ble_eq_true rfl), (by exact Nat.le_of_ble_eq_true rfl)⟩)
  dsimp only [Pt.U, Pt.locs, Pt.cells, Pt.slots] at X1 l1 y1 z1 st1 hQ1
  subst l1 y1 z1
  obtain ⟨rr_1, rfl, Nq1, Kq1, f2, szr_1⟩ := hQ1
  have N1 := Fr.app N0 Nq1
  refine Go.st st1 ?_
  have O1 : Old Z n0 T1.heap := O0.keep Kq1 all0
  have g_rr_1 : n0 ≤ rr_1 := Nat.le_trans (own_le O0) szr_1
  show Go p e below s _ _ _ (T1.setTop (mkF m 18 #[.val (.int size), .val (.int steps), .val (.int chs), .val (.int (size &&& (3 : Int32))), .val (.int (steps &&& (3 : Int32))), .unset, .unset, .unset, .unset, .unset, .unset, .unset] [(.ref rr_1)]))
  refine Go.st (fun _ k' => XS.astore X1.here hx rfl (hb hby at_18) rfl rfl (l' := #[.val (.int size), .val (.int steps), .val (.int chs), .val (.int (size &&& (3 : Int32))), .val (.int (steps &&& (3 : Int32))), .val (.ref rr_1), .unset, .unset, .unset, .unset, .unset, .unset]) rfl k') ?_
  show Go p e below s _ _ _ (T1.setTop (mkF m 20 #[.val (.int size), .val (.int steps), .val (.int chs), .val (.int (size &&& (3 : Int32))), .val (.int (steps &&& (3 : Int32))), .val (.ref rr_1), .unset, .unset, .unset, .unset, .unset, .unset] []))
  refine Go.st (fun _ k' => XS.iloadN X1.here hx rfl (hb hby at_20) rfl k') ?_
  show Go p e below s _ _ _ (T1.setTop (mkF m 21 #[.val (.int size), .val (.int steps), .val (.int chs), .val (.int (size &&& (3 : Int32))), .val (.int (steps &&& (3 : Int32))), .val (.ref rr_1), .unset, .unset, .unset, .unset, .unset, .unset] [(.int chs)]))
  refine Go.st (fun _ k' => XS.bipush X1.here hx rfl (hb hby at_21) k') ?_
  show Go p e below s _ _ _ (T1.setTop (mkF m 23 #[.val (.int size), .val (.int steps), .val (.int chs), .val (.int (size &&& (3 : Int32))), .val (.int (steps &&& (3 : Int32))), .val (.ref rr_1), .unset, .unset, .unset, .unset, .unset, .unset] [(.int (8 : Int32)), (.int chs)]))
  refine Go.st (fun _ k' => XS.iushr X1.here hx rfl (hb hby at_23) rfl k') ?_
  show Go p e below s _ _ _ (T1.setTop (mkF m 24 #[.val (.int size), .val (.int steps), .val (.int chs), .val (.int (size &&& (3 : Int32))), .val (.int (steps &&& (3 : Int32))), .val (.ref rr_1), .unset, .unset, .unset, .unset, .unset, .unset] [(.int ((chs.toUInt32 >>> ((8 : Int32) &&& 31).toUInt32).toInt32))]))
  refine Go.st (fun _ k' => XS.sipush X1.here hx rfl (hb hby at_24) k') ?_
  show Go p e below s _ _ _ (T1.setTop (mkF m 27 #[.val (.int size), .val (.int steps), .val (.int chs), .val (.int (size &&& (3 : Int32))), .val (.int (steps &&& (3 : Int32))), .val (.ref rr_1), .unset, .unset, .unset, .unset, .unset, .unset] [(.int (255 : Int32)), (.int ((chs.toUInt32 >>> ((8 : Int32) &&& 31).toUInt32).toInt32))]))
  refine Go.st (fun _ k' => XS.iand X1.here hx rfl (hb hby at_27) rfl k') ?_
  show Go p e below s _ _ _ (T1.setTop (mkF m 28 #[.val (.int size), .val (.int steps), .val (.int chs), .val (.int (size &&& (3 : Int32))), .val (.int (steps &&& (3 : Int32))), .val (.ref rr_1), .unset, .unset, .unset, .unset, .unset, .unset] [(.int (((chs.toUInt32 >>> ((8 : Int32) &&& 31).toUInt32).toInt32) &&& (255 : Int32)))]))
  refine Go.st (fun _ k' => XS.i2c X1.here hx rfl (hb hby at_28) rfl k') ?_
  show Go p e below s _ _ _ (T1.setTop (mkF m 29 #[.val (.int size), .val (.int steps), .val (.int chs), .val (.int (size &&& (3 : Int32))), .val (.int (steps &&& (3 : Int32))), .val (.ref rr_1), .unset, .unset, .unset, .unset, .unset, .unset] [(.int ((((chs.toUInt32 >>> ((8 : Int32) &&& 31).toUInt32).toInt32) &&& (255 : Int32)).toUInt32.toUInt16.toUInt32.toInt32))]))
  obtain ⟨_, _, ⟨T3, L3, k3, n3⟩, -, X3, ⟨Lc3, hQ3, l3, y3, z3⟩, st3⟩ := Jvm.LawKit.callS X1 hx (y := (⟨"java/lang/String", "valueOf", "(C)Ljava/lang/String;"⟩ : MethodName)) hown (mvT hZ (wdx hw 0 rfl)) (mvT hZ (wdx hw 1 rfl)) (mvT hZ (wdx hw 2 rfl)) (mvT hZ (wdx hw 3 rfl)) (by decide) (backOf (W := 0) (rm1 l Z a0 hw [] ((((chs.toUInt32 >>> ((8 : Int32) &&& 31).toUInt32).toInt32) &&& (255 : Int32)).toUInt32.toUInt16.toUInt32.toInt32) cs T1.heap n0 O1 S_cs q_cs (own_ch _)) hZ (wdx hw 3 rfl) (wdx hw 2 rfl) (by decide) (by decide)) (g := (mkF m 29 #[.val (.int size), .val (.int steps), .val (.int chs), .val (.int (size &&& (3 : Int32))), .val (.int (steps &&& (3 : Int32))), .val (.ref rr_1), .unset, .unset, .unset, .unset, .unset, .unset] [(.int ((((chs.toUInt32 >>> ((8 : Int32) &&& 31).toUInt32).toInt32) &&& (255 : Int32)).toUInt32.toUInt16.toUInt32.toInt32))])) rfl (by rw [hml]; rfl) (argsL := [(.int ((((chs.toUInt32 >>> ((8 : Int32) &&& 31).toUInt32).toInt32) &&& (255 : Int32)).toUInt32.toUInt16.toUInt32.toInt32))]) (rest := []) (lenOf pd__C_Ljava_lang_String_ rfl) rfl (by show 2 * 0 + _ ≤ _; exact Nat.le_of_eq rfl) (hb hby at_29) (fun _ _ => ⟨rfl, rfl, (by exact Nat.le_of_ble_eq_true rfl), (by exact Nat.le_of_ble_eq_true rfl)⟩)
  dsimp only [Pt.U, Pt.locs, Pt.cells, Pt.slots] at X3 l3 y3 z3 st3 hQ3
  subst l3 y3 z3
  obtain ⟨rr_3, rfl, Nq3, Kq3, f4, szr_3⟩ := hQ3
  have N3 := Fr.app N1 Nq3
  refine Go.st st3 ?_
  have f5 : Exa Z T3.heap rr_1 "java/lang/String" := f2.keep Kq3
  have O3 : Old Z n0 T3.heap := O1.keep Kq3 all0
  have g_rr_3 : n0 ≤ rr_3 := Nat.le_trans (own_le O1) szr_3
  have ne6 : rr_1 ≠ rr_3 := Nat.ne_of_lt (Nat.lt_of_lt_of_le f2.lt szr_3)
  show Go p e below s _ _ _ (T3.setTop (mkF m 32 #[.val (.int size), .val (.int steps), .val (.int chs), .val (.int (size &&& (3 : Int32))), .val (.int (steps &&& (3 : Int32))), .val (.ref rr_1), .unset, .unset, .unset, .unset, .unset, .unset] [(.ref rr_3)]))
  refine Go.st (fun _ k' => XS.astore X3.here hx rfl (hb hby at_32) rfl rfl (l' := #[.val (.int size), .val (.int steps), .val (.int chs), .val (.int (size &&& (3 : Int32))), .val (.int (steps &&& (3 : Int32))), .val (.ref rr_1), .val (.ref rr_3), .unset, .unset, .unset, .unset, .unset]) rfl k') ?_
  show Go p e below s _ _ _ (T3.setTop (mkF m 34 #[.val (.int size), .val (.int steps), .val (.int chs), .val (.int (size &&& (3 : Int32))), .val (.int (steps &&& (3 : Int32))), .val (.ref rr_1), .val (.ref rr_3), .unset, .unset, .unset, .unset, .unset] []))
  refine Go.st (fun _ k' => XS.iloadN X3.here hx rfl (hb hby at_34) rfl k') ?_
  show Go p e below s _ _ _ (T3.setTop (mkF m 35 #[.val (.int size), .val (.int steps), .val (.int chs), .val (.int (size &&& (3 : Int32))), .val (.int (steps &&& (3 : Int32))), .val (.ref rr_1), .val (.ref rr_3), .unset, .unset, .unset, .unset, .unset] [(.int chs)]))
  refine Go.st (fun _ k' => XS.bipush X3.here hx rfl (hb hby at_35) k') ?_
  show Go p e below s _ _ _ (T3.setTop (mkF m 37 #[.val (.int size), .val (.int steps), .val (.int chs), .val (.int (size &&& (3 : Int32))), .val (.int (steps &&& (3 : Int32))), .val (.ref rr_1), .val (.ref rr_3), .unset, .unset, .unset, .unset, .unset] [(.int (16 : Int32)), (.int chs)]))
  refine Go.st (fun _ k' => XS.iushr X3.here hx rfl (hb hby at_37) rfl k') ?_
  show Go p e below s _ _ _ (T3.setTop (mkF m 38 #[.val (.int size), .val (.int steps), .val (.int chs), .val (.int (size &&& (3 : Int32))), .val (.int (steps &&& (3 : Int32))), .val (.ref rr_1), .val (.ref rr_3), .unset, .unset, .unset, .unset, .unset] [(.int ((chs.toUInt32 >>> ((16 : Int32) &&& 31).toUInt32).toInt32))]))
  refine Go.st (fun _ k' => XS.sipush X3.here hx rfl (hb hby at_38) k') ?_
  show Go p e below s _ _ _ (T3.setTop (mkF m 41 #[.val (.int size), .val (.int steps), .val (.int chs), .val (.int (size &&& (3 : Int32))), .val (.int (steps &&& (3 : Int32))), .val (.ref rr_1), .val (.ref rr_3), .unset, .unset, .unset, .unset, .unset] [(.int (255 : Int32)), (.int ((chs.toUInt32 >>> ((16 : Int32) &&& 31).toUInt32).toInt32))]))
  refine Go.st (fun _ k' => XS.iand X3.here hx rfl (hb hby at_41) rfl k') ?_
  show Go p e below s _ _ _ (T3.setTop (mkF m 42 #[.val (.int size), .val (.int steps), .val (.int chs), .val (.int (size &&& (3 : Int32))), .val (.int (steps &&& (3 : Int32))), .val (.ref rr_1), .val (.ref rr_3), .unset, .unset, .unset, .unset, .unset] [(.int (((chs.toUInt32 >>> ((16 : Int32) &&& 31).toUInt32).toInt32) &&& (255 : Int32)))]))
  refine Go.st (fun _ k' => XS.i2c X3.here hx rfl (hb hby at_42) rfl k') ?_
  show Go p e below s _ _ _ (T3.setTop (mkF m 43 #[.val (.int size), .val (.int steps), .val (.int chs), .val (.int (size &&& (3 : Int32))), .val (.int (steps &&& (3 : Int32))), .val (.ref rr_1), .val (.ref rr_3), .unset, .unset, .unset, .unset, .unset] [(.int ((((chs.toUInt32 >>> ((16 : Int32) &&& 31).toUInt32).toInt32) &&& (255 : Int32)).toUInt32.toUInt16.toUInt32.toInt32))]))
  obtain ⟨_, _, ⟨T7, L7, k7, n7⟩, -, X7, ⟨Lc7, hQ7, l7, y7, z7⟩, st7⟩ := Jvm.LawKit.callS X3 hx (y := (⟨"java/lang/String", "valueOf", "(C)Ljava/lang/String;"⟩ : MethodName)) hown (mvT hZ (wdx hw 0 rfl)) (mvT hZ (wdx hw 1 rfl)) (mvT hZ (wdx hw 2 rfl)) (mvT hZ (wdx hw 3 rfl)) (by decide) (backOf (W := 0) (rm1 l Z a0 hw [] ((((chs.toUInt32 >>> ((16 : Int32) &&& 31).toUInt32).toInt32) &&& (255 : Int32)).toUInt32.toUInt16.toUInt32.toInt32) cs T3.heap n0 O3 S_cs q_cs (own_ch _)) hZ (wdx hw 3 rfl) (wdx hw 2 rfl) (by decide) (by decide)) (g := (mkF m 43 #[.val (.int size), .val (.int steps), .val (.int chs), .val (.int (size &&& (3 : Int32))), .val (.int (steps &&& (3 : Int32))), .val (.ref rr_1), .val (.ref rr_3), .unset, .unset, .unset, .unset, .unset] [(.int ((((chs.toUInt32 >>> ((16 : Int32) &&& 31).toUInt32).toInt32) &&& (255 : Int32)).toUInt32.toUInt16.toUInt32.toInt32))])) rfl (by rw [hml]; rfl) (argsL := [(.int ((((chs.toUInt32 >>> ((16 : Int32) &&& 31).toUInt32).toInt32) &&& (255 : Int32)).toUInt32.toUInt16.toUInt32.toInt32))]) (rest := []) (lenOf pd__C_Ljava_lang_String_ rfl) rfl (by show 2 * 0 + _ ≤ _; exact Nat.le_of_eq rfl) (hb hby at_43) (fun _ _ => ⟨rfl, rfl, (by exact Nat.le_of_ble_eq_true rfl), (by exact Nat.le_of_ble_eq_true rfl)⟩)
  dsimp only [Pt.U, Pt.locs, Pt.cells, Pt.slots] at X7 l7 y7 z7 st7 hQ7
  subst l7 y7 z7
  obtain ⟨rr_7, rfl, Nq7, Kq7, f8, szr_7⟩ := hQ7
  have N7 := Fr.app N3 Nq7
  refine Go.st st7 ?_
  have f9 : Exa Z T7.heap rr_1 "java/lang/String" := f5.keep Kq7
  have f10 : Exa Z T7.heap rr_3 "java/lang/String" := f4.keep Kq7
  have O7 : Old Z n0 T7.heap := O3.keep Kq7 all0
  have g_rr_7 : n0 ≤ rr_7 := Nat.le_trans (own_le O3) szr_7
  have ne11 : rr_1 ≠ rr_7 := Nat.ne_of_lt (Nat.lt_of_lt_of_le f5.lt szr_7)
  have ne12 : rr_3 ≠ rr_7 := Nat.ne_of_lt (Nat.lt_of_lt_of_le f4.lt szr_7)
  show Go p e below s _ _ _ (T7.setTop (mkF m 46 #[.val (.int size), .val (.int steps), .val (.int chs), .val (.int (size &&& (3 : Int32))), .val (.int (steps &&& (3 : Int32))), .val (.ref rr_1), .val (.ref rr_3), .unset, .unset, .unset, .unset, .unset] [(.ref rr_7)]))
  refine Go.st (fun _ k' => XS.astore X7.here hx rfl (hb hby at_46) rfl rfl (l' := #[.val (.int size), .val (.int steps), .val (.int chs), .val (.int (size &&& (3 : Int32))), .val (.int (steps &&& (3 : Int32))), .val (.ref rr_1), .val (.ref rr_3), .val (.ref rr_7), .unset, .unset, .unset, .unset]) rfl k') ?_
  show Go p e below s _ _ _ (T7.setTop (mkF m 48 #[.val (.int size), .val (.int steps), .val (.int chs), .val (.int (size &&& (3 : Int32))), .val (.int (steps &&& (3 : Int32))), .val (.ref rr_1), .val (.ref rr_3), .val (.ref rr_7), .unset, .unset, .unset, .unset] []))
  rcases own_c4 size with hi48 | hi48 | hi48 | hi48
  · rw [hi48]
    show Go p e below s _ _ _ (T7.setTop (mkF m 48 #[.val (.int size), .val (.int steps), .val (.int chs), .val (.int (0 : Int32)), .val (.int (steps &&& (3 : Int32))), .val (.ref rr_1), .val (.ref rr_3), .val (.ref rr_7), .unset, .unset, .unset, .unset] []))
    refine Go.st (fun _ k' => XS.iloadN X7.here hx rfl (hb hby at_48) rfl k') ?_
    show Go p e below s _ _ _ (T7.setTop (mkF m 49 #[.val (.int size), .val (.int steps), .val (.int chs), .val (.int (0 : Int32)), .val (.int (steps &&& (3 : Int32))), .val (.ref rr_1), .val (.ref rr_3), .val (.ref rr_7), .unset, .unset, .unset, .unset] [(.int (0 : Int32))]))
    refine Go.st (fun _ k' => XS.ifNo X7.here hx rfl (hb hby at_49) rfl (XT.i0_ne_f (by decide)) k') ?_
    show Go p e below s _ _ _ (T7.setTop (mkF m 52 #[.val (.int size), .val (.int steps), .val (.int chs), .val (.int (0 : Int32)), .val (.int (steps &&& (3 : Int32))), .val (.ref rr_1), .val (.ref rr_3), .val (.ref rr_7), .unset, .unset, .unset, .unset] []))
    refine Go.st (fun _ k' => XS.iconst X7.here hx rfl (hb hby at_52) k') ?_
    show Go p e below s _ _ _ (T7.setTop (mkF m 53 #[.val (.int size), .val (.int steps), .val (.int chs), .val (.int (0 : Int32)), .val (.int (steps &&& (3 : Int32))), .val (.ref rr_1), .val (.ref rr_3), .val (.ref rr_7), .unset, .unset, .unset, .unset] [(.int (0 : Int32))]))
    obtain ⟨T13, h13, k13, X13, e13, E13, A13, Ex13, V13, st13⟩ := newRE X7 hx hZ hown (wdx hw 26 rfl) (wdx hw 27 rfl) rfl (g := (mkF m 53 #[.val (.int size), .val (.int steps), .val (.int chs), .val (.int (0 : Int32)), .val (.int (steps &&& (3 : Int32))), .val (.ref rr_1), .val (.ref rr_3), .val (.ref rr_7), .unset, .unset, .unset, .unset] [(.int (0 : Int32))])) rfl (hb hby at_53) rfl (by decide) (cap := 0) (by decide) (by decide) (by decide) (by decide) (ad := "[Ljava/lang/String;") rfl
    obtain ⟨b13, g13⟩ : ∃ z, z = T7.heap.size := ⟨_, rfl⟩
    rw [← g13] at A13 Ex13 st13
    refine Go.st st13 ?_
    have g_b13 : n0 ≤ b13 := Nat.le_trans (own_le O7) (Nat.le_of_eq g13.symm)
    have ne14 : rr_1 ≠ b13 := Nat.ne_of_lt (Nat.lt_of_lt_of_le f9.lt (Nat.le_of_eq g13.symm))
    have ne15 : rr_3 ≠ b13 := Nat.ne_of_lt (Nat.lt_of_lt_of_le f10.lt (Nat.le_of_eq g13.symm))
    have ne16 : rr_7 ≠ b13 := Nat.ne_of_lt (Nat.lt_of_lt_of_le f8.lt (Nat.le_of_eq g13.symm))
    have f17 : Exa Z h13 rr_1 "java/lang/String" := f9.ext E13
    have f18 : Exa Z h13 rr_3 "java/lang/String" := f10.ext E13
    have f19 : Exa Z h13 rr_7 "java/lang/String" := f8.ext E13
    have O13 : Old Z n0 h13 := O7.ext E13
    have f20 : Arv Z h13 b13 k13 (.object "java/lang/String") (0 : Int32) [] .null := (Arv.new A13 (by decide)).pad (pad_rep [] .null 0)
    show Go p e below s _ _ _ (T13.setTop (mkF m 56 #[.val (.int size), .val (.int steps), .val (.int chs), .val (.int (0 : Int32)), .val (.int (steps &&& (3 : Int32))), .val (.ref rr_1), .val (.ref rr_3), .val (.ref rr_7), .unset, .unset, .unset, .unset] [(.ref b13)]))
    refine Go.st (fun _ k' => XS.astore X13.here hx rfl (hb hby at_56) rfl rfl (l' := #[.val (.int size), .val (.int steps), .val (.int chs), .val (.int (0 : Int32)), .val (.int (steps &&& (3 : Int32))), .val (.ref rr_1), .val (.ref rr_3), .val (.ref rr_7), .val (.ref b13), .unset, .unset, .unset]) rfl k') ?_
    show Go p e below s _ _ _ (T13.setTop (mkF m 58 #[.val (.int size), .val (.int steps), .val (.int chs), .val (.int (0 : Int32)), .val (.int (steps &&& (3 : Int32))), .val (.ref rr_1), .val (.ref rr_3), .val (.ref rr_7), .val (.ref b13), .unset, .unset, .unset] []))
    refine Go.st (fun _ k' => XS.goto X13.here hx rfl (pc0 := 58) (pc' := 125) rfl (hb hby at_58) (by decide) (by decide) k') ?_
    show Go p e below s _ _ _ (T13.setTop (mkF m 125 #[.val (.int size), .val (.int steps), .val (.int chs), .val (.int (0 : Int32)), .val (.int (steps &&& (3 : Int32))), .val (.ref rr_1), .val (.ref rr_3), .val (.ref rr_7), .val (.ref b13), .unset, .unset, .unset] []))
    obtain ⟨T21, h21, X21, e21, E21, A21, D21, -, st21⟩ := newO X13 hx hZ hown (wdx hw 28 rfl) (wdx hw 29 rfl) (wdx hw 30 rfl) e13 (g := (mkF m 125 #[.val (.int size), .val (.int steps), .val (.int chs), .val (.int (0 : Int32)), .val (.int (steps &&& (3 : Int32))), .val (.ref rr_1), .val (.ref rr_3), .val (.ref rr_7), .val (.ref b13), .unset, .unset, .unset] [])) rfl (hb hby at_125) (by decide) (by decide)
    obtain ⟨b21, g21⟩ : ∃ z, z = h13.size := ⟨_, rfl⟩
    rw [← g21] at A21 D21 st21
    refine Go.st st21 ?_
    have g_b21 : n0 ≤ b21 := Nat.le_trans (own_le O13) (Nat.le_of_eq g21.symm)
    have ne22 : rr_1 ≠ b21 := Nat.ne_of_lt (Nat.lt_of_lt_of_le f17.lt (Nat.le_of_eq g21.symm))
    have ne23 : rr_3 ≠ b21 := Nat.ne_of_lt (Nat.lt_of_lt_of_le f18.lt (Nat.le_of_eq g21.symm))
    have ne24 : rr_7 ≠ b21 := Nat.ne_of_lt (Nat.lt_of_lt_of_le f19.lt (Nat.le_of_eq g21.symm))
    have ne25 : b13 ≠ b21 := Nat.ne_of_lt (Nat.lt_of_lt_of_le Ex13.lt (Nat.le_of_eq g21.symm))
    have f26 : Exa Z h21 rr_1 "java/lang/String" := f17.ext E21
    have f27 : Exa Z h21 rr_3 "java/lang/String" := f18.ext E21
    have f28 : Exa Z h21 rr_7 "java/lang/String" := f19.ext E21
    have f29 : Exa Z h21 b13 "[Ljava/lang/String;" := Ex13.ext E21
    have f30 : Arv Z h21 b13 k13 (.object "java/lang/String") (0 : Int32) [] .null := f20.ext E21
    have O21 : Old Z n0 h21 := O13.ext E21
    have f31 : Fld Z h21 b21 "com/example/reportwire/reportwire/Arguments" "optionsGiven" "Ljava/util/Set;" .null := D21 (Or.inr (wdx hw 74 rfl)) (ty := (.object "java/util/Set")) (by decide)
    have f32 : Fld Z h21 b21 "com/example/reportwire/reportwire/Arguments" "args" "[Ljava/lang/String;" .null := D21 (Or.inr (wdx hw 85 rfl)) (ty := (.array (.object "java/lang/String"))) (by decide)
    have f33 : Fld Z h21 b21 "com/example/reportwire/reportwire/Arguments" "next" "I" (.int (0 : Int32)) := D21 (Or.inl (wdx hw 92 rfl)) (ty := .int) (by decide)
    show Go p e below s _ _ _ (T21.setTop (mkF m 128 #[.val (.int size), .val (.int steps), .val (.int chs), .val (.int (0 : Int32)), .val (.int (steps &&& (3 : Int32))), .val (.ref rr_1), .val (.ref rr_3), .val (.ref rr_7), .val (.ref b13), .unset, .unset, .unset] [(.ref b21)]))
    refine Go.st (fun _ k' => XS.dup X21.here hx rfl (hb hby at_128) rfl rfl k') ?_
    show Go p e below s _ _ _ (T21.setTop (mkF m 129 #[.val (.int size), .val (.int steps), .val (.int chs), .val (.int (0 : Int32)), .val (.int (steps &&& (3 : Int32))), .val (.ref rr_1), .val (.ref rr_3), .val (.ref rr_7), .val (.ref b13), .unset, .unset, .unset] [(.ref b21), (.ref b21)]))
    refine Go.st (fun _ k' => XS.aload X21.here hx rfl (hb hby at_129) rfl rfl k') ?_
    show Go p e below s _ _ _ (T21.setTop (mkF m 131 #[.val (.int size), .val (.int steps), .val (.int chs), .val (.int (0 : Int32)), .val (.int (steps &&& (3 : Int32))), .val (.ref rr_1), .val (.ref rr_3), .val (.ref rr_7), .val (.ref b13), .unset, .unset, .unset] [(.ref b13), (.ref b21), (.ref b21)]))
    obtain ⟨_, _, ⟨T34, L34, k34, n34⟩, -, X34, ⟨Lc34, hQ34, l34, y34, z34⟩, st34⟩ := X21.specialBack hx (y := (⟨"com/example/reportwire/reportwire/Arguments", "<init>", "([Ljava/lang/String;)V"⟩ : MethodName)) rfl hown (mvT hZ (wdx hw 31 rfl)) (mvT hZ (wdx hw 32 rfl)) (mvT hZ (wdx hw 33 rfl)) (by decide) (backOf (W := 1) (rm6_0 l Z a0 hw [] b21 b13 k13 h21 n0 O21 A21 f31 f32 f33 f29 f30 g_b21 (Ne.symm ne25)) hZ (wdx hw 33 rfl) (wdx hw 30 rfl) (by decide) (by decide)) (g := (mkF m 131 #[.val (.int size), .val (.int steps), .val (.int chs), .val (.int (0 : Int32)), .val (.int (steps &&& (3 : Int32))), .val (.ref rr_1), .val (.ref rr_3), .val (.ref rr_7), .val (.ref b13), .unset, .unset, .unset] [(.ref b13), (.ref b21), (.ref b21)])) rfl (by rw [hml]; rfl) (Steps.refl _) (a := b21) (argsL := [(.ref b13)]) (rest := [(.ref b21)]) (lenOf pd___Ljava_lang_String__V rfl) rfl (by show 2 * 0 + _ ≤ _; exact Nat.le_of_eq rfl) (hb hby at_131) (fun _ _ => ⟨rfl, e21, (by exact Nat.le_of_ble_eq_true rfl), (by exact Nat.le_of_ble_eq_true rfl)⟩)
    dsimp only [Pt.U, Pt.locs, Pt.cells, Pt.slots] at X34 l34 y34 z34 st34 hQ34
    subst l34 y34 z34
    obtain ⟨na_34, kn_34, rfl, Nq34, Kq34, f35, f36, f37, szn_34⟩ := hQ34
    have N34 := Fr.app N7 Nq34
    refine Go.tr st34 ?_
    have f38 : Exa Z T34.heap rr_1 "java/lang/String" := f26.keep Kq34
    have f39 : Exa Z T34.heap rr_3 "java/lang/String" := f27.keep Kq34
    have f40 : Exa Z T34.heap rr_7 "java/lang/String" := f28.keep Kq34
    have f41 : Exa Z T34.heap b13 "[Ljava/lang/String;" := f29.keep Kq34
    have f42 : Arv Z T34.heap b13 k13 (.object "java/lang/String") (0 : Int32) [] .null := f30.keep Kq34 (ninS ne25 nin0)
    have f43 : Exa Z T34.heap b21 "com/example/reportwire/reportwire/Arguments" := A21.keep Kq34
    have O34 : Old Z n0 T34.heap := O21.keep Kq34 (allS g_b21 all0)
    have g_na_34 : n0 ≤ na_34 := Nat.le_trans (own_le O21) szn_34
    have ne44 : rr_1 ≠ na_34 := Nat.ne_of_lt (Nat.lt_of_lt_of_le f26.lt szn_34)
    have ne45 : rr_3 ≠ na_34 := Nat.ne_of_lt (Nat.lt_of_lt_of_le f27.lt szn_34)
    have ne46 : rr_7 ≠ na_34 := Nat.ne_of_lt (Nat.lt_of_lt_of_le f28.lt szn_34)
    have ne47 : b13 ≠ na_34 := Nat.ne_of_lt (Nat.lt_of_lt_of_le f29.lt szn_34)
    have ne48 : b21 ≠ na_34 := Nat.ne_of_lt (Nat.lt_of_lt_of_le A21.lt szn_34)
    show Go p e below s _ _ _ (T34.setTop (mkF m 134 #[.val (.int size), .val (.int steps), .val (.int chs), .val (.int (0 : Int32)), .val (.int (steps &&& (3 : Int32))), .val (.ref rr_1), .val (.ref rr_3), .val (.ref rr_7), .val (.ref b13), .unset, .unset, .unset] [(.ref b21)]))
    refine Go.st (fun _ k' => XS.astore X34.here hx rfl (hb hby at_134) rfl rfl (l' := #[.val (.int size), .val (.int steps), .val (.int chs), .val (.int (0 : Int32)), .val (.int (steps &&& (3 : Int32))), .val (.ref rr_1), .val (.ref rr_3), .val (.ref rr_7), .val (.ref b13), .val (.ref b21), .unset, .unset]) rfl k') ?_
    show Go p e below s _ _ _ (T34.setTop (mkF m 136 #[.val (.int size), .val (.int steps), .val (.int chs), .val (.int (0 : Int32)), .val (.int (steps &&& (3 : Int32))), .val (.ref rr_1), .val (.ref rr_3), .val (.ref rr_7), .val (.ref b13), .val (.ref b21), .unset, .unset] []))
    refine Go.st (fun _ k' => XS.aload X34.here hx rfl (hb hby at_136) rfl rfl k') ?_
    show Go p e below s _ _ _ (T34.setTop (mkF m 138 #[.val (.int size), .val (.int steps), .val (.int chs), .val (.int (0 : Int32)), .val (.int (steps &&& (3 : Int32))), .val (.ref rr_1), .val (.ref rr_3), .val (.ref rr_7), .val (.ref b13), .val (.ref b21), .unset, .unset] [(.ref b21)]))
    obtain ⟨cq49, kq49, q49a, q49b, q49c⟩ := isOf hZ rfl f43
    obtain ⟨_, _, ⟨T49, L49, k49, n49⟩, -, X49, ⟨Lc49, hQ49, l49, y49, z49⟩, st49⟩ := X34.virtualBack hx (y := (⟨"com/example/reportwire/reportwire/Arguments", "hasNext", "()Z"⟩ : MethodName)) (z := (⟨"com/example/reportwire/reportwire/Arguments", "hasNext", "()Z"⟩ : MethodName)) hown (mvT hZ (wdx hw 86 rfl)) (mvT hZ (wdx hw 87 rfl)) (notFace_of_selects (args := #[]) (mvT hZ (wdx hw 89 rfl))) (mvT hZ (wdx hw 89 rfl)) (mvT hZ (wdx hw 88 rfl)) (by decide) (backOf (W := 0) (rm12_0_0 l Z a0 hw [] b21 na_34 kn_34 T34.heap n0 O34 f35 f36 f37) hZ (wdx hw 90 rfl) (wdx hw 30 rfl) (by decide) (by decide)) q49a q49c (g := (mkF m 138 #[.val (.int size), .val (.int steps), .val (.int chs), .val (.int (0 : Int32)), .val (.int (steps &&& (3 : Int32))), .val (.ref rr_1), .val (.ref rr_3), .val (.ref rr_7), .val (.ref b13), .val (.ref b21), .unset, .unset] [(.ref b21)])) rfl (by rw [hml]; rfl) (Steps.refl _) (argsL := []) (rest := []) (lenOf pd___Z rfl) rfl (by show 2 * 0 + _ ≤ _; exact Nat.le_of_eq rfl) (hb hby at_138) (fun _ _ => ⟨rfl, rfl, (by exact Nat.le_of_ble_eq_true rfl), (by exact Nat.le_of_ble_eq_true rfl)⟩)
    dsimp only [Pt.U, Pt.locs, Pt.cells, Pt.slots] at X49 l49 y49 z49 st49 hQ49
    subst l49 y49 z49
    obtain ⟨rfl, Nq49, eq49⟩ := hQ49
    have N49 := Fr.app N34 Nq49
    refine Go.tr st49 ?_
    show Go p e below s _ _ _ (T49.setTop (mkF m 141 #[.val (.int size), .val (.int steps), .val (.int chs), .val (.int (0 : Int32)), .val (.int (steps &&& (3 : Int32))), .val (.ref rr_1), .val (.ref rr_3), .val (.ref rr_7), .val (.ref b13), .val (.ref b21), .unset, .unset] [(.int (0 : Int32))]))
    refine Go.st (fun _ k' => XS.iloadN X49.here hx rfl (hb hby at_141) rfl k') ?_
    show Go p e below s _ _ _ (T49.setTop (mkF m 142 #[.val (.int size), .val (.int steps), .val (.int chs), .val (.int (0 : Int32)), .val (.int (steps &&& (3 : Int32))), .val (.ref rr_1), .val (.ref rr_3), .val (.ref rr_7), .val (.ref b13), .val (.ref b21), .unset, .unset] [(.int (0 : Int32)), (.int (0 : Int32))]))
    refine Go.st (fun _ k' => XS.ifYes X49.here hx rfl (pc0 := 142) (pc' := 149) rfl (hb hby at_142) rfl (XT.i0_le_t (by decide)) (by decide) (by decide) k') ?_
    show Go p e below s _ _ _ (T49.setTop (mkF m 149 #[.val (.int size), .val (.int steps), .val (.int chs), .val (.int (0 : Int32)), .val (.int (steps &&& (3 : Int32))), .val (.ref rr_1), .val (.ref rr_3), .val (.ref rr_7), .val (.ref b13), .val (.ref b21), .unset, .unset] [(.int (0 : Int32))]))
    refine Go.st (fun _ k' => XS.iconst X49.here hx rfl (hb hby at_149) k') ?_
    show Go p e below s _ _ _ (T49.setTop (mkF m 150 #[.val (.int size), .val (.int steps), .val (.int chs), .val (.int (0 : Int32)), .val (.int (steps &&& (3 : Int32))), .val (.ref rr_1), .val (.ref rr_3), .val (.ref rr_7), .val (.ref b13), .val (.ref b21), .unset, .unset] [(.int (0 : Int32)), (.int (0 : Int32))]))
    refine Go.st (fun _ k' => XS.icmpNo X49.here hx rfl (hb hby at_150) rfl (XT.ii_ne_f (by decide)) k') ?_
    show Go p e below s _ _ _ (T49.setTop (mkF m 153 #[.val (.int size), .val (.int steps), .val (.int chs), .val (.int (0 : Int32)), .val (.int (steps &&& (3 : Int32))), .val (.ref rr_1), .val (.ref rr_3), .val (.ref rr_7), .val (.ref b13), .val (.ref b21), .unset, .unset] []))
    refine Go.st (fun _ k' => XS.iconst X49.here hx rfl (hb hby at_153) k') ?_
    show Go p e below s _ _ _ (T49.setTop (mkF m 154 #[.val (.int size), .val (.int steps), .val (.int chs), .val (.int (0 : Int32)), .val (.int (steps &&& (3 : Int32))), .val (.ref rr_1), .val (.ref rr_3), .val (.ref rr_7), .val (.ref b13), .val (.ref b21), .unset, .unset] [(.int (1 : Int32))]))
    refine Go.st (fun _ k' => XS.goto X49.here hx rfl (pc0 := 154) (pc' := 158) rfl (hb hby at_154) (by decide) (by decide) k') ?_
    show Go p e below s _ _ _ (T49.setTop (mkF m 158 #[.val (.int size), .val (.int steps), .val (.int chs), .val (.int (0 : Int32)), .val (.int (steps &&& (3 : Int32))), .val (.ref rr_1), .val (.ref rr_3), .val (.ref rr_7), .val (.ref b13), .val (.ref b21), .unset, .unset] [(.int (1 : Int32))]))
    refine Go.st (fun _ k' => XS.istore X49.here hx rfl (hb hby at_158) rfl (l' := #[.val (.int size), .val (.int steps), .val (.int chs), .val (.int (0 : Int32)), .val (.int (steps &&& (3 : Int32))), .val (.ref rr_1), .val (.ref rr_3), .val (.ref rr_7), .val (.ref b13), .val (.ref b21), .val (.int (1 : Int32)), .unset]) rfl k') ?_
    show Go p e below s _ _ _ (T49.setTop (mkF m 160 #[.val (.int size), .val (.int steps), .val (.int chs), .val (.int (0 : Int32)), .val (.int (steps &&& (3 : Int32))), .val (.ref rr_1), .val (.ref rr_3), .val (.ref rr_7), .val (.ref b13), .val (.ref b21), .val (.int (1 : Int32)), .unset] []))
    rcases own_c4 steps with hi160 | hi160 | hi160 | hi160
    · rw [hi160]
      show Go p e below s _ _ _ (T49.setTop (mkF m 160 #[.val (.int size), .val (.int steps), .val (.int chs), .val (.int (0 : Int32)), .val (.int (0 : Int32)), .val (.ref rr_1), .val (.ref rr_3), .val (.ref rr_7), .val (.ref b13), .val (.ref b21), .val (.int (1 : Int32)), .unset] []))
      refine Go.st (fun _ k' => XS.iload X49.here hx rfl (hb hby at_160) rfl k') ?_
      show Go p e below s _ _ _ (T49.setTop (mkF m 162 #[.val (.int size), .val (.int steps), .val (.int chs), .val (.int (0 : Int32)), .val (.int (0 : Int32)), .val (.ref rr_1), .val (.ref rr_3), .val (.ref rr_7), .val (.ref b13), .val (.ref b21), .val (.int (1 : Int32)), .unset] [(.int (0 : Int32))]))
      refine Go.st (fun _ k' => XS.iconst X49.here hx rfl (hb hby at_162) k') ?_
      show Go p e below s _ _ _ (T49.setTop (mkF m 163 #[.val (.int size), .val (.int steps), .val (.int chs), .val (.int (0 : Int32)), .val (.int (0 : Int32)), .val (.ref rr_1), .val (.ref rr_3), .val (.ref rr_7), .val (.ref b13), .val (.ref b21), .val (.int (1 : Int32)), .unset] [(.int (1 : Int32)), (.int (0 : Int32))]))
      refine Go.st (fun _ k' => XS.icmpYes X49.here hx rfl (pc0 := 163) (pc' := 230) rfl (hb hby at_163) rfl (XT.ii_lt_t (by decide)) (by decide) (by decide) k') ?_
      show Go p e below s _ _ _ (T49.setTop (mkF m 230 #[.val (.int size), .val (.int steps), .val (.int chs), .val (.int (0 : Int32)), .val (.int (0 : Int32)), .val (.ref rr_1), .val (.ref rr_3), .val (.ref rr_7), .val (.ref b13), .val (.ref b21), .val (.int (1 : Int32)), .unset] []))
      refine Go.st (fun _ k' => XS.iload X49.here hx rfl (hb hby at_230) rfl k') ?_
      show Go p e below s _ _ _ (T49.setTop (mkF m 232 #[.val (.int size), .val (.int steps), .val (.int chs), .val (.int (0 : Int32)), .val (.int (0 : Int32)), .val (.ref rr_1), .val (.ref rr_3), .val (.ref rr_7), .val (.ref b13), .val (.ref b21), .val (.int (1 : Int32)), .unset] [(.int (0 : Int32))]))
      refine Go.st (fun _ k' => XS.iconst X49.here hx rfl (hb hby at_232) k') ?_
      show Go p e below s _ _ _ (T49.setTop (mkF m 233 #[.val (.int size), .val (.int steps), .val (.int chs), .val (.int (0 : Int32)), .val (.int (0 : Int32)), .val (.ref rr_1), .val (.ref rr_3), .val (.ref rr_7), .val (.ref b13), .val (.ref b21), .val (.int (1 : Int32)), .unset] [(.int (2 : Int32)), (.int (0 : Int32))]))
      refine Go.st (fun _ k' => XS.icmpYes X49.here hx rfl (pc0 := 233) (pc' := 300) rfl (hb hby at_233) rfl (XT.ii_lt_t (by decide)) (by decide) (by decide) k') ?_
      show Go p e below s _ _ _ (T49.setTop (mkF m 300 #[.val (.int size), .val (.int steps), .val (.int chs), .val (.int (0 : Int32)), .val (.int (0 : Int32)), .val (.ref rr_1), .val (.ref rr_3), .val (.ref rr_7), .val (.ref b13), .val (.ref b21), .val (.int (1 : Int32)), .unset] []))
      refine Go.st (fun _ k' => XS.iload X49.here hx rfl (hb hby at_300) rfl k') ?_
      show Go p e below s _ _ _ (T49.setTop (mkF m 302 #[.val (.int size), .val (.int steps), .val (.int chs), .val (.int (0 : Int32)), .val (.int (0 : Int32)), .val (.ref rr_1), .val (.ref rr_3), .val (.ref rr_7), .val (.ref b13), .val (.ref b21), .val (.int (1 : Int32)), .unset] [(.int (0 : Int32))]))
      refine Go.st (fun _ k' => XS.iconst X49.here hx rfl (hb hby at_302) k') ?_
      show Go p e below s _ _ _ (T49.setTop (mkF m 303 #[.val (.int size), .val (.int steps), .val (.int chs), .val (.int (0 : Int32)), .val (.int (0 : Int32)), .val (.ref rr_1), .val (.ref rr_3), .val (.ref rr_7), .val (.ref b13), .val (.ref b21), .val (.int (1 : Int32)), .unset] [(.int (3 : Int32)), (.int (0 : Int32))]))
      refine Go.st (fun _ k' => XS.icmpYes X49.here hx rfl (pc0 := 303) (pc' := 360) rfl (hb hby at_303) rfl (XT.ii_lt_t (by decide)) (by decide) (by decide) k') ?_
      show Go p e below s _ _ _ (T49.setTop (mkF m 360 #[.val (.int size), .val (.int steps), .val (.int chs), .val (.int (0 : Int32)), .val (.int (0 : Int32)), .val (.ref rr_1), .val (.ref rr_3), .val (.ref rr_7), .val (.ref b13), .val (.ref b21), .val (.int (1 : Int32)), .unset] []))
      refine Go.st (fun _ k' => XS.iload X49.here hx rfl (hb hby at_360) rfl k') ?_
      show Go p e below s _ _ _ (T49.setTop (mkF m 362 #[.val (.int size), .val (.int steps), .val (.int chs), .val (.int (0 : Int32)), .val (.int (0 : Int32)), .val (.ref rr_1), .val (.ref rr_3), .val (.ref rr_7), .val (.ref b13), .val (.ref b21), .val (.int (1 : Int32)), .unset] [(.int (1 : Int32))]))
      refine Go.retB X49 hx hlk (t := .boolean) Bd.returns (by simp) (hb hby at_362) (by decide) (by decide) eq49 ?_
      exact ⟨rfl, N49, trivial⟩
    · rw [hi160]
      show Go p e below s _ _ _ (T49.setTop (mkF m 160 #[.val (.int size), .val (.int steps), .val (.int chs), .val (.int (0 : Int32)), .val (.int (1 : Int32)), .val (.ref rr_1), .val (.ref rr_3), .val (.ref rr_7), .val (.ref b13), .val (.ref b21), .val (.int (1 : Int32)), .unset] []))
      refine Go.st (fun _ k' => XS.iload X49.here hx rfl (hb hby at_160) rfl k') ?_
      show Go p e below s _ _ _ (T49.setTop (mkF m 162 #[.val (.int size), .val (.int steps), .val (.int chs), .val (.int (0 : Int32)), .val (.int (1 : Int32)), .val (.ref rr_1), .val (.ref rr_3), .val (.ref rr_7), .val (.ref b13), .val (.ref b21), .val (.int (1 : Int32)), .unset] [(.int (1 : Int32))]))
      refine Go.st (fun _ k' => XS.iconst X49.here hx rfl (hb hby at_162) k') ?_
      show Go p e below s _ _ _ (T49.setTop (mkF m 163 #[.val (.int size), .val (.int steps), .val (.int chs), .val (.int (0 : Int32)), .val (.int (1 : Int32)), .val (.ref rr_1), .val (.ref rr_3), .val (.ref rr_7), .val (.ref b13), .val (.ref b21), .val (.int (1 : Int32)), .unset] [(.int (1 : Int32)), (.int (1 : Int32))]))
      refine Go.st (fun _ k' => XS.icmpNo X49.here hx rfl (hb hby at_163) rfl (XT.ii_lt_f (by decide)) k') ?_
      show Go p e below s _ _ _ (T49.setTop (mkF m 166 #[.val (.int size), .val (.int steps), .val (.int chs), .val (.int (0 : Int32)), .val (.int (1 : Int32)), .val (.ref rr_1), .val (.ref rr_3), .val (.ref rr_7), .val (.ref b13), .val (.ref b21), .val (.int (1 : Int32)), .unset] []))
      refine Go.st (fun _ k' => XS.iloadN X49.here hx rfl (hb hby at_166) rfl k') ?_
      show Go p e below s _ _ _ (T49.setTop (mkF m 167 #[.val (.int size), .val (.int steps), .val (.int chs), .val (.int (0 : Int32)), .val (.int (1 : Int32)), .val (.ref rr_1), .val (.ref rr_3), .val (.ref rr_7), .val (.ref b13), .val (.ref b21), .val (.int (1 : Int32)), .unset] [(.int (0 : Int32))]))
      refine Go.st (fun _ k' => XS.iconst X49.here hx rfl (hb hby at_167) k') ?_
      show Go p e below s _ _ _ (T49.setTop (mkF m 168 #[.val (.int size), .val (.int steps), .val (.int chs), .val (.int (0 : Int32)), .val (.int (1 : Int32)), .val (.ref rr_1), .val (.ref rr_3), .val (.ref rr_7), .val (.ref b13), .val (.ref b21), .val (.int (1 : Int32)), .unset] [(.int (1 : Int32)), (.int (0 : Int32))]))
      refine Go.st (fun _ k' => XS.icmpYes X49.here hx rfl (pc0 := 168) (pc' := 230) rfl (hb hby at_168) rfl (XT.ii_lt_t (by decide)) (by decide) (by decide) k') ?_
      show Go p e below s _ _ _ (T49.setTop (mkF m 230 #[.val (.int size), .val (.int steps), .val (.int chs), .val (.int (0 : Int32)), .val (.int (1 : Int32)), .val (.ref rr_1), .val (.ref rr_3), .val (.ref rr_7), .val (.ref b13), .val (.ref b21), .val (.int (1 : Int32)), .unset] []))
      refine Go.st (fun _ k' => XS.iload X49.here hx rfl (hb hby at_230) rfl k') ?_
      show Go p e below s _ _ _ (T49.setTop (mkF m 232 #[.val (.int size), .val (.int steps), .val (.int chs), .val (.int (0 : Int32)), .val (.int (1 : Int32)), .val (.ref rr_1), .val (.ref rr_3), .val (.ref rr_7), .val (.ref b13), .val (.ref b21), .val (.int (1 : Int32)), .unset] [(.int (1 : Int32))]))
      refine Go.st (fun _ k' => XS.iconst X49.here hx rfl (hb hby at_232) k') ?_
      show Go p e below s _ _ _ (T49.setTop (mkF m 233 #[.val (.int size), .val (.int steps), .val (.int chs), .val (.int (0 : Int32)), .val (.int (1 : Int32)), .val (.ref rr_1), .val (.ref rr_3), .val (.ref rr_7), .val (.ref b13), .val (.ref b21), .val (.int (1 : Int32)), .unset] [(.int (2 : Int32)), (.int (1 : Int32))]))
      refine Go.st (fun _ k' => XS.icmpYes X49.here hx rfl (pc0 := 233) (pc' := 300) rfl (hb hby at_233) rfl (XT.ii_lt_t (by decide)) (by decide) (by decide) k') ?_
      show Go p e below s _ _ _ (T49.setTop (mkF m 300 #[.val (.int size), .val (.int steps), .val (.int chs), .val (.int (0 : Int32)), .val (.int (1 : Int32)), .val (.ref rr_1), .val (.ref rr_3), .val (.ref rr_7), .val (.ref b13), .val (.ref b21), .val (.int (1 : Int32)), .unset] []))
      refine Go.st (fun _ k' => XS.iload X49.here hx rfl (hb hby at_300) rfl k') ?_
      show Go p e below s _ _ _ (T49.setTop (mkF m 302 #[.val (.int size), .val (.int steps), .val (.int chs), .val (.int (0 : Int32)), .val (.int (1 : Int32)), .val (.ref rr_1), .val (.ref rr_3), .val (.ref rr_7), .val (.ref b13), .val (.ref b21), .val (.int (1 : Int32)), .unset] [(.int (1 : Int32))]))
      refine Go.st (fun _ k' => XS.iconst X49.here hx rfl (hb hby at_302) k') ?_
      show Go p e below s _ _ _ (T49.setTop (mkF m 303 #[.val (.int size), .val (.int steps), .val (.int chs), .val (.int (0 : Int32)), .val (.int (1 : Int32)), .val (.ref rr_1), .val (.ref rr_3), .val (.ref rr_7), .val (.ref b13), .val (.ref b21), .val (.int (1 : Int32)), .unset] [(.int (3 : Int32)), (.int (1 : Int32))]))
      refine Go.st (fun _ k' => XS.icmpYes X49.here hx rfl (pc0 := 303) (pc' := 360) rfl (hb hby at_303) rfl (XT.ii_lt_t (by decide)) (by decide) (by decide) k') ?_
      show Go p e below s _ _ _ (T49.setTop (mkF m 360 #[.val (.int size), .val (.int steps), .val (.int chs), .val (.int (0 : Int32)), .val (.int (1 : Int32)), .val (.ref rr_1), .val (.ref rr_3), .val (.ref rr_7), .val (.ref b13), .val (.ref b21), .val (.int (1 : Int32)), .unset] []))
      refine Go.st (fun _ k' => XS.iload X49.here hx rfl (hb hby at_360) rfl k') ?_
      show Go p e below s _ _ _ (T49.setTop (mkF m 362 #[.val (.int size), .val (.int steps), .val (.int chs), .val (.int (0 : Int32)), .val (.int (1 : Int32)), .val (.ref rr_1), .val (.ref rr_3), .val (.ref rr_7), .val (.ref b13), .val (.ref b21), .val (.int (1 : Int32)), .unset] [(.int (1 : Int32))]))
      refine Go.retB X49 hx hlk (t := .boolean) Bd.returns (by simp) (hb hby at_362) (by decide) (by decide) eq49 ?_
      exact ⟨rfl, N49, trivial⟩
    · rw [hi160]
      show Go p e below s _ _ _ (T49.setTop (mkF m 160 #[.val (.int size), .val (.int steps), .val (.int chs), .val (.int (0 : Int32)), .val (.int (2 : Int32)), .val (.ref rr_1), .val (.ref rr_3), .val (.ref rr_7), .val (.ref b13), .val (.ref b21), .val (.int (1 : Int32)), .unset] []))
      refine Go.st (fun _ k' => XS.iload X49.here hx rfl (hb hby at_160) rfl k') ?_
      show Go p e below s _ _ _ (T49.setTop (mkF m 162 #[.val (.int size), .val (.int steps), .val (.int chs), .val (.int (0 : Int32)), .val (.int (2 : Int32)), .val (.ref rr_1), .val (.ref rr_3), .val (.ref rr_7), .val (.ref b13), .val (.ref b21), .val (.int (1 : Int32)), .unset] [(.int (2 : Int32))]))
      refine Go.st (fun _ k' => XS.iconst X49.here hx rfl (hb hby at_162) k') ?_
      show Go p e below s _ _ _ (T49.setTop (mkF m 163 #[.val (.int size), .val (.int steps), .val (.int chs), .val (.int (0 : Int32)), .val (.int (2 : Int32)), .val (.ref rr_1), .val (.ref rr_3), .val (.ref rr_7), .val (.ref b13), .val (.ref b21), .val (.int (1 : Int32)), .unset] [(.int (1 : Int32)), (.int (2 : Int32))]))
      refine Go.st (fun _ k' => XS.icmpNo X49.here hx rfl (hb hby at_163) rfl (XT.ii_lt_f (by decide)) k') ?_
      show Go p e below s _ _ _ (T49.setTop (mkF m 166 #[.val (.int size), .val (.int steps), .val (.int chs), .val (.int (0 : Int32)), .val (.int (2 : Int32)), .val (.ref rr_1), .val (.ref rr_3), .val (.ref rr_7), .val (.ref b13), .val (.ref b21), .val (.int (1 : Int32)), .unset] []))
      refine Go.st (fun _ k' => XS.iloadN X49.here hx rfl (hb hby at_166) rfl k') ?_
      show Go p e below s _ _ _ (T49.setTop (mkF m 167 #[.val (.int size), .val (.int steps), .val (.int chs), .val (.int (0 : Int32)), .val (.int (2 : Int32)), .val (.ref rr_1), .val (.ref rr_3), .val (.ref rr_7), .val (.ref b13), .val (.ref b21), .val (.int (1 : Int32)), .unset] [(.int (0 : Int32))]))
      refine Go.st (fun _ k' => XS.iconst X49.here hx rfl (hb hby at_167) k') ?_
      show Go p e below s _ _ _ (T49.setTop (mkF m 168 #[.val (.int size), .val (.int steps), .val (.int chs), .val (.int (0 : Int32)), .val (.int (2 : Int32)), .val (.ref rr_1), .val (.ref rr_3), .val (.ref rr_7), .val (.ref b13), .val (.ref b21), .val (.int (1 : Int32)), .unset] [(.int (1 : Int32)), (.int (0 : Int32))]))
      refine Go.st (fun _ k' => XS.icmpYes X49.here hx rfl (pc0 := 168) (pc' := 230) rfl (hb hby at_168) rfl (XT.ii_lt_t (by decide)) (by decide) (by decide) k') ?_
      show Go p e below s _ _ _ (T49.setTop (mkF m 230 #[.val (.int size), .val (.int steps), .val (.int chs), .val (.int (0 : Int32)), .val (.int (2 : Int32)), .val (.ref rr_1), .val (.ref rr_3), .val (.ref rr_7), .val (.ref b13), .val (.ref b21), .val (.int (1 : Int32)), .unset] []))
      refine Go.st (fun _ k' => XS.iload X49.here hx rfl (hb hby at_230) rfl k') ?_
      show Go p e below s _ _ _ (T49.setTop (mkF m 232 #[.val (.int size), .val (.int steps), .val (.int chs), .val (.int (0 : Int32)), .val (.int (2 : Int32)), .val (.ref rr_1), .val (.ref rr_3), .val (.ref rr_7), .val (.ref b13), .val (.ref b21), .val (.int (1 : Int32)), .unset] [(.int (2 : Int32))]))
      refine Go.st (fun _ k' => XS.iconst X49.here hx rfl (hb hby at_232) k') ?_
      show Go p e below s _ _ _ (T49.setTop (mkF m 233 #[.val (.int size), .val (.int steps), .val (.int chs), .val (.int (0 : Int32)), .val (.int (2 : Int32)), .val (.ref rr_1), .val (.ref rr_3), .val (.ref rr_7), .val (.ref b13), .val (.ref b21), .val (.int (1 : Int32)), .unset] [(.int (2 : Int32)), (.int (2 : Int32))]))
      refine Go.st (fun _ k' => XS.icmpNo X49.here hx rfl (hb hby at_233) rfl (XT.ii_lt_f (by decide)) k') ?_
      show Go p e below s _ _ _ (T49.setTop (mkF m 236 #[.val (.int size), .val (.int steps), .val (.int chs), .val (.int (0 : Int32)), .val (.int (2 : Int32)), .val (.ref rr_1), .val (.ref rr_3), .val (.ref rr_7), .val (.ref b13), .val (.ref b21), .val (.int (1 : Int32)), .unset] []))
      refine Go.st (fun _ k' => XS.iloadN X49.here hx rfl (hb hby at_236) rfl k') ?_
      show Go p e below s _ _ _ (T49.setTop (mkF m 237 #[.val (.int size), .val (.int steps), .val (.int chs), .val (.int (0 : Int32)), .val (.int (2 : Int32)), .val (.ref rr_1), .val (.ref rr_3), .val (.ref rr_7), .val (.ref b13), .val (.ref b21), .val (.int (1 : Int32)), .unset] [(.int (0 : Int32))]))
      refine Go.st (fun _ k' => XS.iconst X49.here hx rfl (hb hby at_237) k') ?_
      show Go p e below s _ _ _ (T49.setTop (mkF m 238 #[.val (.int size), .val (.int steps), .val (.int chs), .val (.int (0 : Int32)), .val (.int (2 : Int32)), .val (.ref rr_1), .val (.ref rr_3), .val (.ref rr_7), .val (.ref b13), .val (.ref b21), .val (.int (1 : Int32)), .unset] [(.int (2 : Int32)), (.int (0 : Int32))]))
      refine Go.st (fun _ k' => XS.icmpYes X49.here hx rfl (pc0 := 238) (pc' := 300) rfl (hb hby at_238) rfl (XT.ii_lt_t (by decide)) (by decide) (by decide) k') ?_
      show Go p e below s _ _ _ (T49.setTop (mkF m 300 #[.val (.int size), .val (.int steps), .val (.int chs), .val (.int (0 : Int32)), .val (.int (2 : Int32)), .val (.ref rr_1), .val (.ref rr_3), .val (.ref rr_7), .val (.ref b13), .val (.ref b21), .val (.int (1 : Int32)), .unset] []))
      refine Go.st (fun _ k' => XS.iload X49.here hx rfl (hb hby at_300) rfl k') ?_
      show Go p e below s _ _ _ (T49.setTop (mkF m 302 #[.val (.int size), .val (.int steps), .val (.int chs), .val (.int (0 : Int32)), .val (.int (2 : Int32)), .val (.ref rr_1), .val (.ref rr_3), .val (.ref rr_7), .val (.ref b13), .val (.ref b21), .val (.int (1 : Int32)), .unset] [(.int (2 : Int32))]))
      refine Go.st (fun _ k' => XS.iconst X49.here hx rfl (hb hby at_302) k') ?_
      show Go p e below s _ _ _ (T49.setTop (mkF m 303 #[.val (.int size), .val (.int steps), .val (.int chs), .val (.int (0 : Int32)), .val (.int (2 : Int32)), .val (.ref rr_1), .val (.ref rr_3), .val (.ref rr_7), .val (.ref b13), .val (.ref b21), .val (.int (1 : Int32)), .unset] [(.int (3 : Int32)), (.int (2 : Int32))]))
      refine Go.st (fun _ k' => XS.icmpYes X49.here hx rfl (pc0 := 303) (pc' := 360) rfl (hb hby at_303) rfl (XT.ii_lt_t (by decide)) (by decide) (by decide) k') ?_
      show Go p e below s _ _ _ (T49.setTop (mkF m 360 #[.val (.int size), .val (.int steps), .val (.int chs), .val (.int (0 : Int32)), .val (.int (2 : Int32)), .val (.ref rr_1), .val (.ref rr_3), .val (.ref rr_7), .val (.ref b13), .val (.ref b21), .val (.int (1 : Int32)), .unset] []))
      refine Go.st (fun _ k' => XS.iload X49.here hx rfl (hb hby at_360) rfl k') ?_
      show Go p e below s _ _ _ (T49.setTop (mkF m 362 #[.val (.int size), .val (.int steps), .val (.int chs), .val (.int (0 : Int32)), .val (.int (2 : Int32)), .val (.ref rr_1), .val (.ref rr_3), .val (.ref rr_7), .val (.ref b13), .val (.ref b21), .val (.int (1 : Int32)), .unset] [(.int (1 : Int32))]))
      refine Go.retB X49 hx hlk (t := .boolean) Bd.returns (by simp) (hb hby at_362) (by decide) (by decide) eq49 ?_
      exact ⟨rfl, N49, trivial⟩
    · rw [hi160]
      show Go p e below s _ _ _ (T49.setTop (mkF m 160 #[.val (.int size), .val (.int steps), .val (.int chs), .val (.int (0 : Int32)), .val (.int (3 : Int32)), .val (.ref rr_1), .val (.ref rr_3), .val (.ref rr_7), .val (.ref b13), .val (.ref b21), .val (.int (1 : Int32)), .unset] []))
      refine Go.st (fun _ k' => XS.iload X49.here hx rfl (hb hby at_160) rfl k') ?_
      show Go p e below s _ _ _ (T49.setTop (mkF m 162 #[.val (.int size), .val (.int steps), .val (.int chs), .val (.int (0 : Int32)), .val (.int (3 : Int32)), .val (.ref rr_1), .val (.ref rr_3), .val (.ref rr_7), .val (.ref b13), .val (.ref b21), .val (.int (1 : Int32)), .unset] [(.int (3 : Int32))]))
      refine Go.st (fun _ k' => XS.iconst X49.here hx rfl (hb hby at_162) k') ?_
      show Go p e below s _ _ _ (T49.setTop (mkF m 163 #[.val (.int size), .val (.int steps), .val (.int chs), .val (.int (0 : Int32)), .val (.int (3 : Int32)), .val (.ref rr_1), .val (.ref rr_3), .val (.ref rr_7), .val (.ref b13), .val (.ref b21), .val (.int (1 : Int32)), .unset] [(.int (1 : Int32)), (.int (3 : Int32))]))
      refine Go.st (fun _ k' => XS.icmpNo X49.here hx rfl (hb hby at_163) rfl (XT.ii_lt_f (by decide)) k') ?_
      show Go p e below s _ _ _ (T49.setTop (mkF m 166 #[.val (.int size), .val (.int steps), .val (.int chs), .val (.int (0 : Int32)), .val (.int (3 : Int32)), .val (.ref rr_1), .val (.ref rr_3), .val (.ref rr_7), .val (.ref b13), .val (.ref b21), .val (.int (1 : Int32)), .unset] []))
      refine Go.st (fun _ k' => XS.iloadN X49.here hx rfl (hb hby at_166) rfl k') ?_
      show Go p e below s _ _ _ (T49.setTop (mkF m 167 #[.val (.int size), .val (.int steps), .val (.int chs), .val (.int (0 : Int32)), .val (.int (3 : Int32)), .val (.ref rr_1), .val (.ref rr_3), .val (.ref rr_7), .val (.ref b13), .val (.ref b21), .val (.int (1 : Int32)), .unset] [(.int (0 : Int32))]))
      refine Go.st (fun _ k' => XS.iconst X49.here hx rfl (hb hby at_167) k') ?_
      show Go p e below s _ _ _ (T49.setTop (mkF m 168 #[.val (.int size), .val (.int steps), .val (.int chs), .val (.int (0 : Int32)), .val (.int (3 : Int32)), .val (.ref rr_1), .val (.ref rr_3), .val (.ref rr_7), .val (.ref b13), .val (.ref b21), .val (.int (1 : Int32)), .unset] [(.int (1 : Int32)), (.int (0 : Int32))]))
      refine Go.st (fun _ k' => XS.icmpYes X49.here hx rfl (pc0 := 168) (pc' := 230) rfl (hb hby at_168) rfl (XT.ii_lt_t (by decide)) (by decide) (by decide) k') ?_
      show Go p e below s _ _ _ (T49.setTop (mkF m 230 #[.val (.int size), .val (.int steps), .val (.int chs), .val (.int (0 : Int32)), .val (.int (3 : Int32)), .val (.ref rr_1), .val (.ref rr_3), .val (.ref rr_7), .val (.ref b13), .val (.ref b21), .val (.int (1 : Int32)), .unset] []))
      refine Go.st (fun _ k' => XS.iload X49.here hx rfl (hb hby at_230) rfl k') ?_
      show Go p e below s _ _ _ (T49.setTop (mkF m 232 #[.val (.int size), .val (.int steps), .val (.int chs), .val (.int (0 : Int32)), .val (.int (3 : Int32)), .val (.ref rr_1), .val (.ref rr_3), .val (.ref rr_7), .val (.ref b13), .val (.ref b21), .val (.int (1 : Int32)), .unset] [(.int (3 : Int32))]))
      refine Go.st (fun _ k' => XS.iconst X49.here hx rfl (hb hby at_232) k') ?_
      show Go p e below s _ _ _ (T49.setTop (mkF m 233 #[.val (.int size), .val (.int steps), .val (.int chs), .val (.int (0 : Int32)), .val (.int (3 : Int32)), .val (.ref rr_1), .val (.ref rr_3), .val (.ref rr_7), .val (.ref b13), .val (.ref b21), .val (.int (1 : Int32)), .unset] [(.int (2 : Int32)), (.int (3 : Int32))]))
      refine Go.st (fun _ k' => XS.icmpNo X49.here hx rfl (hb hby at_233) rfl (XT.ii_lt_f (by decide)) k') ?_
      show Go p e below s _ _ _ (T49.setTop (mkF m 236 #[.val (.int size), .val (.int steps), .val (.int chs), .val (.int (0 : Int32)), .val (.int (3 : Int32)), .val (.ref rr_1), .val (.ref rr_3), .val (.ref rr_7), .val (.ref b13), .val (.ref b21), .val (.int (1 : Int32)), .unset] []))
      refine Go.st (fun _ k' => XS.iloadN X49.here hx rfl (hb hby at_236) rfl k') ?_
      show Go p e below s _ _ _ (T49.setTop (mkF m 237 #[.val (.int size), .val (.int steps), .val (.int chs), .val (.int (0 : Int32)), .val (.int (3 : Int32)), .val (.ref rr_1), .val (.ref rr_3), .val (.ref rr_7), .val (.ref b13), .val (.ref b21), .val (.int (1 : Int32)), .unset] [(.int (0 : Int32))]))
      refine Go.st (fun _ k' => XS.iconst X49.here hx rfl (hb hby at_237) k') ?_
      show Go p e below s _ _ _ (T49.setTop (mkF m 238 #[.val (.int size), .val (.int steps), .val (.int chs), .val (.int (0 : Int32)), .val (.int (3 : Int32)), .val (.ref rr_1), .val (.ref rr_3), .val (.ref rr_7), .val (.ref b13), .val (.ref b21), .val (.int (1 : Int32)), .unset] [(.int (2 : Int32)), (.int (0 : Int32))]))
      refine Go.st (fun _ k' => XS.icmpYes X49.here hx rfl (pc0 := 238) (pc' := 300) rfl (hb hby at_238) rfl (XT.ii_lt_t (by decide)) (by decide) (by decide) k') ?_
      show Go p e below s _ _ _ (T49.setTop (mkF m 300 #[.val (.int size), .val (.int steps), .val (.int chs), .val (.int (0 : Int32)), .val (.int (3 : Int32)), .val (.ref rr_1), .val (.ref rr_3), .val (.ref rr_7), .val (.ref b13), .val (.ref b21), .val (.int (1 : Int32)), .unset] []))
      refine Go.st (fun _ k' => XS.iload X49.here hx rfl (hb hby at_300) rfl k') ?_
      show Go p e below s _ _ _ (T49.setTop (mkF m 302 #[.val (.int size), .val (.int steps), .val (.int chs), .val (.int (0 : Int32)), .val (.int (3 : Int32)), .val (.ref rr_1), .val (.ref rr_3), .val (.ref rr_7), .val (.ref b13), .val (.ref b21), .val (.int (1 : Int32)), .unset] [(.int (3 : Int32))]))
      refine Go.st (fun _ k' => XS.iconst X49.here hx rfl (hb hby at_302) k') ?_
      show Go p e below s _ _ _ (T49.setTop (mkF m 303 #[.val (.int size), .val (.int steps), .val (.int chs), .val (.int (0 : Int32)), .val (.int (3 : Int32)), .val (.ref rr_1), .val (.ref rr_3), .val (.ref rr_7), .val (.ref b13), .val (.ref b21), .val (.int (1 : Int32)), .unset] [(.int (3 : Int32)), (.int (3 : Int32))]))
      refine Go.st (fun _ k' => XS.icmpNo X49.here hx rfl (hb hby at_303) rfl (XT.ii_lt_f (by decide)) k') ?_
      show Go p e below s _ _ _ (T49.setTop (mkF m 306 #[.val (.int size), .val (.int steps), .val (.int chs), .val (.int (0 : Int32)), .val (.int (3 : Int32)), .val (.ref rr_1), .val (.ref rr_3), .val (.ref rr_7), .val (.ref b13), .val (.ref b21), .val (.int (1 : Int32)), .unset] []))
      refine Go.st (fun _ k' => XS.iloadN X49.here hx rfl (hb hby at_306) rfl k') ?_
      show Go p e below s _ _ _ (T49.setTop (mkF m 307 #[.val (.int size), .val (.int steps), .val (.int chs), .val (.int (0 : Int32)), .val (.int (3 : Int32)), .val (.ref rr_1), .val (.ref rr_3), .val (.ref rr_7), .val (.ref b13), .val (.ref b21), .val (.int (1 : Int32)), .unset] [(.int (0 : Int32))]))
      refine Go.st (fun _ k' => XS.iconst X49.here hx rfl (hb hby at_307) k') ?_
      show Go p e below s _ _ _ (T49.setTop (mkF m 308 #[.val (.int size), .val (.int steps), .val (.int chs), .val (.int (0 : Int32)), .val (.int (3 : Int32)), .val (.ref rr_1), .val (.ref rr_3), .val (.ref rr_7), .val (.ref b13), .val (.ref b21), .val (.int (1 : Int32)), .unset] [(.int (3 : Int32)), (.int (0 : Int32))]))
      refine Go.st (fun _ k' => XS.icmpYes X49.here hx rfl (pc0 := 308) (pc' := 360) rfl (hb hby at_308) rfl (XT.ii_lt_t (by decide)) (by decide) (by decide) k') ?_
      show Go p e below s _ _ _ (T49.setTop (mkF m 360 #[.val (.int size), .val (.int steps), .val (.int chs), .val (.int (0 : Int32)), .val (.int (3 : Int32)), .val (.ref rr_1), .val (.ref rr_3), .val (.ref rr_7), .val (.ref b13), .val (.ref b21), .val (.int (1 : Int32)), .unset] []))
      refine Go.st (fun _ k' => XS.iload X49.here hx rfl (hb hby at_360) rfl k') ?_
      show Go p e below s _ _ _ (T49.setTop (mkF m 362 #[.val (.int size), .val (.int steps), .val (.int chs), .val (.int (0 : Int32)), .val (.int (3 : Int32)), .val (.ref rr_1), .val (.ref rr_3), .val (.ref rr_7), .val (.ref b13), .val (.ref b21), .val (.int (1 : Int32)), .unset] [(.int (1 : Int32))]))
      refine Go.retB X49 hx hlk (t := .boolean) Bd.returns (by simp) (hb hby at_362) (by decide) (by decide) eq49 ?_
      exact ⟨rfl, N49, trivial⟩
  · rw [hi48]
    show Go p e below s _ _ _ (T7.setTop (mkF m 48 #[.val (.int size), .val (.int steps), .val (.int chs), .val (.int (1 : Int32)), .val (.int (steps &&& (3 : Int32))), .val (.ref rr_1), .val (.ref rr_3), .val (.ref rr_7), .unset, .unset, .unset, .unset] []))
    refine Go.st (fun _ k' => XS.iloadN X7.here hx rfl (hb hby at_48) rfl k') ?_
    show Go p e below s _ _ _ (T7.setTop (mkF m 49 #[.val (.int size), .val (.int steps), .val (.int chs), .val (.int (1 : Int32)), .val (.int (steps &&& (3 : Int32))), .val (.ref rr_1), .val (.ref rr_3), .val (.ref rr_7), .unset, .unset, .unset, .unset] [(.int (1 : Int32))]))
    refine Go.st (fun _ k' => XS.ifYes X7.here hx rfl (pc0 := 49) (pc' := 61) rfl (hb hby at_49) rfl (XT.i0_ne_t (by decide)) (by decide) (by decide) k') ?_
    show Go p e below s _ _ _ (T7.setTop (mkF m 61 #[.val (.int size), .val (.int steps), .val (.int chs), .val (.int (1 : Int32)), .val (.int (steps &&& (3 : Int32))), .val (.ref rr_1), .val (.ref rr_3), .val (.ref rr_7), .unset, .unset, .unset, .unset] []))
    refine Go.st (fun _ k' => XS.iloadN X7.here hx rfl (hb hby at_61) rfl k') ?_
    show Go p e below s _ _ _ (T7.setTop (mkF m 62 #[.val (.int size), .val (.int steps), .val (.int chs), .val (.int (1 : Int32)), .val (.int (steps &&& (3 : Int32))), .val (.ref rr_1), .val (.ref rr_3), .val (.ref rr_7), .unset, .unset, .unset, .unset] [(.int (1 : Int32))]))
    refine Go.st (fun _ k' => XS.iconst X7.here hx rfl (hb hby at_62) k') ?_
    show Go p e below s _ _ _ (T7.setTop (mkF m 63 #[.val (.int size), .val (.int steps), .val (.int chs), .val (.int (1 : Int32)), .val (.int (steps &&& (3 : Int32))), .val (.ref rr_1), .val (.ref rr_3), .val (.ref rr_7), .unset, .unset, .unset, .unset] [(.int (1 : Int32)), (.int (1 : Int32))]))
    refine Go.st (fun _ k' => XS.icmpNo X7.here hx rfl (hb hby at_63) rfl (XT.ii_ne_f (by decide)) k') ?_
    show Go p e below s _ _ _ (T7.setTop (mkF m 66 #[.val (.int size), .val (.int steps), .val (.int chs), .val (.int (1 : Int32)), .val (.int (steps &&& (3 : Int32))), .val (.ref rr_1), .val (.ref rr_3), .val (.ref rr_7), .unset, .unset, .unset, .unset] []))
    refine Go.st (fun _ k' => XS.iconst X7.here hx rfl (hb hby at_66) k') ?_
    show Go p e below s _ _ _ (T7.setTop (mkF m 67 #[.val (.int size), .val (.int steps), .val (.int chs), .val (.int (1 : Int32)), .val (.int (steps &&& (3 : Int32))), .val (.ref rr_1), .val (.ref rr_3), .val (.ref rr_7), .unset, .unset, .unset, .unset] [(.int (1 : Int32))]))
    obtain ⟨T50, h50, k50, X50, e50, E50, A50, Ex50, V50, st50⟩ := newRE X7 hx hZ hown (wdx hw 26 rfl) (wdx hw 27 rfl) rfl (g := (mkF m 67 #[.val (.int size), .val (.int steps), .val (.int chs), .val (.int (1 : Int32)), .val (.int (steps &&& (3 : Int32))), .val (.ref rr_1), .val (.ref rr_3), .val (.ref rr_7), .unset, .unset, .unset, .unset] [(.int (1 : Int32))])) rfl (hb hby at_67) rfl (by decide) (cap := 1) (by decide) (by decide) (by decide) (by decide) (ad := "[Ljava/lang/String;") rfl
    obtain ⟨b50, g50⟩ : ∃ z, z = T7.heap.size := ⟨_, rfl⟩
    rw [← g50] at A50 Ex50 st50
    refine Go.st st50 ?_
    have g_b50 : n0 ≤ b50 := Nat.le_trans (own_le O7) (Nat.le_of_eq g50.symm)
    have ne51 : rr_1 ≠ b50 := Nat.ne_of_lt (Nat.lt_of_lt_of_le f9.lt (Nat.le_of_eq g50.symm))
    have ne52 : rr_3 ≠ b50 := Nat.ne_of_lt (Nat.lt_of_lt_of_le f10.lt (Nat.le_of_eq g50.symm))
    have ne53 : rr_7 ≠ b50 := Nat.ne_of_lt (Nat.lt_of_lt_of_le f8.lt (Nat.le_of_eq g50.symm))
    have f54 : Exa Z h50 rr_1 "java/lang/String" := f9.ext E50
    have f55 : Exa Z h50 rr_3 "java/lang/String" := f10.ext E50
    have f56 : Exa Z h50 rr_7 "java/lang/String" := f8.ext E50
    have O50 : Old Z n0 h50 := O7.ext E50
    have f57 : Arv Z h50 b50 k50 (.object "java/lang/String") (1 : Int32) [.null] .null := (Arv.new A50 (by decide)).pad (pad_rep [] .null 1)
    show Go p e below s _ _ _ (T50.setTop (mkF m 70 #[.val (.int size), .val (.int steps), .val (.int chs), .val (.int (1 : Int32)), .val (.int (steps &&& (3 : Int32))), .val (.ref rr_1), .val (.ref rr_3), .val (.ref rr_7), .unset, .unset, .unset, .unset] [(.ref b50)]))
    refine Go.st (fun _ k' => XS.dup X50.here hx rfl (hb hby at_70) rfl rfl k') ?_
    show Go p e below s _ _ _ (T50.setTop (mkF m 71 #[.val (.int size), .val (.int steps), .val (.int chs), .val (.int (1 : Int32)), .val (.int (steps &&& (3 : Int32))), .val (.ref rr_1), .val (.ref rr_3), .val (.ref rr_7), .unset, .unset, .unset, .unset] [(.ref b50), (.ref b50)]))
    refine Go.st (fun _ k' => XS.iconst X50.here hx rfl (hb hby at_71) k') ?_
    show Go p e below s _ _ _ (T50.setTop (mkF m 72 #[.val (.int size), .val (.int steps), .val (.int chs), .val (.int (1 : Int32)), .val (.int (steps &&& (3 : Int32))), .val (.ref rr_1), .val (.ref rr_3), .val (.ref rr_7), .unset, .unset, .unset, .unset] [(.int (0 : Int32)), (.ref b50), (.ref b50)]))
    refine Go.st (fun _ k' => XS.aload X50.here hx rfl (hb hby at_72) rfl rfl k') ?_
    show Go p e below s _ _ _ (T50.setTop (mkF m 74 #[.val (.int size), .val (.int steps), .val (.int chs), .val (.int (1 : Int32)), .val (.int (steps &&& (3 : Int32))), .val (.ref rr_1), .val (.ref rr_3), .val (.ref rr_7), .unset, .unset, .unset, .unset] [(.ref rr_1), (.int (0 : Int32)), (.ref b50), (.ref b50)]))
    have vz58 := f57
    obtain ⟨cl58, Ar58, qc58, Sz58, Nn58, Ha58, Gf58⟩ := id f57
    obtain ⟨T58, h58, X58, e58, W58, st58⟩ := stR X50 hx hZ e50 Ar58 (j := (0 : Int32)) (inb_of Sz58 ⟨by decide, by decide⟩) rfl (Sto.ofV Ar58 qc58 V50 (Ins.self f54)) (g := (mkF m 74 #[.val (.int size), .val (.int steps), .val (.int chs), .val (.int (1 : Int32)), .val (.int (steps &&& (3 : Int32))), .val (.ref rr_1), .val (.ref rr_3), .val (.ref rr_7), .unset, .unset, .unset, .unset] [(.ref rr_1), (.int (0 : Int32)), (.ref b50), (.ref b50)])) rfl rfl (hb hby at_74)
    refine Go.st st58 ?_
    have f60 : Exa Z h58 rr_1 "java/lang/String" := f54.wr W58
    have f61 : Exa Z h58 rr_3 "java/lang/String" := f55.wr W58
    have f62 : Exa Z h58 rr_7 "java/lang/String" := f56.wr W58
    have f63 : Exa Z h58 b50 "[Ljava/lang/String;" := Ex50.wr W58
    have O58 : Old Z n0 h58 := O50.wr W58 g_b50
    have N58 := Fr.snoc X58 N7 g_b50
    have f59 : Arv Z h58 b50 k50 (.object "java/lang/String") (1 : Int32) [(.ref rr_1)] .null := Arv.set Ar58 qc58 Sz58 Nn58 Ha58 Gf58 rfl W58 0 rfl (Nat.le_of_ble_eq_true rfl)
    show Go p e below s _ _ _ (T58.setTop (mkF m 75 #[.val (.int size), .val (.int steps), .val (.int chs), .val (.int (1 : Int32)), .val (.int (steps &&& (3 : Int32))), .val (.ref rr_1), .val (.ref rr_3), .val (.ref rr_7), .unset, .unset, .unset, .unset] [(.ref b50)]))
    refine Go.st (fun _ k' => XS.astore X58.here hx rfl (hb hby at_75) rfl rfl (l' := #[.val (.int size), .val (.int steps), .val (.int chs), .val (.int (1 : Int32)), .val (.int (steps &&& (3 : Int32))), .val (.ref rr_1), .val (.ref rr_3), .val (.ref rr_7), .val (.ref b50), .unset, .unset, .unset]) rfl k') ?_
    show Go p e below s _ _ _ (T58.setTop (mkF m 77 #[.val (.int size), .val (.int steps), .val (.int chs), .val (.int (1 : Int32)), .val (.int (steps &&& (3 : Int32))), .val (.ref rr_1), .val (.ref rr_3), .val (.ref rr_7), .val (.ref b50), .unset, .unset, .unset] []))
    refine Go.st (fun _ k' => XS.goto X58.here hx rfl (pc0 := 77) (pc' := 125) rfl (hb hby at_77) (by decide) (by decide) k') ?_
    show Go p e below s _ _ _ (T58.setTop (mkF m 125 #[.val (.int size), .val (.int steps), .val (.int chs), .val (.int (1 : Int32)), .val (.int (steps &&& (3 : Int32))), .val (.ref rr_1), .val (.ref rr_3), .val (.ref rr_7), .val (.ref b50), .unset, .unset, .unset] []))
    obtain ⟨T64, h64, X64, e64, E64, A64, D64, -, st64⟩ := newO X58 hx hZ hown (wdx hw 28 rfl) (wdx hw 29 rfl) (wdx hw 30 rfl) e58 (g := (mkF m 125 #[.val (.int size), .val (.int steps), .val (.int chs), .val (.int (1 : Int32)), .val (.int (steps &&& (3 : Int32))), .val (.ref rr_1), .val (.ref rr_3), .val (.ref rr_7), .val (.ref b50), .unset, .unset, .unset] [])) rfl (hb hby at_125) (by decide) (by decide)
    obtain ⟨b64, g64⟩ : ∃ z, z = h58.size := ⟨_, rfl⟩
    rw [← g64] at A64 D64 st64
    refine Go.st st64 ?_
    have g_b64 : n0 ≤ b64 := Nat.le_trans (own_le O58) (Nat.le_of_eq g64.symm)
    have ne65 : rr_1 ≠ b64 := Nat.ne_of_lt (Nat.lt_of_lt_of_le f60.lt (Nat.le_of_eq g64.symm))
    have ne66 : rr_3 ≠ b64 := Nat.ne_of_lt (Nat.lt_of_lt_of_le f61.lt (Nat.le_of_eq g64.symm))
    have ne67 : rr_7 ≠ b64 := Nat.ne_of_lt (Nat.lt_of_lt_of_le f62.lt (Nat.le_of_eq g64.symm))
    have ne68 : b50 ≠ b64 := Nat.ne_of_lt (Nat.lt_of_lt_of_le f63.lt (Nat.le_of_eq g64.symm))
    have f69 : Exa Z h64 rr_1 "java/lang/String" := f60.ext E64
    have f70 : Exa Z h64 rr_3 "java/lang/String" := f61.ext E64
    have f71 : Exa Z h64 rr_7 "java/lang/String" := f62.ext E64
    have f72 : Exa Z h64 b50 "[Ljava/lang/String;" := f63.ext E64
    have f73 : Arv Z h64 b50 k50 (.object "java/lang/String") (1 : Int32) [(.ref rr_1)] .null := f59.ext E64
    have O64 : Old Z n0 h64 := O58.ext E64
    have f74 : Fld Z h64 b64 "com/example/reportwire/reportwire/Arguments" "optionsGiven" "Ljava/util/Set;" .null := D64 (Or.inr (wdx hw 74 rfl)) (ty := (.object "java/util/Set")) (by decide)
    have f75 : Fld Z h64 b64 "com/example/reportwire/reportwire/Arguments" "args" "[Ljava/lang/String;" .null := D64 (Or.inr (wdx hw 85 rfl)) (ty := (.array (.object "java/lang/String"))) (by decide)
    have f76 : Fld Z h64 b64 "com/example/reportwire/reportwire/Arguments" "next" "I" (.int (0 : Int32)) := D64 (Or.inl (wdx hw 92 rfl)) (ty := .int) (by decide)
    show Go p e below s _ _ _ (T64.setTop (mkF m 128 #[.val (.int size), .val (.int steps), .val (.int chs), .val (.int (1 : Int32)), .val (.int (steps &&& (3 : Int32))), .val (.ref rr_1), .val (.ref rr_3), .val (.ref rr_7), .val (.ref b50), .unset, .unset, .unset] [(.ref b64)]))
    refine Go.st (fun _ k' => XS.dup X64.here hx rfl (hb hby at_128) rfl rfl k') ?_
    show Go p e below s _ _ _ (T64.setTop (mkF m 129 #[.val (.int size), .val (.int steps), .val (.int chs), .val (.int (1 : Int32)), .val (.int (steps &&& (3 : Int32))), .val (.ref rr_1), .val (.ref rr_3), .val (.ref rr_7), .val (.ref b50), .unset, .unset, .unset] [(.ref b64), (.ref b64)]))
    refine Go.st (fun _ k' => XS.aload X64.here hx rfl (hb hby at_129) rfl rfl k') ?_
    show Go p e below s _ _ _ (T64.setTop (mkF m 131 #[.val (.int size), .val (.int steps), .val (.int chs), .val (.int (1 : Int32)), .val (.int (steps &&& (3 : Int32))), .val (.ref rr_1), .val (.ref rr_3), .val (.ref rr_7), .val (.ref b50), .unset, .unset, .unset] [(.ref b50), (.ref b64), (.ref b64)]))
    obtain ⟨_, _, ⟨T77, L77, k77, n77⟩, -, X77, ⟨Lc77, hQ77, l77, y77, z77⟩, st77⟩ := X64.specialBack hx (y := (⟨"com/example/reportwire/reportwire/Arguments", "<init>", "([Ljava/lang/String;)V"⟩ : MethodName)) rfl hown (mvT hZ (wdx hw 31 rfl)) (mvT hZ (wdx hw 32 rfl)) (mvT hZ (wdx hw 33 rfl)) (by decide) (backOf (W := 1) (rm6_1 l Z a0 hw [] b64 b50 k50 rr_1 h64 n0 O64 A64 f74 f75 f76 f72 f73 g_b64 (Ne.symm ne68)) hZ (wdx hw 33 rfl) (wdx hw 30 rfl) (by decide) (by decide)) (g := (mkF m 131 #[.val (.int size), .val (.int steps), .val (.int chs), .val (.int (1 : Int32)), .val (.int (steps &&& (3 : Int32))), .val (.ref rr_1), .val (.ref rr_3), .val (.ref rr_7), .val (.ref b50), .unset, .unset, .unset] [(.ref b50), (.ref b64), (.ref b64)])) rfl (by rw [hml]; rfl) (Steps.refl _) (a := b64) (argsL := [(.ref b50)]) (rest := [(.ref b64)]) (lenOf pd___Ljava_lang_String__V rfl) rfl (by show 2 * 0 + _ ≤ _; exact Nat.le_of_eq rfl) (hb hby at_131) (fun _ _ => ⟨rfl, e64, (by exact Nat.le_of_ble_eq_true rfl), (by exact Nat.le_of_ble_eq_true rfl)⟩)
    dsimp only [Pt.U, Pt.locs, Pt.cells, Pt.slots] at X77 l77 y77 z77 st77 hQ77
    subst l77 y77 z77
    obtain ⟨na_77, kn_77, rfl, Nq77, Kq77, f78, f79, f80, szn_77⟩ := hQ77
    have N77 := Fr.app N58 Nq77
    refine Go.tr st77 ?_
    have f81 : Exa Z T77.heap rr_1 "java/lang/String" := f69.keep Kq77
    have f82 : Exa Z T77.heap rr_3 "java/lang/String" := f70.keep Kq77
    have f83 : Exa Z T77.heap rr_7 "java/lang/String" := f71.keep Kq77
    have f84 : Exa Z T77.heap b50 "[Ljava/lang/String;" := f72.keep Kq77
    have f85 : Arv Z T77.heap b50 k50 (.object "java/lang/String") (1 : Int32) [(.ref rr_1)] .null := f73.keep Kq77 (ninS ne68 nin0)
    have f86 : Exa Z T77.heap b64 "com/example/reportwire/reportwire/Arguments" := A64.keep Kq77
    have O77 : Old Z n0 T77.heap := O64.keep Kq77 (allS g_b64 all0)
    have g_na_77 : n0 ≤ na_77 := Nat.le_trans (own_le O64) szn_77
    have ne87 : rr_1 ≠ na_77 := Nat.ne_of_lt (Nat.lt_of_lt_of_le f69.lt szn_77)
    have ne88 : rr_3 ≠ na_77 := Nat.ne_of_lt (Nat.lt_of_lt_of_le f70.lt szn_77)
    have ne89 : rr_7 ≠ na_77 := Nat.ne_of_lt (Nat.lt_of_lt_of_le f71.lt szn_77)
    have ne90 : b50 ≠ na_77 := Nat.ne_of_lt (Nat.lt_of_lt_of_le f72.lt szn_77)
    have ne91 : b64 ≠ na_77 := Nat.ne_of_lt (Nat.lt_of_lt_of_le A64.lt szn_77)
    show Go p e below s _ _ _ (T77.setTop (mkF m 134 #[.val (.int size), .val (.int steps), .val (.int chs), .val (.int (1 : Int32)), .val (.int (steps &&& (3 : Int32))), .val (.ref rr_1), .val (.ref rr_3), .val (.ref rr_7), .val (.ref b50), .unset, .unset, .unset] [(.ref b64)]))
    refine Go.st (fun _ k' => XS.astore X77.here hx rfl (hb hby at_134) rfl rfl (l' := #[.val (.int size), .val (.int steps), .val (.int chs), .val (.int (1 : Int32)), .val (.int (steps &&& (3 : Int32))), .val (.ref rr_1), .val (.ref rr_3), .val (.ref rr_7), .val (.ref b50), .val (.ref b64), .unset, .unset]) rfl k') ?_
    show Go p e below s _ _ _ (T77.setTop (mkF m 136 #[.val (.int size), .val (.int steps), .val (.int chs), .val (.int (1 : Int32)), .val (.int (steps &&& (3 : Int32))), .val (.ref rr_1), .val (.ref rr_3), .val (.ref rr_7), .val (.ref b50), .val (.ref b64), .unset, .unset] []))
    refine Go.st (fun _ k' => XS.aload X77.here hx rfl (hb hby at_136) rfl rfl k') ?_
    show Go p e below s _ _ _ (T77.setTop (mkF m 138 #[.val (.int size), .val (.int steps), .val (.int chs), .val (.int (1 : Int32)), .val (.int (steps &&& (3 : Int32))), .val (.ref rr_1), .val (.ref rr_3), .val (.ref rr_7), .val (.ref b50), .val (.ref b64), .unset, .unset] [(.ref b64)]))
    obtain ⟨cq92, kq92, q92a, q92b, q92c⟩ := isOf hZ rfl f86
    obtain ⟨_, _, ⟨T92, L92, k92, n92⟩, -, X92, ⟨Lc92, hQ92, l92, y92, z92⟩, st92⟩ := X77.virtualBack hx (y := (⟨"com/example/reportwire/reportwire/Arguments", "hasNext", "()Z"⟩ : MethodName)) (z := (⟨"com/example/reportwire/reportwire/Arguments", "hasNext", "()Z"⟩ : MethodName)) hown (mvT hZ (wdx hw 86 rfl)) (mvT hZ (wdx hw 87 rfl)) (notFace_of_selects (args := #[]) (mvT hZ (wdx hw 89 rfl))) (mvT hZ (wdx hw 89 rfl)) (mvT hZ (wdx hw 88 rfl)) (by decide) (backOf (W := 0) (rm12_1_0 l Z a0 hw [] b64 na_77 kn_77 rr_1 T77.heap n0 O77 f78 f79 f80) hZ (wdx hw 90 rfl) (wdx hw 30 rfl) (by decide) (by decide)) q92a q92c (g := (mkF m 138 #[.val (.int size), .val (.int steps), .val (.int chs), .val (.int (1 : Int32)), .val (.int (steps &&& (3 : Int32))), .val (.ref rr_1), .val (.ref rr_3), .val (.ref rr_7), .val (.ref b50), .val (.ref b64), .unset, .unset] [(.ref b64)])) rfl (by rw [hml]; rfl) (Steps.refl _) (argsL := []) (rest := []) (lenOf pd___Z rfl) rfl (by show 2 * 0 + _ ≤ _; exact Nat.le_of_eq rfl) (hb hby at_138) (fun _ _ => ⟨rfl, rfl, (by exact Nat.le_of_ble_eq_true rfl), (by exact Nat.le_of_ble_eq_true rfl)⟩)
    dsimp only [Pt.U, Pt.locs, Pt.cells, Pt.slots] at X92 l92 y92 z92 st92 hQ92
    subst l92 y92 z92
    obtain ⟨rfl, Nq92, eq92⟩ := hQ92
    have N92 := Fr.app N77 Nq92
    refine Go.tr st92 ?_
    show Go p e below s _ _ _ (T92.setTop (mkF m 141 #[.val (.int size), .val (.int steps), .val (.int chs), .val (.int (1 : Int32)), .val (.int (steps &&& (3 : Int32))), .val (.ref rr_1), .val (.ref rr_3), .val (.ref rr_7), .val (.ref b50), .val (.ref b64), .unset, .unset] [(.int (1 : Int32))]))
    refine Go.st (fun _ k' => XS.iloadN X92.here hx rfl (hb hby at_141) rfl k') ?_
    show Go p e below s _ _ _ (T92.setTop (mkF m 142 #[.val (.int size), .val (.int steps), .val (.int chs), .val (.int (1 : Int32)), .val (.int (steps &&& (3 : Int32))), .val (.ref rr_1), .val (.ref rr_3), .val (.ref rr_7), .val (.ref b50), .val (.ref b64), .unset, .unset] [(.int (1 : Int32)), (.int (1 : Int32))]))
    refine Go.st (fun _ k' => XS.ifNo X92.here hx rfl (hb hby at_142) rfl (XT.i0_le_f (by decide)) k') ?_
    show Go p e below s _ _ _ (T92.setTop (mkF m 145 #[.val (.int size), .val (.int steps), .val (.int chs), .val (.int (1 : Int32)), .val (.int (steps &&& (3 : Int32))), .val (.ref rr_1), .val (.ref rr_3), .val (.ref rr_7), .val (.ref b50), .val (.ref b64), .unset, .unset] [(.int (1 : Int32))]))
    refine Go.st (fun _ k' => XS.iconst X92.here hx rfl (hb hby at_145) k') ?_
    show Go p e below s _ _ _ (T92.setTop (mkF m 146 #[.val (.int size), .val (.int steps), .val (.int chs), .val (.int (1 : Int32)), .val (.int (steps &&& (3 : Int32))), .val (.ref rr_1), .val (.ref rr_3), .val (.ref rr_7), .val (.ref b50), .val (.ref b64), .unset, .unset] [(.int (1 : Int32)), (.int (1 : Int32))]))
    refine Go.st (fun _ k' => XS.goto X92.here hx rfl (pc0 := 146) (pc' := 150) rfl (hb hby at_146) (by decide) (by decide) k') ?_
    show Go p e below s _ _ _ (T92.setTop (mkF m 150 #[.val (.int size), .val (.int steps), .val (.int chs), .val (.int (1 : Int32)), .val (.int (steps &&& (3 : Int32))), .val (.ref rr_1), .val (.ref rr_3), .val (.ref rr_7), .val (.ref b50), .val (.ref b64), .unset, .unset] [(.int (1 : Int32)), (.int (1 : Int32))]))
    refine Go.st (fun _ k' => XS.icmpNo X92.here hx rfl (hb hby at_150) rfl (XT.ii_ne_f (by decide)) k') ?_
    show Go p e below s _ _ _ (T92.setTop (mkF m 153 #[.val (.int size), .val (.int steps), .val (.int chs), .val (.int (1 : Int32)), .val (.int (steps &&& (3 : Int32))), .val (.ref rr_1), .val (.ref rr_3), .val (.ref rr_7), .val (.ref b50), .val (.ref b64), .unset, .unset] []))
    refine Go.st (fun _ k' => XS.iconst X92.here hx rfl (hb hby at_153) k') ?_
    show Go p e below s _ _ _ (T92.setTop (mkF m 154 #[.val (.int size), .val (.int steps), .val (.int chs), .val (.int (1 : Int32)), .val (.int (steps &&& (3 : Int32))), .val (.ref rr_1), .val (.ref rr_3), .val (.ref rr_7), .val (.ref b50), .val (.ref b64), .unset, .unset] [(.int (1 : Int32))]))
    refine Go.st (fun _ k' => XS.goto X92.here hx rfl (pc0 := 154) (pc' := 158) rfl (hb hby at_154) (by decide) (by decide) k') ?_
    show Go p e below s _ _ _ (T92.setTop (mkF m 158 #[.val (.int size), .val (.int steps), .val (.int chs), .val (.int (1 : Int32)), .val (.int (steps &&& (3 : Int32))), .val (.ref rr_1), .val (.ref rr_3), .val (.ref rr_7), .val (.ref b50), .val (.ref b64), .unset, .unset] [(.int (1 : Int32))]))
    refine Go.st (fun _ k' => XS.istore X92.here hx rfl (hb hby at_158) rfl (l' := #[.val (.int size), .val (.int steps), .val (.int chs), .val (.int (1 : Int32)), .val (.int (steps &&& (3 : Int32))), .val (.ref rr_1), .val (.ref rr_3), .val (.ref rr_7), .val (.ref b50), .val (.ref b64), .val (.int (1 : Int32)), .unset]) rfl k') ?_
    show Go p e below s _ _ _ (T92.setTop (mkF m 160 #[.val (.int size), .val (.int steps), .val (.int chs), .val (.int (1 : Int32)), .val (.int (steps &&& (3 : Int32))), .val (.ref rr_1), .val (.ref rr_3), .val (.ref rr_7), .val (.ref b50), .val (.ref b64), .val (.int (1 : Int32)), .unset] []))
    rcases own_c4 steps with hi160 | hi160 | hi160 | hi160
    · rw [hi160]
      show Go p e below s _ _ _ (T92.setTop (mkF m 160 #[.val (.int size), .val (.int steps), .val (.int chs), .val (.int (1 : Int32)), .val (.int (0 : Int32)), .val (.ref rr_1), .val (.ref rr_3), .val (.ref rr_7), .val (.ref b50), .val (.ref b64), .val (.int (1 : Int32)), .unset] []))
      refine Go.st (fun _ k' => XS.iload X92.here hx rfl (hb hby at_160) rfl k') ?_
      show Go p e below s _ _ _ (T92.setTop (mkF m 162 #[.val (.int size), .val (.int steps), .val (.int chs), .val (.int (1 : Int32)), .val (.int (0 : Int32)), .val (.ref rr_1), .val (.ref rr_3), .val (.ref rr_7), .val (.ref b50), .val (.ref b64), .val (.int (1 : Int32)), .unset] [(.int (0 : Int32))]))
      refine Go.st (fun _ k' => XS.iconst X92.here hx rfl (hb hby at_162) k') ?_
      show Go p e below s _ _ _ (T92.setTop (mkF m 163 #[.val (.int size), .val (.int steps), .val (.int chs), .val (.int (1 : Int32)), .val (.int (0 : Int32)), .val (.ref rr_1), .val (.ref rr_3), .val (.ref rr_7), .val (.ref b50), .val (.ref b64), .val (.int (1 : Int32)), .unset] [(.int (1 : Int32)), (.int (0 : Int32))]))
      refine Go.st (fun _ k' => XS.icmpYes X92.here hx rfl (pc0 := 163) (pc' := 230) rfl (hb hby at_163) rfl (XT.ii_lt_t (by decide)) (by decide) (by decide) k') ?_
      show Go p e below s _ _ _ (T92.setTop (mkF m 230 #[.val (.int size), .val (.int steps), .val (.int chs), .val (.int (1 : Int32)), .val (.int (0 : Int32)), .val (.ref rr_1), .val (.ref rr_3), .val (.ref rr_7), .val (.ref b50), .val (.ref b64), .val (.int (1 : Int32)), .unset] []))
      refine Go.st (fun _ k' => XS.iload X92.here hx rfl (hb hby at_230) rfl k') ?_
      show Go p e below s _ _ _ (T92.setTop (mkF m 232 #[.val (.int size), .val (.int steps), .val (.int chs), .val (.int (1 : Int32)), .val (.int (0 : Int32)), .val (.ref rr_1), .val (.ref rr_3), .val (.ref rr_7), .val (.ref b50), .val (.ref b64), .val (.int (1 : Int32)), .unset] [(.int (0 : Int32))]))
      refine Go.st (fun _ k' => XS.iconst X92.here hx rfl (hb hby at_232) k') ?_
      show Go p e below s _ _ _ (T92.setTop (mkF m 233 #[.val (.int size), .val (.int steps), .val (.int chs), .val (.int (1 : Int32)), .val (.int (0 : Int32)), .val (.ref rr_1), .val (.ref rr_3), .val (.ref rr_7), .val (.ref b50), .val (.ref b64), .val (.int (1 : Int32)), .unset] [(.int (2 : Int32)), (.int (0 : Int32))]))
      refine Go.st (fun _ k' => XS.icmpYes X92.here hx rfl (pc0 := 233) (pc' := 300) rfl (hb hby at_233) rfl (XT.ii_lt_t (by decide)) (by decide) (by decide) k') ?_
      show Go p e below s _ _ _ (T92.setTop (mkF m 300 #[.val (.int size), .val (.int steps), .val (.int chs), .val (.int (1 : Int32)), .val (.int (0 : Int32)), .val (.ref rr_1), .val (.ref rr_3), .val (.ref rr_7), .val (.ref b50), .val (.ref b64), .val (.int (1 : Int32)), .unset] []))
      refine Go.st (fun _ k' => XS.iload X92.here hx rfl (hb hby at_300) rfl k') ?_
      show Go p e below s _ _ _ (T92.setTop (mkF m 302 #[.val (.int size), .val (.int steps), .val (.int chs), .val (.int (1 : Int32)), .val (.int (0 : Int32)), .val (.ref rr_1), .val (.ref rr_3), .val (.ref rr_7), .val (.ref b50), .val (.ref b64), .val (.int (1 : Int32)), .unset] [(.int (0 : Int32))]))
      refine Go.st (fun _ k' => XS.iconst X92.here hx rfl (hb hby at_302) k') ?_
      show Go p e below s _ _ _ (T92.setTop (mkF m 303 #[.val (.int size), .val (.int steps), .val (.int chs), .val (.int (1 : Int32)), .val (.int (0 : Int32)), .val (.ref rr_1), .val (.ref rr_3), .val (.ref rr_7), .val (.ref b50), .val (.ref b64), .val (.int (1 : Int32)), .unset] [(.int (3 : Int32)), (.int (0 : Int32))]))
      refine Go.st (fun _ k' => XS.icmpYes X92.here hx rfl (pc0 := 303) (pc' := 360) rfl (hb hby at_303) rfl (XT.ii_lt_t (by decide)) (by decide) (by decide) k') ?_
      show Go p e below s _ _ _ (T92.setTop (mkF m 360 #[.val (.int size), .val (.int steps), .val (.int chs), .val (.int (1 : Int32)), .val (.int (0 : Int32)), .val (.ref rr_1), .val (.ref rr_3), .val (.ref rr_7), .val (.ref b50), .val (.ref b64), .val (.int (1 : Int32)), .unset] []))
      refine Go.st (fun _ k' => XS.iload X92.here hx rfl (hb hby at_360) rfl k') ?_
      show Go p e below s _ _ _ (T92.setTop (mkF m 362 #[.val (.int size), .val (.int steps), .val (.int chs), .val (.int (1 : Int32)), .val (.int (0 : Int32)), .val (.ref rr_1), .val (.ref rr_3), .val (.ref rr_7), .val (.ref b50), .val (.ref b64), .val (.int (1 : Int32)), .unset] [(.int (1 : Int32))]))
      refine Go.retB X92 hx hlk (t := .boolean) Bd.returns (by simp) (hb hby at_362) (by decide) (by decide) eq92 ?_
      exact ⟨rfl, N92, trivial⟩
    · rw [hi160]
      show Go p e below s _ _ _ (T92.setTop (mkF m 160 #[.val (.int size), .val (.int steps), .val (.int chs), .val (.int (1 : Int32)), .val (.int (1 : Int32)), .val (.ref rr_1), .val (.ref rr_3), .val (.ref rr_7), .val (.ref b50), .val (.ref b64), .val (.int (1 : Int32)), .unset] []))
      refine Go.st (fun _ k' => XS.iload X92.here hx rfl (hb hby at_160) rfl k') ?_
      show Go p e below s _ _ _ (T92.setTop (mkF m 162 #[.val (.int size), .val (.int steps), .val (.int chs), .val (.int (1 : Int32)), .val (.int (1 : Int32)), .val (.ref rr_1), .val (.ref rr_3), .val (.ref rr_7), .val (.ref b50), .val (.ref b64), .val (.int (1 : Int32)), .unset] [(.int (1 : Int32))]))
      refine Go.st (fun _ k' => XS.iconst X92.here hx rfl (hb hby at_162) k') ?_
      show Go p e below s _ _ _ (T92.setTop (mkF m 163 #[.val (.int size), .val (.int steps), .val (.int chs), .val (.int (1 : Int32)), .val (.int (1 : Int32)), .val (.ref rr_1), .val (.ref rr_3), .val (.ref rr_7), .val (.ref b50), .val (.ref b64), .val (.int (1 : Int32)), .unset] [(.int (1 : Int32)), (.int (1 : Int32))]))
      refine Go.st (fun _ k' => XS.icmpNo X92.here hx rfl (hb hby at_163) rfl (XT.ii_lt_f (by decide)) k') ?_
      show Go p e below s _ _ _ (T92.setTop (mkF m 166 #[.val (.int size), .val (.int steps), .val (.int chs), .val (.int (1 : Int32)), .val (.int (1 : Int32)), .val (.ref rr_1), .val (.ref rr_3), .val (.ref rr_7), .val (.ref b50), .val (.ref b64), .val (.int (1 : Int32)), .unset] []))
      refine Go.st (fun _ k' => XS.iloadN X92.here hx rfl (hb hby at_166) rfl k') ?_
      show Go p e below s _ _ _ (T92.setTop (mkF m 167 #[.val (.int size), .val (.int steps), .val (.int chs), .val (.int (1 : Int32)), .val (.int (1 : Int32)), .val (.ref rr_1), .val (.ref rr_3), .val (.ref rr_7), .val (.ref b50), .val (.ref b64), .val (.int (1 : Int32)), .unset] [(.int (1 : Int32))]))
      refine Go.st (fun _ k' => XS.iconst X92.here hx rfl (hb hby at_167) k') ?_
      show Go p e below s _ _ _ (T92.setTop (mkF m 168 #[.val (.int size), .val (.int steps), .val (.int chs), .val (.int (1 : Int32)), .val (.int (1 : Int32)), .val (.ref rr_1), .val (.ref rr_3), .val (.ref rr_7), .val (.ref b50), .val (.ref b64), .val (.int (1 : Int32)), .unset] [(.int (1 : Int32)), (.int (1 : Int32))]))
      refine Go.st (fun _ k' => XS.icmpNo X92.here hx rfl (hb hby at_168) rfl (XT.ii_lt_f (by decide)) k') ?_
      show Go p e below s _ _ _ (T92.setTop (mkF m 171 #[.val (.int size), .val (.int steps), .val (.int chs), .val (.int (1 : Int32)), .val (.int (1 : Int32)), .val (.ref rr_1), .val (.ref rr_3), .val (.ref rr_7), .val (.ref b50), .val (.ref b64), .val (.int (1 : Int32)), .unset] []))
      refine Go.st (fun _ k' => XS.aload X92.here hx rfl (hb hby at_171) rfl rfl k') ?_
      show Go p e below s _ _ _ (T92.setTop (mkF m 173 #[.val (.int size), .val (.int steps), .val (.int chs), .val (.int (1 : Int32)), .val (.int (1 : Int32)), .val (.ref rr_1), .val (.ref rr_3), .val (.ref rr_7), .val (.ref b50), .val (.ref b64), .val (.int (1 : Int32)), .unset] [(.ref b64)]))
      obtain ⟨cq93, kq93, q93a, q93b, q93c⟩ := isOf hZ eq92 f86
      obtain ⟨_, _, ⟨T93, L93, k93, n93⟩, -, X93, ⟨Lc93, hQ93, l93, y93, z93⟩, st93⟩ := X92.virtualBack hx (y := (⟨"com/example/reportwire/reportwire/Arguments", "next", "()Ljava/lang/String;"⟩ : MethodName)) (z := (⟨"com/example/reportwire/reportwire/Arguments", "next", "()Ljava/lang/String;"⟩ : MethodName)) hown (mvT hZ (wdx hw 93 rfl)) (mvT hZ (wdx hw 94 rfl)) (notFace_of_selects (args := #[]) (mvT hZ (wdx hw 96 rfl))) (mvT hZ (wdx hw 96 rfl)) (mvT hZ (wdx hw 95 rfl)) (by decide) (backOf (W := 0) (rm13_1_0 l Z a0 hw [] b64 na_77 kn_77 rr_1 T77.heap n0 O77 f86 f78 f79 f80 g_b64 ne91) hZ (wdx hw 97 rfl) (wdx hw 30 rfl) (by decide) (by decide)) q93a q93c (g := (mkF m 173 #[.val (.int size), .val (.int steps), .val (.int chs), .val (.int (1 : Int32)), .val (.int (1 : Int32)), .val (.ref rr_1), .val (.ref rr_3), .val (.ref rr_7), .val (.ref b50), .val (.ref b64), .val (.int (1 : Int32)), .unset] [(.ref b64)])) rfl (by rw [hml]; rfl) (Steps.refl _) (argsL := []) (rest := []) (lenOf pd___Ljava_lang_String_ rfl) rfl (by show 2 * 0 + _ ≤ _; exact Nat.le_of_eq rfl) (hb hby at_173) (fun _ _ => ⟨rfl, eq92, (by exact Nat.le_of_ble_eq_true rfl), (by exact Nat.le_of_ble_eq_true rfl)⟩)
      dsimp only [Pt.U, Pt.locs, Pt.cells, Pt.slots] at X93 l93 y93 z93 st93 hQ93
      subst l93 y93 z93
      obtain ⟨rfl, Nq93, Kq93, f94, f95⟩ := hQ93
      have N93 := Fr.app N92 Nq93
      refine Go.tr st93 ?_
      have f96 : Exa Z T93.heap rr_1 "java/lang/String" := f81.keep Kq93
      have f97 : Exa Z T93.heap rr_3 "java/lang/String" := f82.keep Kq93
      have f98 : Exa Z T93.heap rr_7 "java/lang/String" := f83.keep Kq93
      have f99 : Exa Z T93.heap b50 "[Ljava/lang/String;" := f84.keep Kq93
      have f100 : Arv Z T93.heap b50 k50 (.object "java/lang/String") (1 : Int32) [(.ref rr_1)] .null := f85.keep Kq93 (ninS ne68 nin0)
      have f101 : Exa Z T93.heap b64 "com/example/reportwire/reportwire/Arguments" := f86.keep Kq93
      have f102 : Arv Z T93.heap na_77 kn_77 (.object "java/lang/String") (1 : Int32) [(.ref rr_1)] .null := f80.keep Kq93 (ninS (Ne.symm ne91) nin0)
      have O93 : Old Z n0 T93.heap := O77.keep Kq93 (allS g_b64 all0)
      show Go p e below s _ _ _ (T93.setTop (mkF m 176 #[.val (.int size), .val (.int steps), .val (.int chs), .val (.int (1 : Int32)), .val (.int (1 : Int32)), .val (.ref rr_1), .val (.ref rr_3), .val (.ref rr_7), .val (.ref b50), .val (.ref b64), .val (.int (1 : Int32)), .unset] [(.ref rr_1)]))
      refine Go.st (fun _ k' => XS.astore X93.here hx rfl (hb hby at_176) rfl rfl (l' := #[.val (.int size), .val (.int steps), .val (.int chs), .val (.int (1 : Int32)), .val (.int (1 : Int32)), .val (.ref rr_1), .val (.ref rr_3), .val (.ref rr_7), .val (.ref b50), .val (.ref b64), .val (.int (1 : Int32)), .val (.ref rr_1)]) rfl k') ?_
      show Go p e below s _ _ _ (T93.setTop (mkF m 178 #[.val (.int size), .val (.int steps), .val (.int chs), .val (.int (1 : Int32)), .val (.int (1 : Int32)), .val (.ref rr_1), .val (.ref rr_3), .val (.ref rr_7), .val (.ref b50), .val (.ref b64), .val (.int (1 : Int32)), .val (.ref rr_1)] []))
      refine Go.st (fun _ k' => XS.aload X93.here hx rfl (hb hby at_178) rfl rfl k') ?_
      show Go p e below s _ _ _ (T93.setTop (mkF m 180 #[.val (.int size), .val (.int steps), .val (.int chs), .val (.int (1 : Int32)), .val (.int (1 : Int32)), .val (.ref rr_1), .val (.ref rr_3), .val (.ref rr_7), .val (.ref b50), .val (.ref b64), .val (.int (1 : Int32)), .val (.ref rr_1)] [(.ref rr_1)]))
      refine Go.st (fun _ k' => XS.aload X93.here hx rfl (hb hby at_180) rfl rfl k') ?_
      show Go p e below s _ _ _ (T93.setTop (mkF m 182 #[.val (.int size), .val (.int steps), .val (.int chs), .val (.int (1 : Int32)), .val (.int (1 : Int32)), .val (.ref rr_1), .val (.ref rr_3), .val (.ref rr_7), .val (.ref b50), .val (.ref b64), .val (.int (1 : Int32)), .val (.ref rr_1)] [(.ref rr_1), (.ref rr_1)]))
      obtain ⟨cq103, kq103, q103a, q103b, q103c⟩ := isOf hZ rfl f96
      obtain ⟨_, _, ⟨T103, L103, k103, n103⟩, -, X103, ⟨Lc103, hQ103, l103, y103, z103⟩, st103⟩ := X93.virtualBack hx (y := (⟨"java/lang/String", "equals", "(Ljava/lang/Object;)Z"⟩ : MethodName)) (z := (⟨"java/lang/String", "equals", "(Ljava/lang/Object;)Z"⟩ : MethodName)) hown (mvT hZ (wdx hw 104 rfl)) (mvT hZ (wdx hw 105 rfl)) (notFace_of_selects (args := #[]) (mvT hZ (wdx hw 107 rfl))) (mvT hZ (wdx hw 107 rfl)) (mvT hZ (wdx hw 106 rfl)) (by decide) (backOf (W := 0) (rm15 l Z a0 hw [] rr_1 T93.heap n0 O93 ) hZ (wdx hw 108 rfl) (wdx hw 2 rfl) (by decide) (by decide)) q103a q103c (g := (mkF m 182 #[.val (.int size), .val (.int steps), .val (.int chs), .val (.int (1 : Int32)), .val (.int (1 : Int32)), .val (.ref rr_1), .val (.ref rr_3), .val (.ref rr_7), .val (.ref b50), .val (.ref b64), .val (.int (1 : Int32)), .val (.ref rr_1)] [(.ref rr_1), (.ref rr_1)])) rfl (by rw [hml]; rfl) (Steps.refl _) (argsL := [(.ref rr_1)]) (rest := []) (lenOf pd__Ljava_lang_Object__Z rfl) rfl (by show 2 * 0 + _ ≤ _; exact Nat.le_of_eq rfl) (hb hby at_182) (fun _ _ => ⟨rfl, rfl, (by exact Nat.le_of_ble_eq_true rfl), (by exact Nat.le_of_ble_eq_true rfl)⟩)
      dsimp only [Pt.U, Pt.locs, Pt.cells, Pt.slots] at X103 l103 y103 z103 st103 hQ103
      subst l103 y103 z103
      obtain ⟨rfl, Nq103, eq103⟩ := hQ103
      have N103 := Fr.app N93 Nq103
      refine Go.tr st103 ?_
      show Go p e below s _ _ _ (T103.setTop (mkF m 185 #[.val (.int size), .val (.int steps), .val (.int chs), .val (.int (1 : Int32)), .val (.int (1 : Int32)), .val (.ref rr_1), .val (.ref rr_3), .val (.ref rr_7), .val (.ref b50), .val (.ref b64), .val (.int (1 : Int32)), .val (.ref rr_1)] [(.int (1 : Int32))]))
      refine Go.st (fun _ k' => XS.ifNo X103.here hx rfl (hb hby at_185) rfl (XT.i0_eq_f (by decide)) k') ?_
      show Go p e below s _ _ _ (T103.setTop (mkF m 188 #[.val (.int size), .val (.int steps), .val (.int chs), .val (.int (1 : Int32)), .val (.int (1 : Int32)), .val (.ref rr_1), .val (.ref rr_3), .val (.ref rr_7), .val (.ref b50), .val (.ref b64), .val (.int (1 : Int32)), .val (.ref rr_1)] []))
      refine Go.st (fun _ k' => XS.iload X103.here hx rfl (hb hby at_188) rfl k') ?_
      show Go p e below s _ _ _ (T103.setTop (mkF m 190 #[.val (.int size), .val (.int steps), .val (.int chs), .val (.int (1 : Int32)), .val (.int (1 : Int32)), .val (.ref rr_1), .val (.ref rr_3), .val (.ref rr_7), .val (.ref b50), .val (.ref b64), .val (.int (1 : Int32)), .val (.ref rr_1)] [(.int (1 : Int32))]))
      refine Go.st (fun _ k' => XS.ifNo X103.here hx rfl (hb hby at_190) rfl (XT.i0_eq_f (by decide)) k') ?_
      show Go p e below s _ _ _ (T103.setTop (mkF m 193 #[.val (.int size), .val (.int steps), .val (.int chs), .val (.int (1 : Int32)), .val (.int (1 : Int32)), .val (.ref rr_1), .val (.ref rr_3), .val (.ref rr_7), .val (.ref b50), .val (.ref b64), .val (.int (1 : Int32)), .val (.ref rr_1)] []))
      refine Go.st (fun _ k' => XS.iconst X103.here hx rfl (hb hby at_193) k') ?_
      show Go p e below s _ _ _ (T103.setTop (mkF m 194 #[.val (.int size), .val (.int steps), .val (.int chs), .val (.int (1 : Int32)), .val (.int (1 : Int32)), .val (.ref rr_1), .val (.ref rr_3), .val (.ref rr_7), .val (.ref b50), .val (.ref b64), .val (.int (1 : Int32)), .val (.ref rr_1)] [(.int (1 : Int32))]))
      refine Go.st (fun _ k' => XS.goto X103.here hx rfl (pc0 := 194) (pc' := 198) rfl (hb hby at_194) (by decide) (by decide) k') ?_
      show Go p e below s _ _ _ (T103.setTop (mkF m 198 #[.val (.int size), .val (.int steps), .val (.int chs), .val (.int (1 : Int32)), .val (.int (1 : Int32)), .val (.ref rr_1), .val (.ref rr_3), .val (.ref rr_7), .val (.ref b50), .val (.ref b64), .val (.int (1 : Int32)), .val (.ref rr_1)] [(.int (1 : Int32))]))
      refine Go.st (fun _ k' => XS.istore X103.here hx rfl (hb hby at_198) rfl (l' := #[.val (.int size), .val (.int steps), .val (.int chs), .val (.int (1 : Int32)), .val (.int (1 : Int32)), .val (.ref rr_1), .val (.ref rr_3), .val (.ref rr_7), .val (.ref b50), .val (.ref b64), .val (.int (1 : Int32)), .val (.ref rr_1)]) rfl k') ?_
      show Go p e below s _ _ _ (T103.setTop (mkF m 200 #[.val (.int size), .val (.int steps), .val (.int chs), .val (.int (1 : Int32)), .val (.int (1 : Int32)), .val (.ref rr_1), .val (.ref rr_3), .val (.ref rr_7), .val (.ref b50), .val (.ref b64), .val (.int (1 : Int32)), .val (.ref rr_1)] []))
      refine Go.st (fun _ k' => XS.aload X103.here hx rfl (hb hby at_200) rfl rfl k') ?_
      show Go p e below s _ _ _ (T103.setTop (mkF m 202 #[.val (.int size), .val (.int steps), .val (.int chs), .val (.int (1 : Int32)), .val (.int (1 : Int32)), .val (.ref rr_1), .val (.ref rr_3), .val (.ref rr_7), .val (.ref b50), .val (.ref b64), .val (.int (1 : Int32)), .val (.ref rr_1)] [(.ref b64)]))
      obtain ⟨cq104, kq104, q104a, q104b, q104c⟩ := isOf hZ eq103 f101
      obtain ⟨_, _, ⟨T104, L104, k104, n104⟩, -, X104, ⟨Lc104, hQ104, l104, y104, z104⟩, st104⟩ := X103.virtualBack hx (y := (⟨"com/example/reportwire/reportwire/Arguments", "hasNext", "()Z"⟩ : MethodName)) (z := (⟨"com/example/reportwire/reportwire/Arguments", "hasNext", "()Z"⟩ : MethodName)) hown (mvT hZ (wdx hw 86 rfl)) (mvT hZ (wdx hw 87 rfl)) (notFace_of_selects (args := #[]) (mvT hZ (wdx hw 89 rfl))) (mvT hZ (wdx hw 89 rfl)) (mvT hZ (wdx hw 88 rfl)) (by decide) (backOf (W := 0) (rm12_1_1 l Z a0 hw [] b64 na_77 kn_77 rr_1 T93.heap n0 O93 f94 f95 f102) hZ (wdx hw 90 rfl) (wdx hw 30 rfl) (by decide) (by decide)) q104a q104c (g := (mkF m 202 #[.val (.int size), .val (.int steps), .val (.int chs), .val (.int (1 : Int32)), .val (.int (1 : Int32)), .val (.ref rr_1), .val (.ref rr_3), .val (.ref rr_7), .val (.ref b50), .val (.ref b64), .val (.int (1 : Int32)), .val (.ref rr_1)] [(.ref b64)])) rfl (by rw [hml]; rfl) (Steps.refl _) (argsL := []) (rest := []) (lenOf pd___Z rfl) rfl (by show 2 * 0 + _ ≤ _; exact Nat.le_of_eq rfl) (hb hby at_202) (fun _ _ => ⟨rfl, eq103, (by exact Nat.le_of_ble_eq_true rfl), (by exact Nat.le_of_ble_eq_true rfl)⟩)
      dsimp only [Pt.U, Pt.locs, Pt.cells, Pt.slots] at X104 l104 y104 z104 st104 hQ104
      subst l104 y104 z104
      obtain ⟨rfl, Nq104, eq104⟩ := hQ104
      have N104 := Fr.app N103 Nq104
      refine Go.tr st104 ?_
      show Go p e below s _ _ _ (T104.setTop (mkF m 205 #[.val (.int size), .val (.int steps), .val (.int chs), .val (.int (1 : Int32)), .val (.int (1 : Int32)), .val (.ref rr_1), .val (.ref rr_3), .val (.ref rr_7), .val (.ref b50), .val (.ref b64), .val (.int (1 : Int32)), .val (.ref rr_1)] [(.int (0 : Int32))]))
      refine Go.st (fun _ k' => XS.iloadN X104.here hx rfl (hb hby at_205) rfl k') ?_
      show Go p e below s _ _ _ (T104.setTop (mkF m 206 #[.val (.int size), .val (.int steps), .val (.int chs), .val (.int (1 : Int32)), .val (.int (1 : Int32)), .val (.ref rr_1), .val (.ref rr_3), .val (.ref rr_7), .val (.ref b50), .val (.ref b64), .val (.int (1 : Int32)), .val (.ref rr_1)] [(.int (1 : Int32)), (.int (0 : Int32))]))
      refine Go.st (fun _ k' => XS.iconst X104.here hx rfl (hb hby at_206) k') ?_
      show Go p e below s _ _ _ (T104.setTop (mkF m 207 #[.val (.int size), .val (.int steps), .val (.int chs), .val (.int (1 : Int32)), .val (.int (1 : Int32)), .val (.ref rr_1), .val (.ref rr_3), .val (.ref rr_7), .val (.ref b50), .val (.ref b64), .val (.int (1 : Int32)), .val (.ref rr_1)] [(.int (1 : Int32)), (.int (1 : Int32)), (.int (0 : Int32))]))
      refine Go.st (fun _ k' => XS.icmpYes X104.here hx rfl (pc0 := 207) (pc' := 214) rfl (hb hby at_207) rfl (XT.ii_le_t (by decide)) (by decide) (by decide) k') ?_
      show Go p e below s _ _ _ (T104.setTop (mkF m 214 #[.val (.int size), .val (.int steps), .val (.int chs), .val (.int (1 : Int32)), .val (.int (1 : Int32)), .val (.ref rr_1), .val (.ref rr_3), .val (.ref rr_7), .val (.ref b50), .val (.ref b64), .val (.int (1 : Int32)), .val (.ref rr_1)] [(.int (0 : Int32))]))
      refine Go.st (fun _ k' => XS.iconst X104.here hx rfl (hb hby at_214) k') ?_
      show Go p e below s _ _ _ (T104.setTop (mkF m 215 #[.val (.int size), .val (.int steps), .val (.int chs), .val (.int (1 : Int32)), .val (.int (1 : Int32)), .val (.ref rr_1), .val (.ref rr_3), .val (.ref rr_7), .val (.ref b50), .val (.ref b64), .val (.int (1 : Int32)), .val (.ref rr_1)] [(.int (0 : Int32)), (.int (0 : Int32))]))
      refine Go.st (fun _ k' => XS.icmpNo X104.here hx rfl (hb hby at_215) rfl (XT.ii_ne_f (by decide)) k') ?_
      show Go p e below s _ _ _ (T104.setTop (mkF m 218 #[.val (.int size), .val (.int steps), .val (.int chs), .val (.int (1 : Int32)), .val (.int (1 : Int32)), .val (.ref rr_1), .val (.ref rr_3), .val (.ref rr_7), .val (.ref b50), .val (.ref b64), .val (.int (1 : Int32)), .val (.ref rr_1)] []))
      refine Go.st (fun _ k' => XS.iload X104.here hx rfl (hb hby at_218) rfl k') ?_
      show Go p e below s _ _ _ (T104.setTop (mkF m 220 #[.val (.int size), .val (.int steps), .val (.int chs), .val (.int (1 : Int32)), .val (.int (1 : Int32)), .val (.ref rr_1), .val (.ref rr_3), .val (.ref rr_7), .val (.ref b50), .val (.ref b64), .val (.int (1 : Int32)), .val (.ref rr_1)] [(.int (1 : Int32))]))
      refine Go.st (fun _ k' => XS.ifNo X104.here hx rfl (hb hby at_220) rfl (XT.i0_eq_f (by decide)) k') ?_
      show Go p e below s _ _ _ (T104.setTop (mkF m 223 #[.val (.int size), .val (.int steps), .val (.int chs), .val (.int (1 : Int32)), .val (.int (1 : Int32)), .val (.ref rr_1), .val (.ref rr_3), .val (.ref rr_7), .val (.ref b50), .val (.ref b64), .val (.int (1 : Int32)), .val (.ref rr_1)] []))
      refine Go.st (fun _ k' => XS.iconst X104.here hx rfl (hb hby at_223) k') ?_
      show Go p e below s _ _ _ (T104.setTop (mkF m 224 #[.val (.int size), .val (.int steps), .val (.int chs), .val (.int (1 : Int32)), .val (.int (1 : Int32)), .val (.ref rr_1), .val (.ref rr_3), .val (.ref rr_7), .val (.ref b50), .val (.ref b64), .val (.int (1 : Int32)), .val (.ref rr_1)] [(.int (1 : Int32))]))
      refine Go.st (fun _ k' => XS.goto X104.here hx rfl (pc0 := 224) (pc' := 228) rfl (hb hby at_224) (by decide) (by decide) k') ?_
      show Go p e below s _ _ _ (T104.setTop (mkF m 228 #[.val (.int size), .val (.int steps), .val (.int chs), .val (.int (1 : Int32)), .val (.int (1 : Int32)), .val (.ref rr_1), .val (.ref rr_3), .val (.ref rr_7), .val (.ref b50), .val (.ref b64), .val (.int (1 : Int32)), .val (.ref rr_1)] [(.int (1 : Int32))]))
      refine Go.st (fun _ k' => XS.istore X104.here hx rfl (hb hby at_228) rfl (l' := #[.val (.int size), .val (.int steps), .val (.int chs), .val (.int (1 : Int32)), .val (.int (1 : Int32)), .val (.ref rr_1), .val (.ref rr_3), .val (.ref rr_7), .val (.ref b50), .val (.ref b64), .val (.int (1 : Int32)), .val (.ref rr_1)]) rfl k') ?_
      show Go p e below s _ _ _ (T104.setTop (mkF m 230 #[.val (.int size), .val (.int steps), .val (.int chs), .val (.int (1 : Int32)), .val (.int (1 : Int32)), .val (.ref rr_1), .val (.ref rr_3), .val (.ref rr_7), .val (.ref b50), .val (.ref b64), .val (.int (1 : Int32)), .val (.ref rr_1)] []))
      refine Go.st (fun _ k' => XS.iload X104.here hx rfl (hb hby at_230) rfl k') ?_
      show Go p e below s _ _ _ (T104.setTop (mkF m 232 #[.val (.int size), .val (.int steps), .val (.int chs), .val (.int (1 : Int32)), .val (.int (1 : Int32)), .val (.ref rr_1), .val (.ref rr_3), .val (.ref rr_7), .val (.ref b50), .val (.ref b64), .val (.int (1 : Int32)), .val (.ref rr_1)] [(.int (1 : Int32))]))
      refine Go.st (fun _ k' => XS.iconst X104.here hx rfl (hb hby at_232) k') ?_
      show Go p e below s _ _ _ (T104.setTop (mkF m 233 #[.val (.int size), .val (.int steps), .val (.int chs), .val (.int (1 : Int32)), .val (.int (1 : Int32)), .val (.ref rr_1), .val (.ref rr_3), .val (.ref rr_7), .val (.ref b50), .val (.ref b64), .val (.int (1 : Int32)), .val (.ref rr_1)] [(.int (2 : Int32)), (.int (1 : Int32))]))
      refine Go.st (fun _ k' => XS.icmpYes X104.here hx rfl (pc0 := 233) (pc' := 300) rfl (hb hby at_233) rfl (XT.ii_lt_t (by decide)) (by decide) (by decide) k') ?_
      show Go p e below s _ _ _ (T104.setTop (mkF m 300 #[.val (.int size), .val (.int steps), .val (.int chs), .val (.int (1 : Int32)), .val (.int (1 : Int32)), .val (.ref rr_1), .val (.ref rr_3), .val (.ref rr_7), .val (.ref b50), .val (.ref b64), .val (.int (1 : Int32)), .val (.ref rr_1)] []))
      refine Go.st (fun _ k' => XS.iload X104.here hx rfl (hb hby at_300) rfl k') ?_
      show Go p e below s _ _ _ (T104.setTop (mkF m 302 #[.val (.int size), .val (.int steps), .val (.int chs), .val (.int (1 : Int32)), .val (.int (1 : Int32)), .val (.ref rr_1), .val (.ref rr_3), .val (.ref rr_7), .val (.ref b50), .val (.ref b64), .val (.int (1 : Int32)), .val (.ref rr_1)] [(.int (1 : Int32))]))
      refine Go.st (fun _ k' => XS.iconst X104.here hx rfl (hb hby at_302) k') ?_
      show Go p e below s _ _ _ (T104.setTop (mkF m 303 #[.val (.int size), .val (.int steps), .val (.int chs), .val (.int (1 : Int32)), .val (.int (1 : Int32)), .val (.ref rr_1), .val (.ref rr_3), .val (.ref rr_7), .val (.ref b50), .val (.ref b64), .val (.int (1 : Int32)), .val (.ref rr_1)] [(.int (3 : Int32)), (.int (1 : Int32))]))
      refine Go.st (fun _ k' => XS.icmpYes X104.here hx rfl (pc0 := 303) (pc' := 360) rfl (hb hby at_303) rfl (XT.ii_lt_t (by decide)) (by decide) (by decide) k') ?_
      show Go p e below s _ _ _ (T104.setTop (mkF m 360 #[.val (.int size), .val (.int steps), .val (.int chs), .val (.int (1 : Int32)), .val (.int (1 : Int32)), .val (.ref rr_1), .val (.ref rr_3), .val (.ref rr_7), .val (.ref b50), .val (.ref b64), .val (.int (1 : Int32)), .val (.ref rr_1)] []))
      refine Go.st (fun _ k' => XS.iload X104.here hx rfl (hb hby at_360) rfl k') ?_
      show Go p e below s _ _ _ (T104.setTop (mkF m 362 #[.val (.int size), .val (.int steps), .val (.int chs), .val (.int (1 : Int32)), .val (.int (1 : Int32)), .val (.ref rr_1), .val (.ref rr_3), .val (.ref rr_7), .val (.ref b50), .val (.ref b64), .val (.int (1 : Int32)), .val (.ref rr_1)] [(.int (1 : Int32))]))
      refine Go.retB X104 hx hlk (t := .boolean) Bd.returns (by simp) (hb hby at_362) (by decide) (by decide) eq104 ?_
      exact ⟨rfl, N104, trivial⟩
    · rw [hi160]
      show Go p e below s _ _ _ (T92.setTop (mkF m 160 #[.val (.int size), .val (.int steps), .val (.int chs), .val (.int (1 : Int32)), .val (.int (2 : Int32)), .val (.ref rr_1), .val (.ref rr_3), .val (.ref rr_7), .val (.ref b50), .val (.ref b64), .val (.int (1 : Int32)), .unset] []))
      refine Go.st (fun _ k' => XS.iload X92.here hx rfl (hb hby at_160) rfl k') ?_
      show Go p e below s _ _ _ (T92.setTop (mkF m 162 #[.val (.int size), .val (.int steps), .val (.int chs), .val (.int (1 : Int32)), .val (.int (2 : Int32)), .val (.ref rr_1), .val (.ref rr_3), .val (.ref rr_7), .val (.ref b50), .val (.ref b64), .val (.int (1 : Int32)), .unset] [(.int (2 : Int32))]))
      refine Go.st (fun _ k' => XS.iconst X92.here hx rfl (hb hby at_162) k') ?_
      show Go p e below s _ _ _ (T92.setTop (mkF m 163 #[.val (.int size), .val (.int steps), .val (.int chs), .val (.int (1 : Int32)), .val (.int (2 : Int32)), .val (.ref rr_1), .val (.ref rr_3), .val (.ref rr_7), .val (.ref b50), .val (.ref b64), .val (.int (1 : Int32)), .unset] [(.int (1 : Int32)), (.int (2 : Int32))]))
      refine Go.st (fun _ k' => XS.icmpNo X92.here hx rfl (hb hby at_163) rfl (XT.ii_lt_f (by decide)) k') ?_
      show Go p e below s _ _ _ (T92.setTop (mkF m 166 #[.val (.int size), .val (.int steps), .val (.int chs), .val (.int (1 : Int32)), .val (.int (2 : Int32)), .val (.ref rr_1), .val (.ref rr_3), .val (.ref rr_7), .val (.ref b50), .val (.ref b64), .val (.int (1 : Int32)), .unset] []))
      refine Go.st (fun _ k' => XS.iloadN X92.here hx rfl (hb hby at_166) rfl k') ?_
      show Go p e below s _ _ _ (T92.setTop (mkF m 167 #[.val (.int size), .val (.int steps), .val (.int chs), .val (.int (1 : Int32)), .val (.int (2 : Int32)), .val (.ref rr_1), .val (.ref rr_3), .val (.ref rr_7), .val (.ref b50), .val (.ref b64), .val (.int (1 : Int32)), .unset] [(.int (1 : Int32))]))
      refine Go.st (fun _ k' => XS.iconst X92.here hx rfl (hb hby at_167) k') ?_
      show Go p e below s _ _ _ (T92.setTop (mkF m 168 #[.val (.int size), .val (.int steps), .val (.int chs), .val (.int (1 : Int32)), .val (.int (2 : Int32)), .val (.ref rr_1), .val (.ref rr_3), .val (.ref rr_7), .val (.ref b50), .val (.ref b64), .val (.int (1 : Int32)), .unset] [(.int (1 : Int32)), (.int (1 : Int32))]))
      refine Go.st (fun _ k' => XS.icmpNo X92.here hx rfl (hb hby at_168) rfl (XT.ii_lt_f (by decide)) k') ?_
      show Go p e below s _ _ _ (T92.setTop (mkF m 171 #[.val (.int size), .val (.int steps), .val (.int chs), .val (.int (1 : Int32)), .val (.int (2 : Int32)), .val (.ref rr_1), .val (.ref rr_3), .val (.ref rr_7), .val (.ref b50), .val (.ref b64), .val (.int (1 : Int32)), .unset] []))
      refine Go.st (fun _ k' => XS.aload X92.here hx rfl (hb hby at_171) rfl rfl k') ?_
      show Go p e below s _ _ _ (T92.setTop (mkF m 173 #[.val (.int size), .val (.int steps), .val (.int chs), .val (.int (1 : Int32)), .val (.int (2 : Int32)), .val (.ref rr_1), .val (.ref rr_3), .val (.ref rr_7), .val (.ref b50), .val (.ref b64), .val (.int (1 : Int32)), .unset] [(.ref b64)]))
      obtain ⟨cq105, kq105, q105a, q105b, q105c⟩ := isOf hZ eq92 f86
      obtain ⟨_, _, ⟨T105, L105, k105, n105⟩, -, X105, ⟨Lc105, hQ105, l105, y105, z105⟩, st105⟩ := X92.virtualBack hx (y := (⟨"com/example/reportwire/reportwire/Arguments", "next", "()Ljava/lang/String;"⟩ : MethodName)) (z := (⟨"com/example/reportwire/reportwire/Arguments", "next", "()Ljava/lang/String;"⟩ : MethodName)) hown (mvT hZ (wdx hw 93 rfl)) (mvT hZ (wdx hw 94 rfl)) (notFace_of_selects (args := #[]) (mvT hZ (wdx hw 96 rfl))) (mvT hZ (wdx hw 96 rfl)) (mvT hZ (wdx hw 95 rfl)) (by decide) (backOf (W := 0) (rm13_1_0 l Z a0 hw [] b64 na_77 kn_77 rr_1 T77.heap n0 O77 f86 f78 f79 f80 g_b64 ne91) hZ (wdx hw 97 rfl) (wdx hw 30 rfl) (by decide) (by decide)) q105a q105c (g := (mkF m 173 #[.val (.int size), .val (.int steps), .val (.int chs), .val (.int (1 : Int32)), .val (.int (2 : Int32)), .val (.ref rr_1), .val (.ref rr_3), .val (.ref rr_7), .val (.ref b50), .val (.ref b64), .val (.int (1 : Int32)), .unset] [(.ref b64)])) rfl (by rw [hml]; rfl) (Steps.refl _) (argsL := []) (rest := []) (lenOf pd___Ljava_lang_String_ rfl) rfl (by show 2 * 0 + _ ≤ _; exact Nat.le_of_eq rfl) (hb hby at_173) (fun _ _ => ⟨rfl, eq92, (by exact Nat.le_of_ble_eq_true rfl), (by exact Nat.le_of_ble_eq_true rfl)⟩)
      dsimp only [Pt.U, Pt.locs, Pt.cells, Pt.slots] at X105 l105 y105 z105 st105 hQ105
      subst l105 y105 z105
      obtain ⟨rfl, Nq105, Kq105, f106, f107⟩ := hQ105
      have N105 := Fr.app N92 Nq105
      refine Go.tr st105 ?_
      have f108 : Exa Z T105.heap rr_1 "java/lang/String" := f81.keep Kq105
      have f109 : Exa Z T105.heap rr_3 "java/lang/String" := f82.keep Kq105
      have f110 : Exa Z T105.heap rr_7 "java/lang/String" := f83.keep Kq105
      have f111 : Exa Z T105.heap b50 "[Ljava/lang/String;" := f84.keep Kq105
      have f112 : Arv Z T105.heap b50 k50 (.object "java/lang/String") (1 : Int32) [(.ref rr_1)] .null := f85.keep Kq105 (ninS ne68 nin0)
      have f113 : Exa Z T105.heap b64 "com/example/reportwire/reportwire/Arguments" := f86.keep Kq105
      have f114 : Arv Z T105.heap na_77 kn_77 (.object "java/lang/String") (1 : Int32) [(.ref rr_1)] .null := f80.keep Kq105 (ninS (Ne.symm ne91) nin0)
      have O105 : Old Z n0 T105.heap := O77.keep Kq105 (allS g_b64 all0)
      show Go p e below s _ _ _ (T105.setTop (mkF m 176 #[.val (.int size), .val (.int steps), .val (.int chs), .val (.int (1 : Int32)), .val (.int (2 : Int32)), .val (.ref rr_1), .val (.ref rr_3), .val (.ref rr_7), .val (.ref b50), .val (.ref b64), .val (.int (1 : Int32)), .unset] [(.ref rr_1)]))
      refine Go.st (fun _ k' => XS.astore X105.here hx rfl (hb hby at_176) rfl rfl (l' := #[.val (.int size), .val (.int steps), .val (.int chs), .val (.int (1 : Int32)), .val (.int (2 : Int32)), .val (.ref rr_1), .val (.ref rr_3), .val (.ref rr_7), .val (.ref b50), .val (.ref b64), .val (.int (1 : Int32)), .val (.ref rr_1)]) rfl k') ?_
      show Go p e below s _ _ _ (T105.setTop (mkF m 178 #[.val (.int size), .val (.int steps), .val (.int chs), .val (.int (1 : Int32)), .val (.int (2 : Int32)), .val (.ref rr_1), .val (.ref rr_3), .val (.ref rr_7), .val (.ref b50), .val (.ref b64), .val (.int (1 : Int32)), .val (.ref rr_1)] []))
      refine Go.st (fun _ k' => XS.aload X105.here hx rfl (hb hby at_178) rfl rfl k') ?_
      show Go p e below s _ _ _ (T105.setTop (mkF m 180 #[.val (.int size), .val (.int steps), .val (.int chs), .val (.int (1 : Int32)), .val (.int (2 : Int32)), .val (.ref rr_1), .val (.ref rr_3), .val (.ref rr_7), .val (.ref b50), .val (.ref b64), .val (.int (1 : Int32)), .val (.ref rr_1)] [(.ref rr_1)]))
      refine Go.st (fun _ k' => XS.aload X105.here hx rfl (hb hby at_180) rfl rfl k') ?_
      show Go p e below s _ _ _ (T105.setTop (mkF m 182 #[.val (.int size), .val (.int steps), .val (.int chs), .val (.int (1 : Int32)), .val (.int (2 : Int32)), .val (.ref rr_1), .val (.ref rr_3), .val (.ref rr_7), .val (.ref b50), .val (.ref b64), .val (.int (1 : Int32)), .val (.ref rr_1)] [(.ref rr_1), (.ref rr_1)]))
      obtain ⟨cq115, kq115, q115a, q115b, q115c⟩ := isOf hZ rfl f108
      obtain ⟨_, _, ⟨T115, L115, k115, n115⟩, -, X115, ⟨Lc115, hQ115, l115, y115, z115⟩, st115⟩ := X105.virtualBack hx (y := (⟨"java/lang/String", "equals", "(Ljava/lang/Object;)Z"⟩ : MethodName)) (z := (⟨"java/lang/String", "equals", "(Ljava/lang/Object;)Z"⟩ : MethodName)) hown (mvT hZ (wdx hw 104 rfl)) (mvT hZ (wdx hw 105 rfl)) (notFace_of_selects (args := #[]) (mvT hZ (wdx hw 107 rfl))) (mvT hZ (wdx hw 107 rfl)) (mvT hZ (wdx hw 106 rfl)) (by decide) (backOf (W := 0) (rm15 l Z a0 hw [] rr_1 T105.heap n0 O105 ) hZ (wdx hw 108 rfl) (wdx hw 2 rfl) (by decide) (by decide)) q115a q115c (g := (mkF m 182 #[.val (.int size), .val (.int steps), .val (.int chs), .val (.int (1 : Int32)), .val (.int (2 : Int32)), .val (.ref rr_1), .val (.ref rr_3), .val (.ref rr_7), .val (.ref b50), .val (.ref b64), .val (.int (1 : Int32)), .val (.ref rr_1)] [(.ref rr_1), (.ref rr_1)])) rfl (by rw [hml]; rfl) (Steps.refl _) (argsL := [(.ref rr_1)]) (rest := []) (lenOf pd__Ljava_lang_Object__Z rfl) rfl (by show 2 * 0 + _ ≤ _; exact Nat.le_of_eq rfl) (hb hby at_182) (fun _ _ => ⟨rfl, rfl, (by exact Nat.le_of_ble_eq_true rfl), (by exact Nat.le_of_ble_eq_true rfl)⟩)
      dsimp only [Pt.U, Pt.locs, Pt.cells, Pt.slots] at X115 l115 y115 z115 st115 hQ115
      subst l115 y115 z115
      obtain ⟨rfl, Nq115, eq115⟩ := hQ115
      have N115 := Fr.app N105 Nq115
      refine Go.tr st115 ?_
      show Go p e below s _ _ _ (T115.setTop (mkF m 185 #[.val (.int size), .val (.int steps), .val (.int chs), .val (.int (1 : Int32)), .val (.int (2 : Int32)), .val (.ref rr_1), .val (.ref rr_3), .val (.ref rr_7), .val (.ref b50), .val (.ref b64), .val (.int (1 : Int32)), .val (.ref rr_1)] [(.int (1 : Int32))]))
      refine Go.st (fun _ k' => XS.ifNo X115.here hx rfl (hb hby at_185) rfl (XT.i0_eq_f (by decide)) k') ?_
      show Go p e below s _ _ _ (T115.setTop (mkF m 188 #[.val (.int size), .val (.int steps), .val (.int chs), .val (.int (1 : Int32)), .val (.int (2 : Int32)), .val (.ref rr_1), .val (.ref rr_3), .val (.ref rr_7), .val (.ref b50), .val (.ref b64), .val (.int (1 : Int32)), .val (.ref rr_1)] []))
      refine Go.st (fun _ k' => XS.iload X115.here hx rfl (hb hby at_188) rfl k') ?_
      show Go p e below s _ _ _ (T115.setTop (mkF m 190 #[.val (.int size), .val (.int steps), .val (.int chs), .val (.int (1 : Int32)), .val (.int (2 : Int32)), .val (.ref rr_1), .val (.ref rr_3), .val (.ref rr_7), .val (.ref b50), .val (.ref b64), .val (.int (1 : Int32)), .val (.ref rr_1)] [(.int (1 : Int32))]))
      refine Go.st (fun _ k' => XS.ifNo X115.here hx rfl (hb hby at_190) rfl (XT.i0_eq_f (by decide)) k') ?_
      show Go p e below s _ _ _ (T115.setTop (mkF m 193 #[.val (.int size), .val (.int steps), .val (.int chs), .val (.int (1 : Int32)), .val (.int (2 : Int32)), .val (.ref rr_1), .val (.ref rr_3), .val (.ref rr_7), .val (.ref b50), .val (.ref b64), .val (.int (1 : Int32)), .val (.ref rr_1)] []))
      refine Go.st (fun _ k' => XS.iconst X115.here hx rfl (hb hby at_193) k') ?_
      show Go p e below s _ _ _ (T115.setTop (mkF m 194 #[.val (.int size), .val (.int steps), .val (.int chs), .val (.int (1 : Int32)), .val (.int (2 : Int32)), .val (.ref rr_1), .val (.ref rr_3), .val (.ref rr_7), .val (.ref b50), .val (.ref b64), .val (.int (1 : Int32)), .val (.ref rr_1)] [(.int (1 : Int32))]))
      refine Go.st (fun _ k' => XS.goto X115.here hx rfl (pc0 := 194) (pc' := 198) rfl (hb hby at_194) (by decide) (by decide) k') ?_
      show Go p e below s _ _ _ (T115.setTop (mkF m 198 #[.val (.int size), .val (.int steps), .val (.int chs), .val (.int (1 : Int32)), .val (.int (2 : Int32)), .val (.ref rr_1), .val (.ref rr_3), .val (.ref rr_7), .val (.ref b50), .val (.ref b64), .val (.int (1 : Int32)), .val (.ref rr_1)] [(.int (1 : Int32))]))
      refine Go.st (fun _ k' => XS.istore X115.here hx rfl (hb hby at_198) rfl (l' := #[.val (.int size), .val (.int steps), .val (.int chs), .val (.int (1 : Int32)), .val (.int (2 : Int32)), .val (.ref rr_1), .val (.ref rr_3), .val (.ref rr_7), .val (.ref b50), .val (.ref b64), .val (.int (1 : Int32)), .val (.ref rr_1)]) rfl k') ?_
      show Go p e below s _ _ _ (T115.setTop (mkF m 200 #[.val (.int size), .val (.int steps), .val (.int chs), .val (.int (1 : Int32)), .val (.int (2 : Int32)), .val (.ref rr_1), .val (.ref rr_3), .val (.ref rr_7), .val (.ref b50), .val (.ref b64), .val (.int (1 : Int32)), .val (.ref rr_1)] []))
      refine Go.st (fun _ k' => XS.aload X115.here hx rfl (hb hby at_200) rfl rfl k') ?_
      show Go p e below s _ _ _ (T115.setTop (mkF m 202 #[.val (.int size), .val (.int steps), .val (.int chs), .val (.int (1 : Int32)), .val (.int (2 : Int32)), .val (.ref rr_1), .val (.ref rr_3), .val (.ref rr_7), .val (.ref b50), .val (.ref b64), .val (.int (1 : Int32)), .val (.ref rr_1)] [(.ref b64)]))
      obtain ⟨cq116, kq116, q116a, q116b, q116c⟩ := isOf hZ eq115 f113
      obtain ⟨_, _, ⟨T116, L116, k116, n116⟩, -, X116, ⟨Lc116, hQ116, l116, y116, z116⟩, st116⟩ := X115.virtualBack hx (y := (⟨"com/example/reportwire/reportwire/Arguments", "hasNext", "()Z"⟩ : MethodName)) (z := (⟨"com/example/reportwire/reportwire/Arguments", "hasNext", "()Z"⟩ : MethodName)) hown (mvT hZ (wdx hw 86 rfl)) (mvT hZ (wdx hw 87 rfl)) (notFace_of_selects (args := #[]) (mvT hZ (wdx hw 89 rfl))) (mvT hZ (wdx hw 89 rfl)) (mvT hZ (wdx hw 88 rfl)) (by decide) (backOf (W := 0) (rm12_1_1 l Z a0 hw [] b64 na_77 kn_77 rr_1 T105.heap n0 O105 f106 f107 f114) hZ (wdx hw 90 rfl) (wdx hw 30 rfl) (by decide) (by decide)) q116a q116c (g := (mkF m 202 #[.val (.int size), .val (.int steps), .val (.int chs), .val (.int (1 : Int32)), .val (.int (2 : Int32)), .val (.ref rr_1), .val (.ref rr_3), .val (.ref rr_7), .val (.ref b50), .val (.ref b64), .val (.int (1 : Int32)), .val (.ref rr_1)] [(.ref b64)])) rfl (by rw [hml]; rfl) (Steps.refl _) (argsL := []) (rest := []) (lenOf pd___Z rfl) rfl (by show 2 * 0 + _ ≤ _; exact Nat.le_of_eq rfl) (hb hby at_202) (fun _ _ => ⟨rfl, eq115, (by exact Nat.le_of_ble_eq_true rfl), (by exact Nat.le_of_ble_eq_true rfl)⟩)
      dsimp only [Pt.U, Pt.locs, Pt.cells, Pt.slots] at X116 l116 y116 z116 st116 hQ116
      subst l116 y116 z116
      obtain ⟨rfl, Nq116, eq116⟩ := hQ116
      have N116 := Fr.app N115 Nq116
      refine Go.tr st116 ?_
      show Go p e below s _ _ _ (T116.setTop (mkF m 205 #[.val (.int size), .val (.int steps), .val (.int chs), .val (.int (1 : Int32)), .val (.int (2 : Int32)), .val (.ref rr_1), .val (.ref rr_3), .val (.ref rr_7), .val (.ref b50), .val (.ref b64), .val (.int (1 : Int32)), .val (.ref rr_1)] [(.int (0 : Int32))]))
      refine Go.st (fun _ k' => XS.iloadN X116.here hx rfl (hb hby at_205) rfl k') ?_
      show Go p e below s _ _ _ (T116.setTop (mkF m 206 #[.val (.int size), .val (.int steps), .val (.int chs), .val (.int (1 : Int32)), .val (.int (2 : Int32)), .val (.ref rr_1), .val (.ref rr_3), .val (.ref rr_7), .val (.ref b50), .val (.ref b64), .val (.int (1 : Int32)), .val (.ref rr_1)] [(.int (1 : Int32)), (.int (0 : Int32))]))
      refine Go.st (fun _ k' => XS.iconst X116.here hx rfl (hb hby at_206) k') ?_
      show Go p e below s _ _ _ (T116.setTop (mkF m 207 #[.val (.int size), .val (.int steps), .val (.int chs), .val (.int (1 : Int32)), .val (.int (2 : Int32)), .val (.ref rr_1), .val (.ref rr_3), .val (.ref rr_7), .val (.ref b50), .val (.ref b64), .val (.int (1 : Int32)), .val (.ref rr_1)] [(.int (1 : Int32)), (.int (1 : Int32)), (.int (0 : Int32))]))
      refine Go.st (fun _ k' => XS.icmpYes X116.here hx rfl (pc0 := 207) (pc' := 214) rfl (hb hby at_207) rfl (XT.ii_le_t (by decide)) (by decide) (by decide) k') ?_
      show Go p e below s _ _ _ (T116.setTop (mkF m 214 #[.val (.int size), .val (.int steps), .val (.int chs), .val (.int (1 : Int32)), .val (.int (2 : Int32)), .val (.ref rr_1), .val (.ref rr_3), .val (.ref rr_7), .val (.ref b50), .val (.ref b64), .val (.int (1 : Int32)), .val (.ref rr_1)] [(.int (0 : Int32))]))
      refine Go.st (fun _ k' => XS.iconst X116.here hx rfl (hb hby at_214) k') ?_
      show Go p e below s _ _ _ (T116.setTop (mkF m 215 #[.val (.int size), .val (.int steps), .val (.int chs), .val (.int (1 : Int32)), .val (.int (2 : Int32)), .val (.ref rr_1), .val (.ref rr_3), .val (.ref rr_7), .val (.ref b50), .val (.ref b64), .val (.int (1 : Int32)), .val (.ref rr_1)] [(.int (0 : Int32)), (.int (0 : Int32))]))
      refine Go.st (fun _ k' => XS.icmpNo X116.here hx rfl (hb hby at_215) rfl (XT.ii_ne_f (by decide)) k') ?_
      show Go p e below s _ _ _ (T116.setTop (mkF m 218 #[.val (.int size), .val (.int steps), .val (.int chs), .val (.int (1 : Int32)), .val (.int (2 : Int32)), .val (.ref rr_1), .val (.ref rr_3), .val (.ref rr_7), .val (.ref b50), .val (.ref b64), .val (.int (1 : Int32)), .val (.ref rr_1)] []))
      refine Go.st (fun _ k' => XS.iload X116.here hx rfl (hb hby at_218) rfl k') ?_
      show Go p e below s _ _ _ (T116.setTop (mkF m 220 #[.val (.int size), .val (.int steps), .val (.int chs), .val (.int (1 : Int32)), .val (.int (2 : Int32)), .val (.ref rr_1), .val (.ref rr_3), .val (.ref rr_7), .val (.ref b50), .val (.ref b64), .val (.int (1 : Int32)), .val (.ref rr_1)] [(.int (1 : Int32))]))
      refine Go.st (fun _ k' => XS.ifNo X116.here hx rfl (hb hby at_220) rfl (XT.i0_eq_f (by decide)) k') ?_
      show Go p e below s _ _ _ (T116.setTop (mkF m 223 #[.val (.int size), .val (.int steps), .val (.int chs), .val (.int (1 : Int32)), .val (.int (2 : Int32)), .val (.ref rr_1), .val (.ref rr_3), .val (.ref rr_7), .val (.ref b50), .val (.ref b64), .val (.int (1 : Int32)), .val (.ref rr_1)] []))
      refine Go.st (fun _ k' => XS.iconst X116.here hx rfl (hb hby at_223) k') ?_
      show Go p e below s _ _ _ (T116.setTop (mkF m 224 #[.val (.int size), .val (.int steps), .val (.int chs), .val (.int (1 : Int32)), .val (.int (2 : Int32)), .val (.ref rr_1), .val (.ref rr_3), .val (.ref rr_7), .val (.ref b50), .val (.ref b64), .val (.int (1 : Int32)), .val (.ref rr_1)] [(.int (1 : Int32))]))
      refine Go.st (fun _ k' => XS.goto X116.here hx rfl (pc0 := 224) (pc' := 228) rfl (hb hby at_224) (by decide) (by decide) k') ?_
      show Go p e below s _ _ _ (T116.setTop (mkF m 228 #[.val (.int size), .val (.int steps), .val (.int chs), .val (.int (1 : Int32)), .val (.int (2 : Int32)), .val (.ref rr_1), .val (.ref rr_3), .val (.ref rr_7), .val (.ref b50), .val (.ref b64), .val (.int (1 : Int32)), .val (.ref rr_1)] [(.int (1 : Int32))]))
      refine Go.st (fun _ k' => XS.istore X116.here hx rfl (hb hby at_228) rfl (l' := #[.val (.int size), .val (.int steps), .val (.int chs), .val (.int (1 : Int32)), .val (.int (2 : Int32)), .val (.ref rr_1), .val (.ref rr_3), .val (.ref rr_7), .val (.ref b50), .val (.ref b64), .val (.int (1 : Int32)), .val (.ref rr_1)]) rfl k') ?_
      show Go p e below s _ _ _ (T116.setTop (mkF m 230 #[.val (.int size), .val (.int steps), .val (.int chs), .val (.int (1 : Int32)), .val (.int (2 : Int32)), .val (.ref rr_1), .val (.ref rr_3), .val (.ref rr_7), .val (.ref b50), .val (.ref b64), .val (.int (1 : Int32)), .val (.ref rr_1)] []))
      refine Go.st (fun _ k' => XS.iload X116.here hx rfl (hb hby at_230) rfl k') ?_
      show Go p e below s _ _ _ (T116.setTop (mkF m 232 #[.val (.int size), .val (.int steps), .val (.int chs), .val (.int (1 : Int32)), .val (.int (2 : Int32)), .val (.ref rr_1), .val (.ref rr_3), .val (.ref rr_7), .val (.ref b50), .val (.ref b64), .val (.int (1 : Int32)), .val (.ref rr_1)] [(.int (2 : Int32))]))
      refine Go.st (fun _ k' => XS.iconst X116.here hx rfl (hb hby at_232) k') ?_
      show Go p e below s _ _ _ (T116.setTop (mkF m 233 #[.val (.int size), .val (.int steps), .val (.int chs), .val (.int (1 : Int32)), .val (.int (2 : Int32)), .val (.ref rr_1), .val (.ref rr_3), .val (.ref rr_7), .val (.ref b50), .val (.ref b64), .val (.int (1 : Int32)), .val (.ref rr_1)] [(.int (2 : Int32)), (.int (2 : Int32))]))
      refine Go.st (fun _ k' => XS.icmpNo X116.here hx rfl (hb hby at_233) rfl (XT.ii_lt_f (by decide)) k') ?_
      show Go p e below s _ _ _ (T116.setTop (mkF m 236 #[.val (.int size), .val (.int steps), .val (.int chs), .val (.int (1 : Int32)), .val (.int (2 : Int32)), .val (.ref rr_1), .val (.ref rr_3), .val (.ref rr_7), .val (.ref b50), .val (.ref b64), .val (.int (1 : Int32)), .val (.ref rr_1)] []))
      refine Go.st (fun _ k' => XS.iloadN X116.here hx rfl (hb hby at_236) rfl k') ?_
      show Go p e below s _ _ _ (T116.setTop (mkF m 237 #[.val (.int size), .val (.int steps), .val (.int chs), .val (.int (1 : Int32)), .val (.int (2 : Int32)), .val (.ref rr_1), .val (.ref rr_3), .val (.ref rr_7), .val (.ref b50), .val (.ref b64), .val (.int (1 : Int32)), .val (.ref rr_1)] [(.int (1 : Int32))]))
      refine Go.st (fun _ k' => XS.iconst X116.here hx rfl (hb hby at_237) k') ?_
      show Go p e below s _ _ _ (T116.setTop (mkF m 238 #[.val (.int size), .val (.int steps), .val (.int chs), .val (.int (1 : Int32)), .val (.int (2 : Int32)), .val (.ref rr_1), .val (.ref rr_3), .val (.ref rr_7), .val (.ref b50), .val (.ref b64), .val (.int (1 : Int32)), .val (.ref rr_1)] [(.int (2 : Int32)), (.int (1 : Int32))]))
      refine Go.st (fun _ k' => XS.icmpYes X116.here hx rfl (pc0 := 238) (pc' := 300) rfl (hb hby at_238) rfl (XT.ii_lt_t (by decide)) (by decide) (by decide) k') ?_
      show Go p e below s _ _ _ (T116.setTop (mkF m 300 #[.val (.int size), .val (.int steps), .val (.int chs), .val (.int (1 : Int32)), .val (.int (2 : Int32)), .val (.ref rr_1), .val (.ref rr_3), .val (.ref rr_7), .val (.ref b50), .val (.ref b64), .val (.int (1 : Int32)), .val (.ref rr_1)] []))
      refine Go.st (fun _ k' => XS.iload X116.here hx rfl (hb hby at_300) rfl k') ?_
      show Go p e below s _ _ _ (T116.setTop (mkF m 302 #[.val (.int size), .val (.int steps), .val (.int chs), .val (.int (1 : Int32)), .val (.int (2 : Int32)), .val (.ref rr_1), .val (.ref rr_3), .val (.ref rr_7), .val (.ref b50), .val (.ref b64), .val (.int (1 : Int32)), .val (.ref rr_1)] [(.int (2 : Int32))]))
      refine Go.st (fun _ k' => XS.iconst X116.here hx rfl (hb hby at_302) k') ?_
      show Go p e below s _ _ _ (T116.setTop (mkF m 303 #[.val (.int size), .val (.int steps), .val (.int chs), .val (.int (1 : Int32)), .val (.int (2 : Int32)), .val (.ref rr_1), .val (.ref rr_3), .val (.ref rr_7), .val (.ref b50), .val (.ref b64), .val (.int (1 : Int32)), .val (.ref rr_1)] [(.int (3 : Int32)), (.int (2 : Int32))]))
      refine Go.st (fun _ k' => XS.icmpYes X116.here hx rfl (pc0 := 303) (pc' := 360) rfl (hb hby at_303) rfl (XT.ii_lt_t (by decide)) (by decide) (by decide) k') ?_
      show Go p e below s _ _ _ (T116.setTop (mkF m 360 #[.val (.int size), .val (.int steps), .val (.int chs), .val (.int (1 : Int32)), .val (.int (2 : Int32)), .val (.ref rr_1), .val (.ref rr_3), .val (.ref rr_7), .val (.ref b50), .val (.ref b64), .val (.int (1 : Int32)), .val (.ref rr_1)] []))
      refine Go.st (fun _ k' => XS.iload X116.here hx rfl (hb hby at_360) rfl k') ?_
      show Go p e below s _ _ _ (T116.setTop (mkF m 362 #[.val (.int size), .val (.int steps), .val (.int chs), .val (.int (1 : Int32)), .val (.int (2 : Int32)), .val (.ref rr_1), .val (.ref rr_3), .val (.ref rr_7), .val (.ref b50), .val (.ref b64), .val (.int (1 : Int32)), .val (.ref rr_1)] [(.int (1 : Int32))]))
      refine Go.retB X116 hx hlk (t := .boolean) Bd.returns (by simp) (hb hby at_362) (by decide) (by decide) eq116 ?_
      exact ⟨rfl, N116, trivial⟩
    · rw [hi160]
      show Go p e below s _ _ _ (T92.setTop (mkF m 160 #[.val (.int size), .val (.int steps), .val (.int chs), .val (.int (1 : Int32)), .val (.int (3 : Int32)), .val (.ref rr_1), .val (.ref rr_3), .val (.ref rr_7), .val (.ref b50), .val (.ref b64), .val (.int (1 : Int32)), .unset] []))
      refine Go.st (fun _ k' => XS.iload X92.here hx rfl (hb hby at_160) rfl k') ?_
      show Go p e below s _ _ _ (T92.setTop (mkF m 162 #[.val (.int size), .val (.int steps), .val (.int chs), .val (.int (1 : Int32)), .val (.int (3 : Int32)), .val (.ref rr_1), .val (.ref rr_3), .val (.ref rr_7), .val (.ref b50), .val (.ref b64), .val (.int (1 : Int32)), .unset] [(.int (3 : Int32))]))
      refine Go.st (fun _ k' => XS.iconst X92.here hx rfl (hb hby at_162) k') ?_
      show Go p e below s _ _ _ (T92.setTop (mkF m 163 #[.val (.int size), .val (.int steps), .val (.int chs), .val (.int (1 : Int32)), .val (.int (3 : Int32)), .val (.ref rr_1), .val (.ref rr_3), .val (.ref rr_7), .val (.ref b50), .val (.ref b64), .val (.int (1 : Int32)), .unset] [(.int (1 : Int32)), (.int (3 : Int32))]))
      refine Go.st (fun _ k' => XS.icmpNo X92.here hx rfl (hb hby at_163) rfl (XT.ii_lt_f (by decide)) k') ?_
      show Go p e below s _ _ _ (T92.setTop (mkF m 166 #[.val (.int size), .val (.int steps), .val (.int chs), .val (.int (1 : Int32)), .val (.int (3 : Int32)), .val (.ref rr_1), .val (.ref rr_3), .val (.ref rr_7), .val (.ref b50), .val (.ref b64), .val (.int (1 : Int32)), .unset] []))
      refine Go.st (fun _ k' => XS.iloadN X92.here hx rfl (hb hby at_166) rfl k') ?_
      show Go p e below s _ _ _ (T92.setTop (mkF m 167 #[.val (.int size), .val (.int steps), .val (.int chs), .val (.int (1 : Int32)), .val (.int (3 : Int32)), .val (.ref rr_1), .val (.ref rr_3), .val (.ref rr_7), .val (.ref b50), .val (.ref b64), .val (.int (1 : Int32)), .unset] [(.int (1 : Int32))]))
      refine Go.st (fun _ k' => XS.iconst X92.here hx rfl (hb hby at_167) k') ?_
      show Go p e below s _ _ _ (T92.setTop (mkF m 168 #[.val (.int size), .val (.int steps), .val (.int chs), .val (.int (1 : Int32)), .val (.int (3 : Int32)), .val (.ref rr_1), .val (.ref rr_3), .val (.ref rr_7), .val (.ref b50), .val (.ref b64), .val (.int (1 : Int32)), .unset] [(.int (1 : Int32)), (.int (1 : Int32))]))
      refine Go.st (fun _ k' => XS.icmpNo X92.here hx rfl (hb hby at_168) rfl (XT.ii_lt_f (by decide)) k') ?_
      show Go p e below s _ _ _ (T92.setTop (mkF m 171 #[.val (.int size), .val (.int steps), .val (.int chs), .val (.int (1 : Int32)), .val (.int (3 : Int32)), .val (.ref rr_1), .val (.ref rr_3), .val (.ref rr_7), .val (.ref b50), .val (.ref b64), .val (.int (1 : Int32)), .unset] []))
      refine Go.st (fun _ k' => XS.aload X92.here hx rfl (hb hby at_171) rfl rfl k') ?_
      show Go p e below s _ _ _ (T92.setTop (mkF m 173 #[.val (.int size), .val (.int steps), .val (.int chs), .val (.int (1 : Int32)), .val (.int (3 : Int32)), .val (.ref rr_1), .val (.ref rr_3), .val (.ref rr_7), .val (.ref b50), .val (.ref b64), .val (.int (1 : Int32)), .unset] [(.ref b64)]))
      obtain ⟨cq117, kq117, q117a, q117b, q117c⟩ := isOf hZ eq92 f86
      obtain ⟨_, _, ⟨T117, L117, k117, n117⟩, -, X117, ⟨Lc117, hQ117, l117, y117, z117⟩, st117⟩ := X92.virtualBack hx (y := (⟨"com/example/reportwire/reportwire/Arguments", "next", "()Ljava/lang/String;"⟩ : MethodName)) (z := (⟨"com/example/reportwire/reportwire/Arguments", "next", "()Ljava/lang/String;"⟩ : MethodName)) hown (mvT hZ (wdx hw 93 rfl)) (mvT hZ (wdx hw 94 rfl)) (notFace_of_selects (args := #[]) (mvT hZ (wdx hw 96 rfl))) (mvT hZ (wdx hw 96 rfl)) (mvT hZ (wdx hw 95 rfl)) (by decide) (backOf (W := 0) (rm13_1_0 l Z a0 hw [] b64 na_77 kn_77 rr_1 T77.heap n0 O77 f86 f78 f79 f80 g_b64 ne91) hZ (wdx hw 97 rfl) (wdx hw 30 rfl) (by decide) (by decide)) q117a q117c (g := (mkF m 173 #[.val (.int size), .val (.int steps), .val (.int chs), .val (.int (1 : Int32)), .val (.int (3 : Int32)), .val (.ref rr_1), .val (.ref rr_3), .val (.ref rr_7), .val (.ref b50), .val (.ref b64), .val (.int (1 : Int32)), .unset] [(.ref b64)])) rfl (by rw [hml]; rfl) (Steps.refl _) (argsL := []) (rest := []) (lenOf pd___Ljava_lang_String_ rfl) rfl (by show 2 * 0 + _ ≤ _; exact Nat.le_of_eq rfl) (hb hby at_173) (fun _ _ => ⟨rfl, eq92, (by exact Nat.le_of_ble_eq_true rfl), (by exact Nat.le_of_ble_eq_true rfl)⟩)
      dsimp only [Pt.U, Pt.locs, Pt.cells, Pt.slots] at X117 l117 y117 z117 st117 hQ117
      subst l117 y117 z117
      obtain ⟨rfl, Nq117, Kq117, f118, f119⟩ := hQ117
      have N117 := Fr.app N92 Nq117
      refine Go.tr st117 ?_
      have f120 : Exa Z T117.heap rr_1 "java/lang/String" := f81.keep Kq117
      have f121 : Exa Z T117.heap rr_3 "java/lang/String" := f82.keep Kq117
      have f122 : Exa Z T117.heap rr_7 "java/lang/String" := f83.keep Kq117
      have f123 : Exa Z T117.heap b50 "[Ljava/lang/String;" := f84.keep Kq117
      have f124 : Arv Z T117.heap b50 k50 (.object "java/lang/String") (1 : Int32) [(.ref rr_1)] .null := f85.keep Kq117 (ninS ne68 nin0)
      have f125 : Exa Z T117.heap b64 "com/example/reportwire/reportwire/Arguments" := f86.keep Kq117
      have f126 : Arv Z T117.heap na_77 kn_77 (.object "java/lang/String") (1 : Int32) [(.ref rr_1)] .null := f80.keep Kq117 (ninS (Ne.symm ne91) nin0)
      have O117 : Old Z n0 T117.heap := O77.keep Kq117 (allS g_b64 all0)
      show Go p e below s _ _ _ (T117.setTop (mkF m 176 #[.val (.int size), .val (.int steps), .val (.int chs), .val (.int (1 : Int32)), .val (.int (3 : Int32)), .val (.ref rr_1), .val (.ref rr_3), .val (.ref rr_7), .val (.ref b50), .val (.ref b64), .val (.int (1 : Int32)), .unset] [(.ref rr_1)]))
      refine Go.st (fun _ k' => XS.astore X117.here hx rfl (hb hby at_176) rfl rfl (l' := #[.val (.int size), .val (.int steps), .val (.int chs), .val (.int (1 : Int32)), .val (.int (3 : Int32)), .val (.ref rr_1), .val (.ref rr_3), .val (.ref rr_7), .val (.ref b50), .val (.ref b64), .val (.int (1 : Int32)), .val (.ref rr_1)]) rfl k') ?_
      show Go p e below s _ _ _ (T117.setTop (mkF m 178 #[.val (.int size), .val (.int steps), .val (.int chs), .val (.int (1 : Int32)), .val (.int (3 : Int32)), .val (.ref rr_1), .val (.ref rr_3), .val (.ref rr_7), .val (.ref b50), .val (.ref b64), .val (.int (1 : Int32)), .val (.ref rr_1)] []))
      refine Go.st (fun _ k' => XS.aload X117.here hx rfl (hb hby at_178) rfl rfl k') ?_
      show Go p e below s _ _ _ (T117.setTop (mkF m 180 #[.val (.int size), .val (.int steps), .val (.int chs), .val (.int (1 : Int32)), .val (.int (3 : Int32)), .val (.ref rr_1), .val (.ref rr_3), .val (.ref rr_7), .val (.ref b50), .val (.ref b64), .val (.int (1 : Int32)), .val (.ref rr_1)] [(.ref rr_1)]))
      refine Go.st (fun _ k' => XS.aload X117.here hx rfl (hb hby at_180) rfl rfl k') ?_
      show Go p e below s _ _ _ (T117.setTop (mkF m 182 #[.val (.int size), .val (.int steps), .val (.int chs), .val (.int (1 : Int32)), .val (.int (3 : Int32)), .val (.ref rr_1), .val (.ref rr_3), .val (.ref rr_7), .val (.ref b50), .val (.ref b64), .val (.int (1 : Int32)), .val (.ref rr_1)] [(.ref rr_1), (.ref rr_1)]))
      obtain ⟨cq127, kq127, q127a, q127b, q127c⟩ := isOf hZ rfl f120
      obtain ⟨_, _, ⟨T127, L127, k127, n127⟩, -, X127, ⟨Lc127, hQ127, l127, y127, z127⟩, st127⟩ := X117.virtualBack hx (y := (⟨"java/lang/String", "equals", "(Ljava/lang/Object;)Z"⟩ : MethodName)) (z := (⟨"java/lang/String", "equals", "(Ljava/lang/Object;)Z"⟩ : MethodName)) hown (mvT hZ (wdx hw 104 rfl)) (mvT hZ (wdx hw 105 rfl)) (notFace_of_selects (args := #[]) (mvT hZ (wdx hw 107 rfl))) (mvT hZ (wdx hw 107 rfl)) (mvT hZ (wdx hw 106 rfl)) (by decide) (backOf (W := 0) (rm15 l Z a0 hw [] rr_1 T117.heap n0 O117 ) hZ (wdx hw 108 rfl) (wdx hw 2 rfl) (by decide) (by decide)) q127a q127c (g := (mkF m 182 #[.val (.int size), .val (.int steps), .val (.int chs), .val (.int (1 : Int32)), .val (.int (3 : Int32)), .val (.ref rr_1), .val (.ref rr_3), .val (.ref rr_7), .val (.ref b50), .val (.ref b64), .val (.int (1 : Int32)), .val (.ref rr_1)] [(.ref rr_1), (.ref rr_1)])) rfl (by rw [hml]; rfl) (Steps.refl _) (argsL := [(.ref rr_1)]) (rest := []) (lenOf pd__Ljava_lang_Object__Z rfl) rfl (by show 2 * 0 + _ ≤ _; exact Nat.le_of_eq rfl) (hb hby at_182) (fun _ _ => ⟨rfl, rfl, (by exact Nat.le_of_ble_eq_true rfl), (by exact Nat.le_of_ble_eq_true rfl)⟩)
      dsimp only [Pt.U, Pt.locs, Pt.cells, Pt.slots] at X127 l127 y127 z127 st127 hQ127
      subst l127 y127 z127
      obtain ⟨rfl, Nq127, eq127⟩ := hQ127
      have N127 := Fr.app N117 Nq127
      refine Go.tr st127 ?_
      show Go p e below s _ _ _ (T127.setTop (mkF m 185 #[.val (.int size), .val (.int steps), .val (.int chs), .val (.int (1 : Int32)), .val (.int (3 : Int32)), .val (.ref rr_1), .val (.ref rr_3), .val (.ref rr_7), .val (.ref b50), .val (.ref b64), .val (.int (1 : Int32)), .val (.ref rr_1)] [(.int (1 : Int32))]))
      refine Go.st (fun _ k' => XS.ifNo X127.here hx rfl (hb hby at_185) rfl (XT.i0_eq_f (by decide)) k') ?_
      show Go p e below s _ _ _ (T127.setTop (mkF m 188 #[.val (.int size), .val (.int steps), .val (.int chs), .val (.int (1 : Int32)), .val (.int (3 : Int32)), .val (.ref rr_1), .val (.ref rr_3), .val (.ref rr_7), .val (.ref b50), .val (.ref b64), .val (.int (1 : Int32)), .val (.ref rr_1)] []))
      refine Go.st (fun _ k' => XS.iload X127.here hx rfl (hb hby at_188) rfl k') ?_
      show Go p e below s _ _ _ (T127.setTop (mkF m 190 #[.val (.int size), .val (.int steps), .val (.int chs), .val (.int (1 : Int32)), .val (.int (3 : Int32)), .val (.ref rr_1), .val (.ref rr_3), .val (.ref rr_7), .val (.ref b50), .val (.ref b64), .val (.int (1 : Int32)), .val (.ref rr_1)] [(.int (1 : Int32))]))
      refine Go.st (fun _ k' => XS.ifNo X127.here hx rfl (hb hby at_190) rfl (XT.i0_eq_f (by decide)) k') ?_
      show Go p e below s _ _ _ (T127.setTop (mkF m 193 #[.val (.int size), .val (.int steps), .val (.int chs), .val (.int (1 : Int32)), .val (.int (3 : Int32)), .val (.ref rr_1), .val (.ref rr_3), .val (.ref rr_7), .val (.ref b50), .val (.ref b64), .val (.int (1 : Int32)), .val (.ref rr_1)] []))
      refine Go.st (fun _ k' => XS.iconst X127.here hx rfl (hb hby at_193) k') ?_
      show Go p e below s _ _ _ (T127.setTop (mkF m 194 #[.val (.int size), .val (.int steps), .val (.int chs), .val (.int (1 : Int32)), .val (.int (3 : Int32)), .val (.ref rr_1), .val (.ref rr_3), .val (.ref rr_7), .val (.ref b50), .val (.ref b64), .val (.int (1 : Int32)), .val (.ref rr_1)] [(.int (1 : Int32))]))
      refine Go.st (fun _ k' => XS.goto X127.here hx rfl (pc0 := 194) (pc' := 198) rfl (hb hby at_194) (by decide) (by decide) k') ?_
      show Go p e below s _ _ _ (T127.setTop (mkF m 198 #[.val (.int size), .val (.int steps), .val (.int chs), .val (.int (1 : Int32)), .val (.int (3 : Int32)), .val (.ref rr_1), .val (.ref rr_3), .val (.ref rr_7), .val (.ref b50), .val (.ref b64), .val (.int (1 : Int32)), .val (.ref rr_1)] [(.int (1 : Int32))]))
      refine Go.st (fun _ k' => XS.istore X127.here hx rfl (hb hby at_198) rfl (l' := #[.val (.int size), .val (.int steps), .val (.int chs), .val (.int (1 : Int32)), .val (.int (3 : Int32)), .val (.ref rr_1), .val (.ref rr_3), .val (.ref rr_7), .val (.ref b50), .val (.ref b64), .val (.int (1 : Int32)), .val (.ref rr_1)]) rfl k') ?_
      show Go p e below s _ _ _ (T127.setTop (mkF m 200 #[.val (.int size), .val (.int steps), .val (.int chs), .val (.int (1 : Int32)), .val (.int (3 : Int32)), .val (.ref rr_1), .val (.ref rr_3), .val (.ref rr_7), .val (.ref b50), .val (.ref b64), .val (.int (1 : Int32)), .val (.ref rr_1)] []))
      refine Go.st (fun _ k' => XS.aload X127.here hx rfl (hb hby at_200) rfl rfl k') ?_
      show Go p e below s _ _ _ (T127.setTop (mkF m 202 #[.val (.int size), .val (.int steps), .val (.int chs), .val (.int (1 : Int32)), .val (.int (3 : Int32)), .val (.ref rr_1), .val (.ref rr_3), .val (.ref rr_7), .val (.ref b50), .val (.ref b64), .val (.int (1 : Int32)), .val (.ref rr_1)] [(.ref b64)]))
      obtain ⟨cq128, kq128, q128a, q128b, q128c⟩ := isOf hZ eq127 f125
      obtain ⟨_, _, ⟨T128, L128, k128, n128⟩, -, X128, ⟨Lc128, hQ128, l128, y128, z128⟩, st128⟩ := X127.virtualBack hx (y := (⟨"com/example/reportwire/reportwire/Arguments", "hasNext", "()Z"⟩ : MethodName)) (z := (⟨"com/example/reportwire/reportwire/Arguments", "hasNext", "()Z"⟩ : MethodName)) hown (mvT hZ (wdx hw 86 rfl)) (mvT hZ (wdx hw 87 rfl)) (notFace_of_selects (args := #[]) (mvT hZ (wdx hw 89 rfl))) (mvT hZ (wdx hw 89 rfl)) (mvT hZ (wdx hw 88 rfl)) (by decide) (backOf (W := 0) (rm12_1_1 l Z a0 hw [] b64 na_77 kn_77 rr_1 T117.heap n0 O117 f118 f119 f126) hZ (wdx hw 90 rfl) (wdx hw 30 rfl) (by decide) (by decide)) q128a q128c (g := (mkF m 202 #[.val (.int size), .val (.int steps), .val (.int chs), .val (.int (1 : Int32)), .val (.int (3 : Int32)), .val (.ref rr_1), .val (.ref rr_3), .val (.ref rr_7), .val (.ref b50), .val (.ref b64), .val (.int (1 : Int32)), .val (.ref rr_1)] [(.ref b64)])) rfl (by rw [hml]; rfl) (Steps.refl _) (argsL := []) (rest := []) (lenOf pd___Z rfl) rfl (by show 2 * 0 + _ ≤ _; exact Nat.le_of_eq rfl) (hb hby at_202) (fun _ _ => ⟨rfl, eq127, (by exact Nat.le_of_ble_eq_true rfl), (by exact Nat.le_of_ble_eq_true rfl)⟩)
      dsimp only [Pt.U, Pt.locs, Pt.cells, Pt.slots] at X128 l128 y128 z128 st128 hQ128
      subst l128 y128 z128
      obtain ⟨rfl, Nq128, eq128⟩ := hQ128
      have N128 := Fr.app N127 Nq128
      refine Go.tr st128 ?_
      show Go p e below s _ _ _ (T128.setTop (mkF m 205 #[.val (.int size), .val (.int steps), .val (.int chs), .val (.int (1 : Int32)), .val (.int (3 : Int32)), .val (.ref rr_1), .val (.ref rr_3), .val (.ref rr_7), .val (.ref b50), .val (.ref b64), .val (.int (1 : Int32)), .val (.ref rr_1)] [(.int (0 : Int32))]))
      refine Go.st (fun _ k' => XS.iloadN X128.here hx rfl (hb hby at_205) rfl k') ?_
      show Go p e below s _ _ _ (T128.setTop (mkF m 206 #[.val (.int size), .val (.int steps), .val (.int chs), .val (.int (1 : Int32)), .val (.int (3 : Int32)), .val (.ref rr_1), .val (.ref rr_3), .val (.ref rr_7), .val (.ref b50), .val (.ref b64), .val (.int (1 : Int32)), .val (.ref rr_1)] [(.int (1 : Int32)), (.int (0 : Int32))]))
      refine Go.st (fun _ k' => XS.iconst X128.here hx rfl (hb hby at_206) k') ?_
      show Go p e below s _ _ _ (T128.setTop (mkF m 207 #[.val (.int size), .val (.int steps), .val (.int chs), .val (.int (1 : Int32)), .val (.int (3 : Int32)), .val (.ref rr_1), .val (.ref rr_3), .val (.ref rr_7), .val (.ref b50), .val (.ref b64), .val (.int (1 : Int32)), .val (.ref rr_1)] [(.int (1 : Int32)), (.int (1 : Int32)), (.int (0 : Int32))]))
      refine Go.st (fun _ k' => XS.icmpYes X128.here hx rfl (pc0 := 207) (pc' := 214) rfl (hb hby at_207) rfl (XT.ii_le_t (by decide)) (by decide) (by decide) k') ?_
      show Go p e below s _ _ _ (T128.setTop (mkF m 214 #[.val (.int size), .val (.int steps), .val (.int chs), .val (.int (1 : Int32)), .val (.int (3 : Int32)), .val (.ref rr_1), .val (.ref rr_3), .val (.ref rr_7), .val (.ref b50), .val (.ref b64), .val (.int (1 : Int32)), .val (.ref rr_1)] [(.int (0 : Int32))]))
      refine Go.st (fun _ k' => XS.iconst X128.here hx rfl (hb hby at_214) k') ?_
      show Go p e below s _ _ _ (T128.setTop (mkF m 215 #[.val (.int size), .val (.int steps), .val (.int chs), .val (.int (1 : Int32)), .val (.int (3 : Int32)), .val (.ref rr_1), .val (.ref rr_3), .val (.ref rr_7), .val (.ref b50), .val (.ref b64), .val (.int (1 : Int32)), .val (.ref rr_1)] [(.int (0 : Int32)), (.int (0 : Int32))]))
      refine Go.st (fun _ k' => XS.icmpNo X128.here hx rfl (hb hby at_215) rfl (XT.ii_ne_f (by decide)) k') ?_
      show Go p e below s _ _ _ (T128.setTop (mkF m 218 #[.val (.int size), .val (.int steps), .val (.int chs), .val (.int (1 : Int32)), .val (.int (3 : Int32)), .val (.ref rr_1), .val (.ref rr_3), .val (.ref rr_7), .val (.ref b50), .val (.ref b64), .val (.int (1 : Int32)), .val (.ref rr_1)] []))
      refine Go.st (fun _ k' => XS.iload X128.here hx rfl (hb hby at_218) rfl k') ?_
      show Go p e below s _ _ _ (T128.setTop (mkF m 220 #[.val (.int size), .val (.int steps), .val (.int chs), .val (.int (1 : Int32)), .val (.int (3 : Int32)), .val (.ref rr_1), .val (.ref rr_3), .val (.ref rr_7), .val (.ref b50), .val (.ref b64), .val (.int (1 : Int32)), .val (.ref rr_1)] [(.int (1 : Int32))]))
      refine Go.st (fun _ k' => XS.ifNo X128.here hx rfl (hb hby at_220) rfl (XT.i0_eq_f (by decide)) k') ?_
      show Go p e below s _ _ _ (T128.setTop (mkF m 223 #[.val (.int size), .val (.int steps), .val (.int chs), .val (.int (1 : Int32)), .val (.int (3 : Int32)), .val (.ref rr_1), .val (.ref rr_3), .val (.ref rr_7), .val (.ref b50), .val (.ref b64), .val (.int (1 : Int32)), .val (.ref rr_1)] []))
      refine Go.st (fun _ k' => XS.iconst X128.here hx rfl (hb hby at_223) k') ?_
      show Go p e below s _ _ _ (T128.setTop (mkF m 224 #[.val (.int size), .val (.int steps), .val (.int chs), .val (.int (1 : Int32)), .val (.int (3 : Int32)), .val (.ref rr_1), .val (.ref rr_3), .val (.ref rr_7), .val (.ref b50), .val (.ref b64), .val (.int (1 : Int32)), .val (.ref rr_1)] [(.int (1 : Int32))]))
      refine Go.st (fun _ k' => XS.goto X128.here hx rfl (pc0 := 224) (pc' := 228) rfl (hb hby at_224) (by decide) (by decide) k') ?_
      show Go p e below s _ _ _ (T128.setTop (mkF m 228 #[.val (.int size), .val (.int steps), .val (.int chs), .val (.int (1 : Int32)), .val (.int (3 : Int32)), .val (.ref rr_1), .val (.ref rr_3), .val (.ref rr_7), .val (.ref b50), .val (.ref b64), .val (.int (1 : Int32)), .val (.ref rr_1)] [(.int (1 : Int32))]))
      refine Go.st (fun _ k' => XS.istore X128.here hx rfl (hb hby at_228) rfl (l' := #[.val (.int size), .val (.int steps), .val (.int chs), .val (.int (1 : Int32)), .val (.int (3 : Int32)), .val (.ref rr_1), .val (.ref rr_3), .val (.ref rr_7), .val (.ref b50), .val (.ref b64), .val (.int (1 : Int32)), .val (.ref rr_1)]) rfl k') ?_
      show Go p e below s _ _ _ (T128.setTop (mkF m 230 #[.val (.int size), .val (.int steps), .val (.int chs), .val (.int (1 : Int32)), .val (.int (3 : Int32)), .val (.ref rr_1), .val (.ref rr_3), .val (.ref rr_7), .val (.ref b50), .val (.ref b64), .val (.int (1 : Int32)), .val (.ref rr_1)] []))
      refine Go.st (fun _ k' => XS.iload X128.here hx rfl (hb hby at_230) rfl k') ?_
      show Go p e below s _ _ _ (T128.setTop (mkF m 232 #[.val (.int size), .val (.int steps), .val (.int chs), .val (.int (1 : Int32)), .val (.int (3 : Int32)), .val (.ref rr_1), .val (.ref rr_3), .val (.ref rr_7), .val (.ref b50), .val (.ref b64), .val (.int (1 : Int32)), .val (.ref rr_1)] [(.int (3 : Int32))]))
      refine Go.st (fun _ k' => XS.iconst X128.here hx rfl (hb hby at_232) k') ?_
      show Go p e below s _ _ _ (T128.setTop (mkF m 233 #[.val (.int size), .val (.int steps), .val (.int chs), .val (.int (1 : Int32)), .val (.int (3 : Int32)), .val (.ref rr_1), .val (.ref rr_3), .val (.ref rr_7), .val (.ref b50), .val (.ref b64), .val (.int (1 : Int32)), .val (.ref rr_1)] [(.int (2 : Int32)), (.int (3 : Int32))]))
      refine Go.st (fun _ k' => XS.icmpNo X128.here hx rfl (hb hby at_233) rfl (XT.ii_lt_f (by decide)) k') ?_
      show Go p e below s _ _ _ (T128.setTop (mkF m 236 #[.val (.int size), .val (.int steps), .val (.int chs), .val (.int (1 : Int32)), .val (.int (3 : Int32)), .val (.ref rr_1), .val (.ref rr_3), .val (.ref rr_7), .val (.ref b50), .val (.ref b64), .val (.int (1 : Int32)), .val (.ref rr_1)] []))
      refine Go.st (fun _ k' => XS.iloadN X128.here hx rfl (hb hby at_236) rfl k') ?_
      show Go p e below s _ _ _ (T128.setTop (mkF m 237 #[.val (.int size), .val (.int steps), .val (.int chs), .val (.int (1 : Int32)), .val (.int (3 : Int32)), .val (.ref rr_1), .val (.ref rr_3), .val (.ref rr_7), .val (.ref b50), .val (.ref b64), .val (.int (1 : Int32)), .val (.ref rr_1)] [(.int (1 : Int32))]))
      refine Go.st (fun _ k' => XS.iconst X128.here hx rfl (hb hby at_237) k') ?_
      show Go p e below s _ _ _ (T128.setTop (mkF m 238 #[.val (.int size), .val (.int steps), .val (.int chs), .val (.int (1 : Int32)), .val (.int (3 : Int32)), .val (.ref rr_1), .val (.ref rr_3), .val (.ref rr_7), .val (.ref b50), .val (.ref b64), .val (.int (1 : Int32)), .val (.ref rr_1)] [(.int (2 : Int32)), (.int (1 : Int32))]))
      refine Go.st (fun _ k' => XS.icmpYes X128.here hx rfl (pc0 := 238) (pc' := 300) rfl (hb hby at_238) rfl (XT.ii_lt_t (by decide)) (by decide) (by decide) k') ?_
      show Go p e below s _ _ _ (T128.setTop (mkF m 300 #[.val (.int size), .val (.int steps), .val (.int chs), .val (.int (1 : Int32)), .val (.int (3 : Int32)), .val (.ref rr_1), .val (.ref rr_3), .val (.ref rr_7), .val (.ref b50), .val (.ref b64), .val (.int (1 : Int32)), .val (.ref rr_1)] []))
      refine Go.st (fun _ k' => XS.iload X128.here hx rfl (hb hby at_300) rfl k') ?_
      show Go p e below s _ _ _ (T128.setTop (mkF m 302 #[.val (.int size), .val (.int steps), .val (.int chs), .val (.int (1 : Int32)), .val (.int (3 : Int32)), .val (.ref rr_1), .val (.ref rr_3), .val (.ref rr_7), .val (.ref b50), .val (.ref b64), .val (.int (1 : Int32)), .val (.ref rr_1)] [(.int (3 : Int32))]))
      refine Go.st (fun _ k' => XS.iconst X128.here hx rfl (hb hby at_302) k') ?_
      show Go p e below s _ _ _ (T128.setTop (mkF m 303 #[.val (.int size), .val (.int steps), .val (.int chs), .val (.int (1 : Int32)), .val (.int (3 : Int32)), .val (.ref rr_1), .val (.ref rr_3), .val (.ref rr_7), .val (.ref b50), .val (.ref b64), .val (.int (1 : Int32)), .val (.ref rr_1)] [(.int (3 : Int32)), (.int (3 : Int32))]))
      refine Go.st (fun _ k' => XS.icmpNo X128.here hx rfl (hb hby at_303) rfl (XT.ii_lt_f (by decide)) k') ?_
      show Go p e below s _ _ _ (T128.setTop (mkF m 306 #[.val (.int size), .val (.int steps), .val (.int chs), .val (.int (1 : Int32)), .val (.int (3 : Int32)), .val (.ref rr_1), .val (.ref rr_3), .val (.ref rr_7), .val (.ref b50), .val (.ref b64), .val (.int (1 : Int32)), .val (.ref rr_1)] []))
      refine Go.st (fun _ k' => XS.iloadN X128.here hx rfl (hb hby at_306) rfl k') ?_
      show Go p e below s _ _ _ (T128.setTop (mkF m 307 #[.val (.int size), .val (.int steps), .val (.int chs), .val (.int (1 : Int32)), .val (.int (3 : Int32)), .val (.ref rr_1), .val (.ref rr_3), .val (.ref rr_7), .val (.ref b50), .val (.ref b64), .val (.int (1 : Int32)), .val (.ref rr_1)] [(.int (1 : Int32))]))
      refine Go.st (fun _ k' => XS.iconst X128.here hx rfl (hb hby at_307) k') ?_
      show Go p e below s _ _ _ (T128.setTop (mkF m 308 #[.val (.int size), .val (.int steps), .val (.int chs), .val (.int (1 : Int32)), .val (.int (3 : Int32)), .val (.ref rr_1), .val (.ref rr_3), .val (.ref rr_7), .val (.ref b50), .val (.ref b64), .val (.int (1 : Int32)), .val (.ref rr_1)] [(.int (3 : Int32)), (.int (1 : Int32))]))
      refine Go.st (fun _ k' => XS.icmpYes X128.here hx rfl (pc0 := 308) (pc' := 360) rfl (hb hby at_308) rfl (XT.ii_lt_t (by decide)) (by decide) (by decide) k') ?_
      show Go p e below s _ _ _ (T128.setTop (mkF m 360 #[.val (.int size), .val (.int steps), .val (.int chs), .val (.int (1 : Int32)), .val (.int (3 : Int32)), .val (.ref rr_1), .val (.ref rr_3), .val (.ref rr_7), .val (.ref b50), .val (.ref b64), .val (.int (1 : Int32)), .val (.ref rr_1)] []))
      refine Go.st (fun _ k' => XS.iload X128.here hx rfl (hb hby at_360) rfl k') ?_
      show Go p e below s _ _ _ (T128.setTop (mkF m 362 #[.val (.int size), .val (.int steps), .val (.int chs), .val (.int (1 : Int32)), .val (.int (3 : Int32)), .val (.ref rr_1), .val (.ref rr_3), .val (.ref rr_7), .val (.ref b50), .val (.ref b64), .val (.int (1 : Int32)), .val (.ref rr_1)] [(.int (1 : Int32))]))
      refine Go.retB X128 hx hlk (t := .boolean) Bd.returns (by simp) (hb hby at_362) (by decide) (by decide) eq128 ?_
      exact ⟨rfl, N128, trivial⟩
  · rw [hi48]
    show Go p e below s _ _ _ (T7.setTop (mkF m 48 #[.val (.int size), .val (.int steps), .val (.int chs), .val (.int (2 : Int32)), .val (.int (steps &&& (3 : Int32))), .val (.ref rr_1), .val (.ref rr_3), .val (.ref rr_7), .unset, .unset, .unset, .unset] []))
    refine Go.st (fun _ k' => XS.iloadN X7.here hx rfl (hb hby at_48) rfl k') ?_
    show Go p e below s _ _ _ (T7.setTop (mkF m 49 #[.val (.int size), .val (.int steps), .val (.int chs), .val (.int (2 : Int32)), .val (.int (steps &&& (3 : Int32))), .val (.ref rr_1), .val (.ref rr_3), .val (.ref rr_7), .unset, .unset, .unset, .unset] [(.int (2 : Int32))]))
    refine Go.st (fun _ k' => XS.ifYes X7.here hx rfl (pc0 := 49) (pc' := 61) rfl (hb hby at_49) rfl (XT.i0_ne_t (by decide)) (by decide) (by decide) k') ?_
    show Go p e below s _ _ _ (T7.setTop (mkF m 61 #[.val (.int size), .val (.int steps), .val (.int chs), .val (.int (2 : Int32)), .val (.int (steps &&& (3 : Int32))), .val (.ref rr_1), .val (.ref rr_3), .val (.ref rr_7), .unset, .unset, .unset, .unset] []))
    refine Go.st (fun _ k' => XS.iloadN X7.here hx rfl (hb hby at_61) rfl k') ?_
    show Go p e below s _ _ _ (T7.setTop (mkF m 62 #[.val (.int size), .val (.int steps), .val (.int chs), .val (.int (2 : Int32)), .val (.int (steps &&& (3 : Int32))), .val (.ref rr_1), .val (.ref rr_3), .val (.ref rr_7), .unset, .unset, .unset, .unset] [(.int (2 : Int32))]))
    refine Go.st (fun _ k' => XS.iconst X7.here hx rfl (hb hby at_62) k') ?_
    show Go p e below s _ _ _ (T7.setTop (mkF m 63 #[.val (.int size), .val (.int steps), .val (.int chs), .val (.int (2 : Int32)), .val (.int (steps &&& (3 : Int32))), .val (.ref rr_1), .val (.ref rr_3), .val (.ref rr_7), .unset, .unset, .unset, .unset] [(.int (1 : Int32)), (.int (2 : Int32))]))
    refine Go.st (fun _ k' => XS.icmpYes X7.here hx rfl (pc0 := 63) (pc' := 80) rfl (hb hby at_63) rfl (XT.ii_ne_t (by decide)) (by decide) (by decide) k') ?_
    show Go p e below s _ _ _ (T7.setTop (mkF m 80 #[.val (.int size), .val (.int steps), .val (.int chs), .val (.int (2 : Int32)), .val (.int (steps &&& (3 : Int32))), .val (.ref rr_1), .val (.ref rr_3), .val (.ref rr_7), .unset, .unset, .unset, .unset] []))
    refine Go.st (fun _ k' => XS.iloadN X7.here hx rfl (hb hby at_80) rfl k') ?_
    show Go p e below s _ _ _ (T7.setTop (mkF m 81 #[.val (.int size), .val (.int steps), .val (.int chs), .val (.int (2 : Int32)), .val (.int (steps &&& (3 : Int32))), .val (.ref rr_1), .val (.ref rr_3), .val (.ref rr_7), .unset, .unset, .unset, .unset] [(.int (2 : Int32))]))
    refine Go.st (fun _ k' => XS.iconst X7.here hx rfl (hb hby at_81) k') ?_
    show Go p e below s _ _ _ (T7.setTop (mkF m 82 #[.val (.int size), .val (.int steps), .val (.int chs), .val (.int (2 : Int32)), .val (.int (steps &&& (3 : Int32))), .val (.ref rr_1), .val (.ref rr_3), .val (.ref rr_7), .unset, .unset, .unset, .unset] [(.int (2 : Int32)), (.int (2 : Int32))]))
    refine Go.st (fun _ k' => XS.icmpNo X7.here hx rfl (hb hby at_82) rfl (XT.ii_ne_f (by decide)) k') ?_
    show Go p e below s _ _ _ (T7.setTop (mkF m 85 #[.val (.int size), .val (.int steps), .val (.int chs), .val (.int (2 : Int32)), .val (.int (steps &&& (3 : Int32))), .val (.ref rr_1), .val (.ref rr_3), .val (.ref rr_7), .unset, .unset, .unset, .unset] []))
    refine Go.st (fun _ k' => XS.iconst X7.here hx rfl (hb hby at_85) k') ?_
    show Go p e below s _ _ _ (T7.setTop (mkF m 86 #[.val (.int size), .val (.int steps), .val (.int chs), .val (.int (2 : Int32)), .val (.int (steps &&& (3 : Int32))), .val (.ref rr_1), .val (.ref rr_3), .val (.ref rr_7), .unset, .unset, .unset, .unset] [(.int (2 : Int32))]))
    obtain ⟨T129, h129, k129, X129, e129, E129, A129, Ex129, V129, st129⟩ := newRE X7 hx hZ hown (wdx hw 26 rfl) (wdx hw 27 rfl) rfl (g := (mkF m 86 #[.val (.int size), .val (.int steps), .val (.int chs), .val (.int (2 : Int32)), .val (.int (steps &&& (3 : Int32))), .val (.ref rr_1), .val (.ref rr_3), .val (.ref rr_7), .unset, .unset, .unset, .unset] [(.int (2 : Int32))])) rfl (hb hby at_86) rfl (by decide) (cap := 2) (by decide) (by decide) (by decide) (by decide) (ad := "[Ljava/lang/String;") rfl
    obtain ⟨b129, g129⟩ : ∃ z, z = T7.heap.size := ⟨_, rfl⟩
    rw [← g129] at A129 Ex129 st129
    refine Go.st st129 ?_
    have g_b129 : n0 ≤ b129 := Nat.le_trans (own_le O7) (Nat.le_of_eq g129.symm)
    have ne130 : rr_1 ≠ b129 := Nat.ne_of_lt (Nat.lt_of_lt_of_le f9.lt (Nat.le_of_eq g129.symm))
    have ne131 : rr_3 ≠ b129 := Nat.ne_of_lt (Nat.lt_of_lt_of_le f10.lt (Nat.le_of_eq g129.symm))
    have ne132 : rr_7 ≠ b129 := Nat.ne_of_lt (Nat.lt_of_lt_of_le f8.lt (Nat.le_of_eq g129.symm))
    have f133 : Exa Z h129 rr_1 "java/lang/String" := f9.ext E129
    have f134 : Exa Z h129 rr_3 "java/lang/String" := f10.ext E129
    have f135 : Exa Z h129 rr_7 "java/lang/String" := f8.ext E129
    have O129 : Old Z n0 h129 := O7.ext E129
    have f136 : Arv Z h129 b129 k129 (.object "java/lang/String") (2 : Int32) [.null, .null] .null := (Arv.new A129 (by decide)).pad (pad_rep [] .null 2)
    show Go p e below s _ _ _ (T129.setTop (mkF m 89 #[.val (.int size), .val (.int steps), .val (.int chs), .val (.int (2 : Int32)), .val (.int (steps &&& (3 : Int32))), .val (.ref rr_1), .val (.ref rr_3), .val (.ref rr_7), .unset, .unset, .unset, .unset] [(.ref b129)]))
    refine Go.st (fun _ k' => XS.dup X129.here hx rfl (hb hby at_89) rfl rfl k') ?_
    show Go p e below s _ _ _ (T129.setTop (mkF m 90 #[.val (.int size), .val (.int steps), .val (.int chs), .val (.int (2 : Int32)), .val (.int (steps &&& (3 : Int32))), .val (.ref rr_1), .val (.ref rr_3), .val (.ref rr_7), .unset, .unset, .unset, .unset] [(.ref b129), (.ref b129)]))
    refine Go.st (fun _ k' => XS.iconst X129.here hx rfl (hb hby at_90) k') ?_
    show Go p e below s _ _ _ (T129.setTop (mkF m 91 #[.val (.int size), .val (.int steps), .val (.int chs), .val (.int (2 : Int32)), .val (.int (steps &&& (3 : Int32))), .val (.ref rr_1), .val (.ref rr_3), .val (.ref rr_7), .unset, .unset, .unset, .unset] [(.int (0 : Int32)), (.ref b129), (.ref b129)]))
    refine Go.st (fun _ k' => XS.aload X129.here hx rfl (hb hby at_91) rfl rfl k') ?_
    show Go p e below s _ _ _ (T129.setTop (mkF m 93 #[.val (.int size), .val (.int steps), .val (.int chs), .val (.int (2 : Int32)), .val (.int (steps &&& (3 : Int32))), .val (.ref rr_1), .val (.ref rr_3), .val (.ref rr_7), .unset, .unset, .unset, .unset] [(.ref rr_1), (.int (0 : Int32)), (.ref b129), (.ref b129)]))
    have vz137 := f136
    obtain ⟨cl137, Ar137, qc137, Sz137, Nn137, Ha137, Gf137⟩ := id f136
    obtain ⟨T137, h137, X137, e137, W137, st137⟩ := stR X129 hx hZ e129 Ar137 (j := (0 : Int32)) (inb_of Sz137 ⟨by decide, by decide⟩) rfl (Sto.ofV Ar137 qc137 V129 (Ins.self f133)) (g := (mkF m 93 #[.val (.int size), .val (.int steps), .val (.int chs), .val (.int (2 : Int32)), .val (.int (steps &&& (3 : Int32))), .val (.ref rr_1), .val (.ref rr_3), .val (.ref rr_7), .unset, .unset, .unset, .unset] [(.ref rr_1), (.int (0 : Int32)), (.ref b129), (.ref b129)])) rfl rfl (hb hby at_93)
    refine Go.st st137 ?_
    have f139 : Exa Z h137 rr_1 "java/lang/String" := f133.wr W137
    have f140 : Exa Z h137 rr_3 "java/lang/String" := f134.wr W137
    have f141 : Exa Z h137 rr_7 "java/lang/String" := f135.wr W137
    have f142 : Exa Z h137 b129 "[Ljava/lang/String;" := Ex129.wr W137
    have O137 : Old Z n0 h137 := O129.wr W137 g_b129
    have N137 := Fr.snoc X137 N7 g_b129
    have f138 : Arv Z h137 b129 k129 (.object "java/lang/String") (2 : Int32) [(.ref rr_1), .null] .null := Arv.set Ar137 qc137 Sz137 Nn137 Ha137 Gf137 rfl W137 0 rfl (Nat.le_of_ble_eq_true rfl)
    show Go p e below s _ _ _ (T137.setTop (mkF m 94 #[.val (.int size), .val (.int steps), .val (.int chs), .val (.int (2 : Int32)), .val (.int (steps &&& (3 : Int32))), .val (.ref rr_1), .val (.ref rr_3), .val (.ref rr_7), .unset, .unset, .unset, .unset] [(.ref b129)]))
    refine Go.st (fun _ k' => XS.dup X137.here hx rfl (hb hby at_94) rfl rfl k') ?_
    show Go p e below s _ _ _ (T137.setTop (mkF m 95 #[.val (.int size), .val (.int steps), .val (.int chs), .val (.int (2 : Int32)), .val (.int (steps &&& (3 : Int32))), .val (.ref rr_1), .val (.ref rr_3), .val (.ref rr_7), .unset, .unset, .unset, .unset] [(.ref b129), (.ref b129)]))
    refine Go.st (fun _ k' => XS.iconst X137.here hx rfl (hb hby at_95) k') ?_
    show Go p e below s _ _ _ (T137.setTop (mkF m 96 #[.val (.int size), .val (.int steps), .val (.int chs), .val (.int (2 : Int32)), .val (.int (steps &&& (3 : Int32))), .val (.ref rr_1), .val (.ref rr_3), .val (.ref rr_7), .unset, .unset, .unset, .unset] [(.int (1 : Int32)), (.ref b129), (.ref b129)]))
    refine Go.st (fun _ k' => XS.aload X137.here hx rfl (hb hby at_96) rfl rfl k') ?_
    show Go p e below s _ _ _ (T137.setTop (mkF m 98 #[.val (.int size), .val (.int steps), .val (.int chs), .val (.int (2 : Int32)), .val (.int (steps &&& (3 : Int32))), .val (.ref rr_1), .val (.ref rr_3), .val (.ref rr_7), .unset, .unset, .unset, .unset] [(.ref rr_3), (.int (1 : Int32)), (.ref b129), (.ref b129)]))
    have vz143 := f138
    obtain ⟨cl143, Ar143, qc143, Sz143, Nn143, Ha143, Gf143⟩ := id f138
    obtain ⟨T143, h143, X143, e143, W143, st143⟩ := stR X137 hx hZ e137 Ar143 (j := (1 : Int32)) (inb_of Sz143 ⟨by decide, by decide⟩) rfl (Sto.ofV Ar143 qc143 V129 (Ins.self f140)) (g := (mkF m 98 #[.val (.int size), .val (.int steps), .val (.int chs), .val (.int (2 : Int32)), .val (.int (steps &&& (3 : Int32))), .val (.ref rr_1), .val (.ref rr_3), .val (.ref rr_7), .unset, .unset, .unset, .unset] [(.ref rr_3), (.int (1 : Int32)), (.ref b129), (.ref b129)])) rfl rfl (hb hby at_98)
    refine Go.st st143 ?_
    have f145 : Exa Z h143 rr_1 "java/lang/String" := f139.wr W143
    have f146 : Exa Z h143 rr_3 "java/lang/String" := f140.wr W143
    have f147 : Exa Z h143 rr_7 "java/lang/String" := f141.wr W143
    have f148 : Exa Z h143 b129 "[Ljava/lang/String;" := f142.wr W143
    have O143 : Old Z n0 h143 := O137.wr W143 g_b129
    have N143 := Fr.snoc X143 N137 g_b129
    have f144 : Arv Z h143 b129 k129 (.object "java/lang/String") (2 : Int32) [(.ref rr_1), (.ref rr_3)] .null := Arv.set Ar143 qc143 Sz143 Nn143 Ha143 Gf143 rfl W143 1 rfl (Nat.le_of_ble_eq_true rfl)
    show Go p e below s _ _ _ (T143.setTop (mkF m 99 #[.val (.int size), .val (.int steps), .val (.int chs), .val (.int (2 : Int32)), .val (.int (steps &&& (3 : Int32))), .val (.ref rr_1), .val (.ref rr_3), .val (.ref rr_7), .unset, .unset, .unset, .unset] [(.ref b129)]))
    refine Go.st (fun _ k' => XS.astore X143.here hx rfl (hb hby at_99) rfl rfl (l' := #[.val (.int size), .val (.int steps), .val (.int chs), .val (.int (2 : Int32)), .val (.int (steps &&& (3 : Int32))), .val (.ref rr_1), .val (.ref rr_3), .val (.ref rr_7), .val (.ref b129), .unset, .unset, .unset]) rfl k') ?_
    show Go p e below s _ _ _ (T143.setTop (mkF m 101 #[.val (.int size), .val (.int steps), .val (.int chs), .val (.int (2 : Int32)), .val (.int (steps &&& (3 : Int32))), .val (.ref rr_1), .val (.ref rr_3), .val (.ref rr_7), .val (.ref b129), .unset, .unset, .unset] []))
    refine Go.st (fun _ k' => XS.goto X143.here hx rfl (pc0 := 101) (pc' := 125) rfl (hb hby at_101) (by decide) (by decide) k') ?_
    show Go p e below s _ _ _ (T143.setTop (mkF m 125 #[.val (.int size), .val (.int steps), .val (.int chs), .val (.int (2 : Int32)), .val (.int (steps &&& (3 : Int32))), .val (.ref rr_1), .val (.ref rr_3), .val (.ref rr_7), .val (.ref b129), .unset, .unset, .unset] []))
    obtain ⟨T149, h149, X149, e149, E149, A149, D149, -, st149⟩ := newO X143 hx hZ hown (wdx hw 28 rfl) (wdx hw 29 rfl) (wdx hw 30 rfl) e143 (g := (mkF m 125 #[.val (.int size), .val (.int steps), .val (.int chs), .val (.int (2 : Int32)), .val (.int (steps &&& (3 : Int32))), .val (.ref rr_1), .val (.ref rr_3), .val (.ref rr_7), .val (.ref b129), .unset, .unset, .unset] [])) rfl (hb hby at_125) (by decide) (by decide)
    obtain ⟨b149, g149⟩ : ∃ z, z = h143.size := ⟨_, rfl⟩
    rw [← g149] at A149 D149 st149
    refine Go.st st149 ?_
    have g_b149 : n0 ≤ b149 := Nat.le_trans (own_le O143) (Nat.le_of_eq g149.symm)
    have ne150 : rr_1 ≠ b149 := Nat.ne_of_lt (Nat.lt_of_lt_of_le f145.lt (Nat.le_of_eq g149.symm))
    have ne151 : rr_3 ≠ b149 := Nat.ne_of_lt (Nat.lt_of_lt_of_le f146.lt (Nat.le_of_eq g149.symm))
    have ne152 : rr_7 ≠ b149 := Nat.ne_of_lt (Nat.lt_of_lt_of_le f147.lt (Nat.le_of_eq g149.symm))
    have ne153 : b129 ≠ b149 := Nat.ne_of_lt (Nat.lt_of_lt_of_le f148.lt (Nat.le_of_eq g149.symm))
    have f154 : Exa Z h149 rr_1 "java/lang/String" := f145.ext E149
    have f155 : Exa Z h149 rr_3 "java/lang/String" := f146.ext E149
    have f156 : Exa Z h149 rr_7 "java/lang/String" := f147.ext E149
    have f157 : Exa Z h149 b129 "[Ljava/lang/String;" := f148.ext E149
    have f158 : Arv Z h149 b129 k129 (.object "java/lang/String") (2 : Int32) [(.ref rr_1), (.ref rr_3)] .null := f144.ext E149
    have O149 : Old Z n0 h149 := O143.ext E149
    have f159 : Fld Z h149 b149 "com/example/reportwire/reportwire/Arguments" "optionsGiven" "Ljava/util/Set;" .null := D149 (Or.inr (wdx hw 74 rfl)) (ty := (.object "java/util/Set")) (by decide)
    have f160 : Fld Z h149 b149 "com/example/reportwire/reportwire/Arguments" "args" "[Ljava/lang/String;" .null := D149 (Or.inr (wdx hw 85 rfl)) (ty := (.array (.object "java/lang/String"))) (by decide)
    have f161 : Fld Z h149 b149 "com/example/reportwire/reportwire/Arguments" "next" "I" (.int (0 : Int32)) := D149 (Or.inl (wdx hw 92 rfl)) (ty := .int) (by decide)
    show Go p e below s _ _ _ (T149.setTop (mkF m 128 #[.val (.int size), .val (.int steps), .val (.int chs), .val (.int (2 : Int32)), .val (.int (steps &&& (3 : Int32))), .val (.ref rr_1), .val (.ref rr_3), .val (.ref rr_7), .val (.ref b129), .unset, .unset, .unset] [(.ref b149)]))
    refine Go.st (fun _ k' => XS.dup X149.here hx rfl (hb hby at_128) rfl rfl k') ?_
    show Go p e below s _ _ _ (T149.setTop (mkF m 129 #[.val (.int size), .val (.int steps), .val (.int chs), .val (.int (2 : Int32)), .val (.int (steps &&& (3 : Int32))), .val (.ref rr_1), .val (.ref rr_3), .val (.ref rr_7), .val (.ref b129), .unset, .unset, .unset] [(.ref b149), (.ref b149)]))
    refine Go.st (fun _ k' => XS.aload X149.here hx rfl (hb hby at_129) rfl rfl k') ?_
    show Go p e below s _ _ _ (T149.setTop (mkF m 131 #[.val (.int size), .val (.int steps), .val (.int chs), .val (.int (2 : Int32)), .val (.int (steps &&& (3 : Int32))), .val (.ref rr_1), .val (.ref rr_3), .val (.ref rr_7), .val (.ref b129), .unset, .unset, .unset] [(.ref b129), (.ref b149), (.ref b149)]))
    obtain ⟨_, _, ⟨T162, L162, k162, n162⟩, -, X162, ⟨Lc162, hQ162, l162, y162, z162⟩, st162⟩ := X149.specialBack hx (y := (⟨"com/example/reportwire/reportwire/Arguments", "<init>", "([Ljava/lang/String;)V"⟩ : MethodName)) rfl hown (mvT hZ (wdx hw 31 rfl)) (mvT hZ (wdx hw 32 rfl)) (mvT hZ (wdx hw 33 rfl)) (by decide) (backOf (W := 1) (rm6_2 l Z a0 hw [] b149 b129 k129 rr_1 rr_3 h149 n0 O149 A149 f159 f160 f161 f157 f158 g_b149 (Ne.symm ne153)) hZ (wdx hw 33 rfl) (wdx hw 30 rfl) (by decide) (by decide)) (g := (mkF m 131 #[.val (.int size), .val (.int steps), .val (.int chs), .val (.int (2 : Int32)), .val (.int (steps &&& (3 : Int32))), .val (.ref rr_1), .val (.ref rr_3), .val (.ref rr_7), .val (.ref b129), .unset, .unset, .unset] [(.ref b129), (.ref b149), (.ref b149)])) rfl (by rw [hml]; rfl) (Steps.refl _) (a := b149) (argsL := [(.ref b129)]) (rest := [(.ref b149)]) (lenOf pd___Ljava_lang_String__V rfl) rfl (by show 2 * 0 + _ ≤ _; exact Nat.le_of_eq rfl) (hb hby at_131) (fun _ _ => ⟨rfl, e149, (by exact Nat.le_of_ble_eq_true rfl), (by exact Nat.le_of_ble_eq_true rfl)⟩)
    dsimp only [Pt.U, Pt.locs, Pt.cells, Pt.slots] at X162 l162 y162 z162 st162 hQ162
    subst l162 y162 z162
    obtain ⟨na_162, kn_162, rfl, Nq162, Kq162, f163, f164, f165, szn_162⟩ := hQ162
    have N162 := Fr.app N143 Nq162
    refine Go.tr st162 ?_
    have f166 : Exa Z T162.heap rr_1 "java/lang/String" := f154.keep Kq162
    have f167 : Exa Z T162.heap rr_3 "java/lang/String" := f155.keep Kq162
    have f168 : Exa Z T162.heap rr_7 "java/lang/String" := f156.keep Kq162
    have f169 : Exa Z T162.heap b129 "[Ljava/lang/String;" := f157.keep Kq162
    have f170 : Arv Z T162.heap b129 k129 (.object "java/lang/String") (2 : Int32) [(.ref rr_1), (.ref rr_3)] .null := f158.keep Kq162 (ninS ne153 nin0)
    have f171 : Exa Z T162.heap b149 "com/example/reportwire/reportwire/Arguments" := A149.keep Kq162
    have O162 : Old Z n0 T162.heap := O149.keep Kq162 (allS g_b149 all0)
    have g_na_162 : n0 ≤ na_162 := Nat.le_trans (own_le O149) szn_162
    have ne172 : rr_1 ≠ na_162 := Nat.ne_of_lt (Nat.lt_of_lt_of_le f154.lt szn_162)
    have ne173 : rr_3 ≠ na_162 := Nat.ne_of_lt (Nat.lt_of_lt_of_le f155.lt szn_162)
    have ne174 : rr_7 ≠ na_162 := Nat.ne_of_lt (Nat.lt_of_lt_of_le f156.lt szn_162)
    have ne175 : b129 ≠ na_162 := Nat.ne_of_lt (Nat.lt_of_lt_of_le f157.lt szn_162)
    have ne176 : b149 ≠ na_162 := Nat.ne_of_lt (Nat.lt_of_lt_of_le A149.lt szn_162)
    show Go p e below s _ _ _ (T162.setTop (mkF m 134 #[.val (.int size), .val (.int steps), .val (.int chs), .val (.int (2 : Int32)), .val (.int (steps &&& (3 : Int32))), .val (.ref rr_1), .val (.ref rr_3), .val (.ref rr_7), .val (.ref b129), .unset, .unset, .unset] [(.ref b149)]))
    refine Go.st (fun _ k' => XS.astore X162.here hx rfl (hb hby at_134) rfl rfl (l' := #[.val (.int size), .val (.int steps), .val (.int chs), .val (.int (2 : Int32)), .val (.int (steps &&& (3 : Int32))), .val (.ref rr_1), .val (.ref rr_3), .val (.ref rr_7), .val (.ref b129), .val (.ref b149), .unset, .unset]) rfl k') ?_
    show Go p e below s _ _ _ (T162.setTop (mkF m 136 #[.val (.int size), .val (.int steps), .val (.int chs), .val (.int (2 : Int32)), .val (.int (steps &&& (3 : Int32))), .val (.ref rr_1), .val (.ref rr_3), .val (.ref rr_7), .val (.ref b129), .val (.ref b149), .unset, .unset] []))
    refine Go.st (fun _ k' => XS.aload X162.here hx rfl (hb hby at_136) rfl rfl k') ?_
    show Go p e below s _ _ _ (T162.setTop (mkF m 138 #[.val (.int size), .val (.int steps), .val (.int chs), .val (.int (2 : Int32)), .val (.int (steps &&& (3 : Int32))), .val (.ref rr_1), .val (.ref rr_3), .val (.ref rr_7), .val (.ref b129), .val (.ref b149), .unset, .unset] [(.ref b149)]))
    obtain ⟨cq177, kq177, q177a, q177b, q177c⟩ := isOf hZ rfl f171
    obtain ⟨_, _, ⟨T177, L177, k177, n177⟩, -, X177, ⟨Lc177, hQ177, l177, y177, z177⟩, st177⟩ := X162.virtualBack hx (y := (⟨"com/example/reportwire/reportwire/Arguments", "hasNext", "()Z"⟩ : MethodName)) (z := (⟨"com/example/reportwire/reportwire/Arguments", "hasNext", "()Z"⟩ : MethodName)) hown (mvT hZ (wdx hw 86 rfl)) (mvT hZ (wdx hw 87 rfl)) (notFace_of_selects (args := #[]) (mvT hZ (wdx hw 89 rfl))) (mvT hZ (wdx hw 89 rfl)) (mvT hZ (wdx hw 88 rfl)) (by decide) (backOf (W := 0) (rm12_2_0 l Z a0 hw [] b149 na_162 kn_162 rr_1 rr_3 T162.heap n0 O162 f163 f164 f165) hZ (wdx hw 90 rfl) (wdx hw 30 rfl) (by decide) (by decide)) q177a q177c (g := (mkF m 138 #[.val (.int size), .val (.int steps), .val (.int chs), .val (.int (2 : Int32)), .val (.int (steps &&& (3 : Int32))), .val (.ref rr_1), .val (.ref rr_3), .val (.ref rr_7), .val (.ref b129), .val (.ref b149), .unset, .unset] [(.ref b149)])) rfl (by rw [hml]; rfl) (Steps.refl _) (argsL := []) (rest := []) (lenOf pd___Z rfl) rfl (by show 2 * 0 + _ ≤ _; exact Nat.le_of_eq rfl) (hb hby at_138) (fun _ _ => ⟨rfl, rfl, (by exact Nat.le_of_ble_eq_true rfl), (by exact Nat.le_of_ble_eq_true rfl)⟩)
    dsimp only [Pt.U, Pt.locs, Pt.cells, Pt.slots] at X177 l177 y177 z177 st177 hQ177
    subst l177 y177 z177
    obtain ⟨rfl, Nq177, eq177⟩ := hQ177
    have N177 := Fr.app N162 Nq177
    refine Go.tr st177 ?_
    show Go p e below s _ _ _ (T177.setTop (mkF m 141 #[.val (.int size), .val (.int steps), .val (.int chs), .val (.int (2 : Int32)), .val (.int (steps &&& (3 : Int32))), .val (.ref rr_1), .val (.ref rr_3), .val (.ref rr_7), .val (.ref b129), .val (.ref b149), .unset, .unset] [(.int (1 : Int32))]))
    refine Go.st (fun _ k' => XS.iloadN X177.here hx rfl (hb hby at_141) rfl k') ?_
    show Go p e below s _ _ _ (T177.setTop (mkF m 142 #[.val (.int size), .val (.int steps), .val (.int chs), .val (.int (2 : Int32)), .val (.int (steps &&& (3 : Int32))), .val (.ref rr_1), .val (.ref rr_3), .val (.ref rr_7), .val (.ref b129), .val (.ref b149), .unset, .unset] [(.int (2 : Int32)), (.int (1 : Int32))]))
    refine Go.st (fun _ k' => XS.ifNo X177.here hx rfl (hb hby at_142) rfl (XT.i0_le_f (by decide)) k') ?_
    show Go p e below s _ _ _ (T177.setTop (mkF m 145 #[.val (.int size), .val (.int steps), .val (.int chs), .val (.int (2 : Int32)), .val (.int (steps &&& (3 : Int32))), .val (.ref rr_1), .val (.ref rr_3), .val (.ref rr_7), .val (.ref b129), .val (.ref b149), .unset, .unset] [(.int (1 : Int32))]))
    refine Go.st (fun _ k' => XS.iconst X177.here hx rfl (hb hby at_145) k') ?_
    show Go p e below s _ _ _ (T177.setTop (mkF m 146 #[.val (.int size), .val (.int steps), .val (.int chs), .val (.int (2 : Int32)), .val (.int (steps &&& (3 : Int32))), .val (.ref rr_1), .val (.ref rr_3), .val (.ref rr_7), .val (.ref b129), .val (.ref b149), .unset, .unset] [(.int (1 : Int32)), (.int (1 : Int32))]))
    refine Go.st (fun _ k' => XS.goto X177.here hx rfl (pc0 := 146) (pc' := 150) rfl (hb hby at_146) (by decide) (by decide) k') ?_
    show Go p e below s _ _ _ (T177.setTop (mkF m 150 #[.val (.int size), .val (.int steps), .val (.int chs), .val (.int (2 : Int32)), .val (.int (steps &&& (3 : Int32))), .val (.ref rr_1), .val (.ref rr_3), .val (.ref rr_7), .val (.ref b129), .val (.ref b149), .unset, .unset] [(.int (1 : Int32)), (.int (1 : Int32))]))
    refine Go.st (fun _ k' => XS.icmpNo X177.here hx rfl (hb hby at_150) rfl (XT.ii_ne_f (by decide)) k') ?_
    show Go p e below s _ _ _ (T177.setTop (mkF m 153 #[.val (.int size), .val (.int steps), .val (.int chs), .val (.int (2 : Int32)), .val (.int (steps &&& (3 : Int32))), .val (.ref rr_1), .val (.ref rr_3), .val (.ref rr_7), .val (.ref b129), .val (.ref b149), .unset, .unset] []))
    refine Go.st (fun _ k' => XS.iconst X177.here hx rfl (hb hby at_153) k') ?_
    show Go p e below s _ _ _ (T177.setTop (mkF m 154 #[.val (.int size), .val (.int steps), .val (.int chs), .val (.int (2 : Int32)), .val (.int (steps &&& (3 : Int32))), .val (.ref rr_1), .val (.ref rr_3), .val (.ref rr_7), .val (.ref b129), .val (.ref b149), .unset, .unset] [(.int (1 : Int32))]))
    refine Go.st (fun _ k' => XS.goto X177.here hx rfl (pc0 := 154) (pc' := 158) rfl (hb hby at_154) (by decide) (by decide) k') ?_
    show Go p e below s _ _ _ (T177.setTop (mkF m 158 #[.val (.int size), .val (.int steps), .val (.int chs), .val (.int (2 : Int32)), .val (.int (steps &&& (3 : Int32))), .val (.ref rr_1), .val (.ref rr_3), .val (.ref rr_7), .val (.ref b129), .val (.ref b149), .unset, .unset] [(.int (1 : Int32))]))
    refine Go.st (fun _ k' => XS.istore X177.here hx rfl (hb hby at_158) rfl (l' := #[.val (.int size), .val (.int steps), .val (.int chs), .val (.int (2 : Int32)), .val (.int (steps &&& (3 : Int32))), .val (.ref rr_1), .val (.ref rr_3), .val (.ref rr_7), .val (.ref b129), .val (.ref b149), .val (.int (1 : Int32)), .unset]) rfl k') ?_
    show Go p e below s _ _ _ (T177.setTop (mkF m 160 #[.val (.int size), .val (.int steps), .val (.int chs), .val (.int (2 : Int32)), .val (.int (steps &&& (3 : Int32))), .val (.ref rr_1), .val (.ref rr_3), .val (.ref rr_7), .val (.ref b129), .val (.ref b149), .val (.int (1 : Int32)), .unset] []))
    rcases own_c4 steps with hi160 | hi160 | hi160 | hi160
    · rw [hi160]
      show Go p e below s _ _ _ (T177.setTop (mkF m 160 #[.val (.int size), .val (.int steps), .val (.int chs), .val (.int (2 : Int32)), .val (.int (0 : Int32)), .val (.ref rr_1), .val (.ref rr_3), .val (.ref rr_7), .val (.ref b129), .val (.ref b149), .val (.int (1 : Int32)), .unset] []))
      refine Go.st (fun _ k' => XS.iload X177.here hx rfl (hb hby at_160) rfl k') ?_
      show Go p e below s _ _ _ (T177.setTop (mkF m 162 #[.val (.int size), .val (.int steps), .val (.int chs), .val (.int (2 : Int32)), .val (.int (0 : Int32)), .val (.ref rr_1), .val (.ref rr_3), .val (.ref rr_7), .val (.ref b129), .val (.ref b149), .val (.int (1 : Int32)), .unset] [(.int (0 : Int32))]))
      refine Go.st (fun _ k' => XS.iconst X177.here hx rfl (hb hby at_162) k') ?_
      show Go p e below s _ _ _ (T177.setTop (mkF m 163 #[.val (.int size), .val (.int steps), .val (.int chs), .val (.int (2 : Int32)), .val (.int (0 : Int32)), .val (.ref rr_1), .val (.ref rr_3), .val (.ref rr_7), .val (.ref b129), .val (.ref b149), .val (.int (1 : Int32)), .unset] [(.int (1 : Int32)), (.int (0 : Int32))]))
      refine Go.st (fun _ k' => XS.icmpYes X177.here hx rfl (pc0 := 163) (pc' := 230) rfl (hb hby at_163) rfl (XT.ii_lt_t (by decide)) (by decide) (by decide) k') ?_
      show Go p e below s _ _ _ (T177.setTop (mkF m 230 #[.val (.int size), .val (.int steps), .val (.int chs), .val (.int (2 : Int32)), .val (.int (0 : Int32)), .val (.ref rr_1), .val (.ref rr_3), .val (.ref rr_7), .val (.ref b129), .val (.ref b149), .val (.int (1 : Int32)), .unset] []))
      refine Go.st (fun _ k' => XS.iload X177.here hx rfl (hb hby at_230) rfl k') ?_
      show Go p e below s _ _ _ (T177.setTop (mkF m 232 #[.val (.int size), .val (.int steps), .val (.int chs), .val (.int (2 : Int32)), .val (.int (0 : Int32)), .val (.ref rr_1), .val (.ref rr_3), .val (.ref rr_7), .val (.ref b129), .val (.ref b149), .val (.int (1 : Int32)), .unset] [(.int (0 : Int32))]))
      refine Go.st (fun _ k' => XS.iconst X177.here hx rfl (hb hby at_232) k') ?_
      show Go p e below s _ _ _ (T177.setTop (mkF m 233 #[.val (.int size), .val (.int steps), .val (.int chs), .val (.int (2 : Int32)), .val (.int (0 : Int32)), .val (.ref rr_1), .val (.ref rr_3), .val (.ref rr_7), .val (.ref b129), .val (.ref b149), .val (.int (1 : Int32)), .unset] [(.int (2 : Int32)), (.int (0 : Int32))]))
      refine Go.st (fun _ k' => XS.icmpYes X177.here hx rfl (pc0 := 233) (pc' := 300) rfl (hb hby at_233) rfl (XT.ii_lt_t (by decide)) (by decide) (by decide) k') ?_
      show Go p e below s _ _ _ (T177.setTop (mkF m 300 #[.val (.int size), .val (.int steps), .val (.int chs), .val (.int (2 : Int32)), .val (.int (0 : Int32)), .val (.ref rr_1), .val (.ref rr_3), .val (.ref rr_7), .val (.ref b129), .val (.ref b149), .val (.int (1 : Int32)), .unset] []))
      refine Go.st (fun _ k' => XS.iload X177.here hx rfl (hb hby at_300) rfl k') ?_
      show Go p e below s _ _ _ (T177.setTop (mkF m 302 #[.val (.int size), .val (.int steps), .val (.int chs), .val (.int (2 : Int32)), .val (.int (0 : Int32)), .val (.ref rr_1), .val (.ref rr_3), .val (.ref rr_7), .val (.ref b129), .val (.ref b149), .val (.int (1 : Int32)), .unset] [(.int (0 : Int32))]))
      refine Go.st (fun _ k' => XS.iconst X177.here hx rfl (hb hby at_302) k') ?_
      show Go p e below s _ _ _ (T177.setTop (mkF m 303 #[.val (.int size), .val (.int steps), .val (.int chs), .val (.int (2 : Int32)), .val (.int (0 : Int32)), .val (.ref rr_1), .val (.ref rr_3), .val (.ref rr_7), .val (.ref b129), .val (.ref b149), .val (.int (1 : Int32)), .unset] [(.int (3 : Int32)), (.int (0 : Int32))]))
      refine Go.st (fun _ k' => XS.icmpYes X177.here hx rfl (pc0 := 303) (pc' := 360) rfl (hb hby at_303) rfl (XT.ii_lt_t (by decide)) (by decide) (by decide) k') ?_
      show Go p e below s _ _ _ (T177.setTop (mkF m 360 #[.val (.int size), .val (.int steps), .val (.int chs), .val (.int (2 : Int32)), .val (.int (0 : Int32)), .val (.ref rr_1), .val (.ref rr_3), .val (.ref rr_7), .val (.ref b129), .val (.ref b149), .val (.int (1 : Int32)), .unset] []))
      refine Go.st (fun _ k' => XS.iload X177.here hx rfl (hb hby at_360) rfl k') ?_
      show Go p e below s _ _ _ (T177.setTop (mkF m 362 #[.val (.int size), .val (.int steps), .val (.int chs), .val (.int (2 : Int32)), .val (.int (0 : Int32)), .val (.ref rr_1), .val (.ref rr_3), .val (.ref rr_7), .val (.ref b129), .val (.ref b149), .val (.int (1 : Int32)), .unset] [(.int (1 : Int32))]))
      refine Go.retB X177 hx hlk (t := .boolean) Bd.returns (by simp) (hb hby at_362) (by decide) (by decide) eq177 ?_
      exact ⟨rfl, N177, trivial⟩
    · rw [hi160]
      show Go p e below s _ _ _ (T177.setTop (mkF m 160 #[.val (.int size), .val (.int steps), .val (.int chs), .val (.int (2 : Int32)), .val (.int (1 : Int32)), .val (.ref rr_1), .val (.ref rr_3), .val (.ref rr_7), .val (.ref b129), .val (.ref b149), .val (.int (1 : Int32)), .unset] []))
      refine Go.st (fun _ k' => XS.iload X177.here hx rfl (hb hby at_160) rfl k') ?_
      show Go p e below s _ _ _ (T177.setTop (mkF m 162 #[.val (.int size), .val (.int steps), .val (.int chs), .val (.int (2 : Int32)), .val (.int (1 : Int32)), .val (.ref rr_1), .val (.ref rr_3), .val (.ref rr_7), .val (.ref b129), .val (.ref b149), .val (.int (1 : Int32)), .unset] [(.int (1 : Int32))]))
      refine Go.st (fun _ k' => XS.iconst X177.here hx rfl (hb hby at_162) k') ?_
      show Go p e below s _ _ _ (T177.setTop (mkF m 163 #[.val (.int size), .val (.int steps), .val (.int chs), .val (.int (2 : Int32)), .val (.int (1 : Int32)), .val (.ref rr_1), .val (.ref rr_3), .val (.ref rr_7), .val (.ref b129), .val (.ref b149), .val (.int (1 : Int32)), .unset] [(.int (1 : Int32)), (.int (1 : Int32))]))
      refine Go.st (fun _ k' => XS.icmpNo X177.here hx rfl (hb hby at_163) rfl (XT.ii_lt_f (by decide)) k') ?_
      show Go p e below s _ _ _ (T177.setTop (mkF m 166 #[.val (.int size), .val (.int steps), .val (.int chs), .val (.int (2 : Int32)), .val (.int (1 : Int32)), .val (.ref rr_1), .val (.ref rr_3), .val (.ref rr_7), .val (.ref b129), .val (.ref b149), .val (.int (1 : Int32)), .unset] []))
      refine Go.st (fun _ k' => XS.iloadN X177.here hx rfl (hb hby at_166) rfl k') ?_
      show Go p e below s _ _ _ (T177.setTop (mkF m 167 #[.val (.int size), .val (.int steps), .val (.int chs), .val (.int (2 : Int32)), .val (.int (1 : Int32)), .val (.ref rr_1), .val (.ref rr_3), .val (.ref rr_7), .val (.ref b129), .val (.ref b149), .val (.int (1 : Int32)), .unset] [(.int (2 : Int32))]))
      refine Go.st (fun _ k' => XS.iconst X177.here hx rfl (hb hby at_167) k') ?_
      show Go p e below s _ _ _ (T177.setTop (mkF m 168 #[.val (.int size), .val (.int steps), .val (.int chs), .val (.int (2 : Int32)), .val (.int (1 : Int32)), .val (.ref rr_1), .val (.ref rr_3), .val (.ref rr_7), .val (.ref b129), .val (.ref b149), .val (.int (1 : Int32)), .unset] [(.int (1 : Int32)), (.int (2 : Int32))]))
      refine Go.st (fun _ k' => XS.icmpNo X177.here hx rfl (hb hby at_168) rfl (XT.ii_lt_f (by decide)) k') ?_
      show Go p e below s _ _ _ (T177.setTop (mkF m 171 #[.val (.int size), .val (.int steps), .val (.int chs), .val (.int (2 : Int32)), .val (.int (1 : Int32)), .val (.ref rr_1), .val (.ref rr_3), .val (.ref rr_7), .val (.ref b129), .val (.ref b149), .val (.int (1 : Int32)), .unset] []))
      refine Go.st (fun _ k' => XS.aload X177.here hx rfl (hb hby at_171) rfl rfl k') ?_
      show Go p e below s _ _ _ (T177.setTop (mkF m 173 #[.val (.int size), .val (.int steps), .val (.int chs), .val (.int (2 : Int32)), .val (.int (1 : Int32)), .val (.ref rr_1), .val (.ref rr_3), .val (.ref rr_7), .val (.ref b129), .val (.ref b149), .val (.int (1 : Int32)), .unset] [(.ref b149)]))
      obtain ⟨cq178, kq178, q178a, q178b, q178c⟩ := isOf hZ eq177 f171
      obtain ⟨_, _, ⟨T178, L178, k178, n178⟩, -, X178, ⟨Lc178, hQ178, l178, y178, z178⟩, st178⟩ := X177.virtualBack hx (y := (⟨"com/example/reportwire/reportwire/Arguments", "next", "()Ljava/lang/String;"⟩ : MethodName)) (z := (⟨"com/example/reportwire/reportwire/Arguments", "next", "()Ljava/lang/String;"⟩ : MethodName)) hown (mvT hZ (wdx hw 93 rfl)) (mvT hZ (wdx hw 94 rfl)) (notFace_of_selects (args := #[]) (mvT hZ (wdx hw 96 rfl))) (mvT hZ (wdx hw 96 rfl)) (mvT hZ (wdx hw 95 rfl)) (by decide) (backOf (W := 0) (rm13_2_0 l Z a0 hw [] b149 na_162 kn_162 rr_1 rr_3 T162.heap n0 O162 f171 f163 f164 f165 g_b149 ne176) hZ (wdx hw 97 rfl) (wdx hw 30 rfl) (by decide) (by decide)) q178a q178c (g := (mkF m 173 #[.val (.int size), .val (.int steps), .val (.int chs), .val (.int (2 : Int32)), .val (.int (1 : Int32)), .val (.ref rr_1), .val (.ref rr_3), .val (.ref rr_7), .val (.ref b129), .val (.ref b149), .val (.int (1 : Int32)), .unset] [(.ref b149)])) rfl (by rw [hml]; rfl) (Steps.refl _) (argsL := []) (rest := []) (lenOf pd___Ljava_lang_String_ rfl) rfl (by show 2 * 0 + _ ≤ _; exact Nat.le_of_eq rfl) (hb hby at_173) (fun _ _ => ⟨rfl, eq177, (by exact Nat.le_of_ble_eq_true rfl), (by exact Nat.le_of_ble_eq_true rfl)⟩)
      dsimp only [Pt.U, Pt.locs, Pt.cells, Pt.slots] at X178 l178 y178 z178 st178 hQ178
      subst l178 y178 z178
      obtain ⟨rfl, Nq178, Kq178, f179, f180⟩ := hQ178
      have N178 := Fr.app N177 Nq178
      refine Go.tr st178 ?_
      have f181 : Exa Z T178.heap rr_1 "java/lang/String" := f166.keep Kq178
      have f182 : Exa Z T178.heap rr_3 "java/lang/String" := f167.keep Kq178
      have f183 : Exa Z T178.heap rr_7 "java/lang/String" := f168.keep Kq178
      have f184 : Exa Z T178.heap b129 "[Ljava/lang/String;" := f169.keep Kq178
      have f185 : Arv Z T178.heap b129 k129 (.object "java/lang/String") (2 : Int32) [(.ref rr_1), (.ref rr_3)] .null := f170.keep Kq178 (ninS ne153 nin0)
      have f186 : Exa Z T178.heap b149 "com/example/reportwire/reportwire/Arguments" := f171.keep Kq178
      have f187 : Arv Z T178.heap na_162 kn_162 (.object "java/lang/String") (2 : Int32) [(.ref rr_1), (.ref rr_3)] .null := f165.keep Kq178 (ninS (Ne.symm ne176) nin0)
      have O178 : Old Z n0 T178.heap := O162.keep Kq178 (allS g_b149 all0)
      show Go p e below s _ _ _ (T178.setTop (mkF m 176 #[.val (.int size), .val (.int steps), .val (.int chs), .val (.int (2 : Int32)), .val (.int (1 : Int32)), .val (.ref rr_1), .val (.ref rr_3), .val (.ref rr_7), .val (.ref b129), .val (.ref b149), .val (.int (1 : Int32)), .unset] [(.ref rr_1)]))
      refine Go.st (fun _ k' => XS.astore X178.here hx rfl (hb hby at_176) rfl rfl (l' := #[.val (.int size), .val (.int steps), .val (.int chs), .val (.int (2 : Int32)), .val (.int (1 : Int32)), .val (.ref rr_1), .val (.ref rr_3), .val (.ref rr_7), .val (.ref b129), .val (.ref b149), .val (.int (1 : Int32)), .val (.ref rr_1)]) rfl k') ?_
      show Go p e below s _ _ _ (T178.setTop (mkF m 178 #[.val (.int size), .val (.int steps), .val (.int chs), .val (.int (2 : Int32)), .val (.int (1 : Int32)), .val (.ref rr_1), .val (.ref rr_3), .val (.ref rr_7), .val (.ref b129), .val (.ref b149), .val (.int (1 : Int32)), .val (.ref rr_1)] []))
      refine Go.st (fun _ k' => XS.aload X178.here hx rfl (hb hby at_178) rfl rfl k') ?_
      show Go p e below s _ _ _ (T178.setTop (mkF m 180 #[.val (.int size), .val (.int steps), .val (.int chs), .val (.int (2 : Int32)), .val (.int (1 : Int32)), .val (.ref rr_1), .val (.ref rr_3), .val (.ref rr_7), .val (.ref b129), .val (.ref b149), .val (.int (1 : Int32)), .val (.ref rr_1)] [(.ref rr_1)]))
      refine Go.st (fun _ k' => XS.aload X178.here hx rfl (hb hby at_180) rfl rfl k') ?_
      show Go p e below s _ _ _ (T178.setTop (mkF m 182 #[.val (.int size), .val (.int steps), .val (.int chs), .val (.int (2 : Int32)), .val (.int (1 : Int32)), .val (.ref rr_1), .val (.ref rr_3), .val (.ref rr_7), .val (.ref b129), .val (.ref b149), .val (.int (1 : Int32)), .val (.ref rr_1)] [(.ref rr_1), (.ref rr_1)]))
      obtain ⟨cq188, kq188, q188a, q188b, q188c⟩ := isOf hZ rfl f181
      obtain ⟨_, _, ⟨T188, L188, k188, n188⟩, -, X188, ⟨Lc188, hQ188, l188, y188, z188⟩, st188⟩ := X178.virtualBack hx (y := (⟨"java/lang/String", "equals", "(Ljava/lang/Object;)Z"⟩ : MethodName)) (z := (⟨"java/lang/String", "equals", "(Ljava/lang/Object;)Z"⟩ : MethodName)) hown (mvT hZ (wdx hw 104 rfl)) (mvT hZ (wdx hw 105 rfl)) (notFace_of_selects (args := #[]) (mvT hZ (wdx hw 107 rfl))) (mvT hZ (wdx hw 107 rfl)) (mvT hZ (wdx hw 106 rfl)) (by decide) (backOf (W := 0) (rm15 l Z a0 hw [] rr_1 T178.heap n0 O178 ) hZ (wdx hw 108 rfl) (wdx hw 2 rfl) (by decide) (by decide)) q188a q188c (g := (mkF m 182 #[.val (.int size), .val (.int steps), .val (.int chs), .val (.int (2 : Int32)), .val (.int (1 : Int32)), .val (.ref rr_1), .val (.ref rr_3), .val (.ref rr_7), .val (.ref b129), .val (.ref b149), .val (.int (1 : Int32)), .val (.ref rr_1)] [(.ref rr_1), (.ref rr_1)])) rfl (by rw [hml]; rfl) (Steps.refl _) (argsL := [(.ref rr_1)]) (rest := []) (lenOf pd__Ljava_lang_Object__Z rfl) rfl (by show 2 * 0 + _ ≤ _; exact Nat.le_of_eq rfl) (hb hby at_182) (fun _ _ => ⟨rfl, rfl, (by exact Nat.le_of_ble_eq_true rfl), (by exact Nat.le_of_ble_eq_true rfl)⟩)
      dsimp only [Pt.U, Pt.locs, Pt.cells, Pt.slots] at X188 l188 y188 z188 st188 hQ188
      subst l188 y188 z188
      obtain ⟨rfl, Nq188, eq188⟩ := hQ188
      have N188 := Fr.app N178 Nq188
      refine Go.tr st188 ?_
      show Go p e below s _ _ _ (T188.setTop (mkF m 185 #[.val (.int size), .val (.int steps), .val (.int chs), .val (.int (2 : Int32)), .val (.int (1 : Int32)), .val (.ref rr_1), .val (.ref rr_3), .val (.ref rr_7), .val (.ref b129), .val (.ref b149), .val (.int (1 : Int32)), .val (.ref rr_1)] [(.int (1 : Int32))]))
      refine Go.st (fun _ k' => XS.ifNo X188.here hx rfl (hb hby at_185) rfl (XT.i0_eq_f (by decide)) k') ?_
      show Go p e below s _ _ _ (T188.setTop (mkF m 188 #[.val (.int size), .val (.int steps), .val (.int chs), .val (.int (2 : Int32)), .val (.int (1 : Int32)), .val (.ref rr_1), .val (.ref rr_3), .val (.ref rr_7), .val (.ref b129), .val (.ref b149), .val (.int (1 : Int32)), .val (.ref rr_1)] []))
      refine Go.st (fun _ k' => XS.iload X188.here hx rfl (hb hby at_188) rfl k') ?_
      show Go p e below s _ _ _ (T188.setTop (mkF m 190 #[.val (.int size), .val (.int steps), .val (.int chs), .val (.int (2 : Int32)), .val (.int (1 : Int32)), .val (.ref rr_1), .val (.ref rr_3), .val (.ref rr_7), .val (.ref b129), .val (.ref b149), .val (.int (1 : Int32)), .val (.ref rr_1)] [(.int (1 : Int32))]))
      refine Go.st (fun _ k' => XS.ifNo X188.here hx rfl (hb hby at_190) rfl (XT.i0_eq_f (by decide)) k') ?_
      show Go p e below s _ _ _ (T188.setTop (mkF m 193 #[.val (.int size), .val (.int steps), .val (.int chs), .val (.int (2 : Int32)), .val (.int (1 : Int32)), .val (.ref rr_1), .val (.ref rr_3), .val (.ref rr_7), .val (.ref b129), .val (.ref b149), .val (.int (1 : Int32)), .val (.ref rr_1)] []))
      refine Go.st (fun _ k' => XS.iconst X188.here hx rfl (hb hby at_193) k') ?_
      show Go p e below s _ _ _ (T188.setTop (mkF m 194 #[.val (.int size), .val (.int steps), .val (.int chs), .val (.int (2 : Int32)), .val (.int (1 : Int32)), .val (.ref rr_1), .val (.ref rr_3), .val (.ref rr_7), .val (.ref b129), .val (.ref b149), .val (.int (1 : Int32)), .val (.ref rr_1)] [(.int (1 : Int32))]))
      refine Go.st (fun _ k' => XS.goto X188.here hx rfl (pc0 := 194) (pc' := 198) rfl (hb hby at_194) (by decide) (by decide) k') ?_
      show Go p e below s _ _ _ (T188.setTop (mkF m 198 #[.val (.int size), .val (.int steps), .val (.int chs), .val (.int (2 : Int32)), .val (.int (1 : Int32)), .val (.ref rr_1), .val (.ref rr_3), .val (.ref rr_7), .val (.ref b129), .val (.ref b149), .val (.int (1 : Int32)), .val (.ref rr_1)] [(.int (1 : Int32))]))
      refine Go.st (fun _ k' => XS.istore X188.here hx rfl (hb hby at_198) rfl (l' := #[.val (.int size), .val (.int steps), .val (.int chs), .val (.int (2 : Int32)), .val (.int (1 : Int32)), .val (.ref rr_1), .val (.ref rr_3), .val (.ref rr_7), .val (.ref b129), .val (.ref b149), .val (.int (1 : Int32)), .val (.ref rr_1)]) rfl k') ?_
      show Go p e below s _ _ _ (T188.setTop (mkF m 200 #[.val (.int size), .val (.int steps), .val (.int chs), .val (.int (2 : Int32)), .val (.int (1 : Int32)), .val (.ref rr_1), .val (.ref rr_3), .val (.ref rr_7), .val (.ref b129), .val (.ref b149), .val (.int (1 : Int32)), .val (.ref rr_1)] []))
      refine Go.st (fun _ k' => XS.aload X188.here hx rfl (hb hby at_200) rfl rfl k') ?_
      show Go p e below s _ _ _ (T188.setTop (mkF m 202 #[.val (.int size), .val (.int steps), .val (.int chs), .val (.int (2 : Int32)), .val (.int (1 : Int32)), .val (.ref rr_1), .val (.ref rr_3), .val (.ref rr_7), .val (.ref b129), .val (.ref b149), .val (.int (1 : Int32)), .val (.ref rr_1)] [(.ref b149)]))
      obtain ⟨cq189, kq189, q189a, q189b, q189c⟩ := isOf hZ eq188 f186
      obtain ⟨_, _, ⟨T189, L189, k189, n189⟩, -, X189, ⟨Lc189, hQ189, l189, y189, z189⟩, st189⟩ := X188.virtualBack hx (y := (⟨"com/example/reportwire/reportwire/Arguments", "hasNext", "()Z"⟩ : MethodName)) (z := (⟨"com/example/reportwire/reportwire/Arguments", "hasNext", "()Z"⟩ : MethodName)) hown (mvT hZ (wdx hw 86 rfl)) (mvT hZ (wdx hw 87 rfl)) (notFace_of_selects (args := #[]) (mvT hZ (wdx hw 89 rfl))) (mvT hZ (wdx hw 89 rfl)) (mvT hZ (wdx hw 88 rfl)) (by decide) (backOf (W := 0) (rm12_2_1 l Z a0 hw [] b149 na_162 kn_162 rr_1 rr_3 T178.heap n0 O178 f179 f180 f187) hZ (wdx hw 90 rfl) (wdx hw 30 rfl) (by decide) (by decide)) q189a q189c (g := (mkF m 202 #[.val (.int size), .val (.int steps), .val (.int chs), .val (.int (2 : Int32)), .val (.int (1 : Int32)), .val (.ref rr_1), .val (.ref rr_3), .val (.ref rr_7), .val (.ref b129), .val (.ref b149), .val (.int (1 : Int32)), .val (.ref rr_1)] [(.ref b149)])) rfl (by rw [hml]; rfl) (Steps.refl _) (argsL := []) (rest := []) (lenOf pd___Z rfl) rfl (by show 2 * 0 + _ ≤ _; exact Nat.le_of_eq rfl) (hb hby at_202) (fun _ _ => ⟨rfl, eq188, (by exact Nat.le_of_ble_eq_true rfl), (by exact Nat.le_of_ble_eq_true rfl)⟩)
      dsimp only [Pt.U, Pt.locs, Pt.cells, Pt.slots] at X189 l189 y189 z189 st189 hQ189
      subst l189 y189 z189
      obtain ⟨rfl, Nq189, eq189⟩ := hQ189
      have N189 := Fr.app N188 Nq189
      refine Go.tr st189 ?_
      show Go p e below s _ _ _ (T189.setTop (mkF m 205 #[.val (.int size), .val (.int steps), .val (.int chs), .val (.int (2 : Int32)), .val (.int (1 : Int32)), .val (.ref rr_1), .val (.ref rr_3), .val (.ref rr_7), .val (.ref b129), .val (.ref b149), .val (.int (1 : Int32)), .val (.ref rr_1)] [(.int (1 : Int32))]))
      refine Go.st (fun _ k' => XS.iloadN X189.here hx rfl (hb hby at_205) rfl k') ?_
      show Go p e below s _ _ _ (T189.setTop (mkF m 206 #[.val (.int size), .val (.int steps), .val (.int chs), .val (.int (2 : Int32)), .val (.int (1 : Int32)), .val (.ref rr_1), .val (.ref rr_3), .val (.ref rr_7), .val (.ref b129), .val (.ref b149), .val (.int (1 : Int32)), .val (.ref rr_1)] [(.int (2 : Int32)), (.int (1 : Int32))]))
      refine Go.st (fun _ k' => XS.iconst X189.here hx rfl (hb hby at_206) k') ?_
      show Go p e below s _ _ _ (T189.setTop (mkF m 207 #[.val (.int size), .val (.int steps), .val (.int chs), .val (.int (2 : Int32)), .val (.int (1 : Int32)), .val (.ref rr_1), .val (.ref rr_3), .val (.ref rr_7), .val (.ref b129), .val (.ref b149), .val (.int (1 : Int32)), .val (.ref rr_1)] [(.int (1 : Int32)), (.int (2 : Int32)), (.int (1 : Int32))]))
      refine Go.st (fun _ k' => XS.icmpNo X189.here hx rfl (hb hby at_207) rfl (XT.ii_le_f (by decide)) k') ?_
      show Go p e below s _ _ _ (T189.setTop (mkF m 210 #[.val (.int size), .val (.int steps), .val (.int chs), .val (.int (2 : Int32)), .val (.int (1 : Int32)), .val (.ref rr_1), .val (.ref rr_3), .val (.ref rr_7), .val (.ref b129), .val (.ref b149), .val (.int (1 : Int32)), .val (.ref rr_1)] [(.int (1 : Int32))]))
      refine Go.st (fun _ k' => XS.iconst X189.here hx rfl (hb hby at_210) k') ?_
      show Go p e below s _ _ _ (T189.setTop (mkF m 211 #[.val (.int size), .val (.int steps), .val (.int chs), .val (.int (2 : Int32)), .val (.int (1 : Int32)), .val (.ref rr_1), .val (.ref rr_3), .val (.ref rr_7), .val (.ref b129), .val (.ref b149), .val (.int (1 : Int32)), .val (.ref rr_1)] [(.int (1 : Int32)), (.int (1 : Int32))]))
      refine Go.st (fun _ k' => XS.goto X189.here hx rfl (pc0 := 211) (pc' := 215) rfl (hb hby at_211) (by decide) (by decide) k') ?_
      show Go p e below s _ _ _ (T189.setTop (mkF m 215 #[.val (.int size), .val (.int steps), .val (.int chs), .val (.int (2 : Int32)), .val (.int (1 : Int32)), .val (.ref rr_1), .val (.ref rr_3), .val (.ref rr_7), .val (.ref b129), .val (.ref b149), .val (.int (1 : Int32)), .val (.ref rr_1)] [(.int (1 : Int32)), (.int (1 : Int32))]))
      refine Go.st (fun _ k' => XS.icmpNo X189.here hx rfl (hb hby at_215) rfl (XT.ii_ne_f (by decide)) k') ?_
      show Go p e below s _ _ _ (T189.setTop (mkF m 218 #[.val (.int size), .val (.int steps), .val (.int chs), .val (.int (2 : Int32)), .val (.int (1 : Int32)), .val (.ref rr_1), .val (.ref rr_3), .val (.ref rr_7), .val (.ref b129), .val (.ref b149), .val (.int (1 : Int32)), .val (.ref rr_1)] []))
      refine Go.st (fun _ k' => XS.iload X189.here hx rfl (hb hby at_218) rfl k') ?_
      show Go p e below s _ _ _ (T189.setTop (mkF m 220 #[.val (.int size), .val (.int steps), .val (.int chs), .val (.int (2 : Int32)), .val (.int (1 : Int32)), .val (.ref rr_1), .val (.ref rr_3), .val (.ref rr_7), .val (.ref b129), .val (.ref b149), .val (.int (1 : Int32)), .val (.ref rr_1)] [(.int (1 : Int32))]))
      refine Go.st (fun _ k' => XS.ifNo X189.here hx rfl (hb hby at_220) rfl (XT.i0_eq_f (by decide)) k') ?_
      show Go p e below s _ _ _ (T189.setTop (mkF m 223 #[.val (.int size), .val (.int steps), .val (.int chs), .val (.int (2 : Int32)), .val (.int (1 : Int32)), .val (.ref rr_1), .val (.ref rr_3), .val (.ref rr_7), .val (.ref b129), .val (.ref b149), .val (.int (1 : Int32)), .val (.ref rr_1)] []))
      refine Go.st (fun _ k' => XS.iconst X189.here hx rfl (hb hby at_223) k') ?_
      show Go p e below s _ _ _ (T189.setTop (mkF m 224 #[.val (.int size), .val (.int steps), .val (.int chs), .val (.int (2 : Int32)), .val (.int (1 : Int32)), .val (.ref rr_1), .val (.ref rr_3), .val (.ref rr_7), .val (.ref b129), .val (.ref b149), .val (.int (1 : Int32)), .val (.ref rr_1)] [(.int (1 : Int32))]))
      refine Go.st (fun _ k' => XS.goto X189.here hx rfl (pc0 := 224) (pc' := 228) rfl (hb hby at_224) (by decide) (by decide) k') ?_
      show Go p e below s _ _ _ (T189.setTop (mkF m 228 #[.val (.int size), .val (.int steps), .val (.int chs), .val (.int (2 : Int32)), .val (.int (1 : Int32)), .val (.ref rr_1), .val (.ref rr_3), .val (.ref rr_7), .val (.ref b129), .val (.ref b149), .val (.int (1 : Int32)), .val (.ref rr_1)] [(.int (1 : Int32))]))
      refine Go.st (fun _ k' => XS.istore X189.here hx rfl (hb hby at_228) rfl (l' := #[.val (.int size), .val (.int steps), .val (.int chs), .val (.int (2 : Int32)), .val (.int (1 : Int32)), .val (.ref rr_1), .val (.ref rr_3), .val (.ref rr_7), .val (.ref b129), .val (.ref b149), .val (.int (1 : Int32)), .val (.ref rr_1)]) rfl k') ?_
      show Go p e below s _ _ _ (T189.setTop (mkF m 230 #[.val (.int size), .val (.int steps), .val (.int chs), .val (.int (2 : Int32)), .val (.int (1 : Int32)), .val (.ref rr_1), .val (.ref rr_3), .val (.ref rr_7), .val (.ref b129), .val (.ref b149), .val (.int (1 : Int32)), .val (.ref rr_1)] []))
      refine Go.st (fun _ k' => XS.iload X189.here hx rfl (hb hby at_230) rfl k') ?_
      show Go p e below s _ _ _ (T189.setTop (mkF m 232 #[.val (.int size), .val (.int steps), .val (.int chs), .val (.int (2 : Int32)), .val (.int (1 : Int32)), .val (.ref rr_1), .val (.ref rr_3), .val (.ref rr_7), .val (.ref b129), .val (.ref b149), .val (.int (1 : Int32)), .val (.ref rr_1)] [(.int (1 : Int32))]))
      refine Go.st (fun _ k' => XS.iconst X189.here hx rfl (hb hby at_232) k') ?_
      show Go p e below s _ _ _ (T189.setTop (mkF m 233 #[.val (.int size), .val (.int steps), .val (.int chs), .val (.int (2 : Int32)), .val (.int (1 : Int32)), .val (.ref rr_1), .val (.ref rr_3), .val (.ref rr_7), .val (.ref b129), .val (.ref b149), .val (.int (1 : Int32)), .val (.ref rr_1)] [(.int (2 : Int32)), (.int (1 : Int32))]))
      refine Go.st (fun _ k' => XS.icmpYes X189.here hx rfl (pc0 := 233) (pc' := 300) rfl (hb hby at_233) rfl (XT.ii_lt_t (by decide)) (by decide) (by decide) k') ?_
      show Go p e below s _ _ _ (T189.setTop (mkF m 300 #[.val (.int size), .val (.int steps), .val (.int chs), .val (.int (2 : Int32)), .val (.int (1 : Int32)), .val (.ref rr_1), .val (.ref rr_3), .val (.ref rr_7), .val (.ref b129), .val (.ref b149), .val (.int (1 : Int32)), .val (.ref rr_1)] []))
      refine Go.st (fun _ k' => XS.iload X189.here hx rfl (hb hby at_300) rfl k') ?_
      show Go p e below s _ _ _ (T189.setTop (mkF m 302 #[.val (.int size), .val (.int steps), .val (.int chs), .val (.int (2 : Int32)), .val (.int (1 : Int32)), .val (.ref rr_1), .val (.ref rr_3), .val (.ref rr_7), .val (.ref b129), .val (.ref b149), .val (.int (1 : Int32)), .val (.ref rr_1)] [(.int (1 : Int32))]))
      refine Go.st (fun _ k' => XS.iconst X189.here hx rfl (hb hby at_302) k') ?_
      show Go p e below s _ _ _ (T189.setTop (mkF m 303 #[.val (.int size), .val (.int steps), .val (.int chs), .val (.int (2 : Int32)), .val (.int (1 : Int32)), .val (.ref rr_1), .val (.ref rr_3), .val (.ref rr_7), .val (.ref b129), .val (.ref b149), .val (.int (1 : Int32)), .val (.ref rr_1)] [(.int (3 : Int32)), (.int (1 : Int32))]))
      refine Go.st (fun _ k' => XS.icmpYes X189.here hx rfl (pc0 := 303) (pc' := 360) rfl (hb hby at_303) rfl (XT.ii_lt_t (by decide)) (by decide) (by decide) k') ?_
      show Go p e below s _ _ _ (T189.setTop (mkF m 360 #[.val (.int size), .val (.int steps), .val (.int chs), .val (.int (2 : Int32)), .val (.int (1 : Int32)), .val (.ref rr_1), .val (.ref rr_3), .val (.ref rr_7), .val (.ref b129), .val (.ref b149), .val (.int (1 : Int32)), .val (.ref rr_1)] []))
      refine Go.st (fun _ k' => XS.iload X189.here hx rfl (hb hby at_360) rfl k') ?_
      show Go p e below s _ _ _ (T189.setTop (mkF m 362 #[.val (.int size), .val (.int steps), .val (.int chs), .val (.int (2 : Int32)), .val (.int (1 : Int32)), .val (.ref rr_1), .val (.ref rr_3), .val (.ref rr_7), .val (.ref b129), .val (.ref b149), .val (.int (1 : Int32)), .val (.ref rr_1)] [(.int (1 : Int32))]))
      refine Go.retB X189 hx hlk (t := .boolean) Bd.returns (by simp) (hb hby at_362) (by decide) (by decide) eq189 ?_
      exact ⟨rfl, N189, trivial⟩
    · rw [hi160]
      show Go p e below s _ _ _ (T177.setTop (mkF m 160 #[.val (.int size), .val (.int steps), .val (.int chs), .val (.int (2 : Int32)), .val (.int (2 : Int32)), .val (.ref rr_1), .val (.ref rr_3), .val (.ref rr_7), .val (.ref b129), .val (.ref b149), .val (.int (1 : Int32)), .unset] []))
      refine Go.st (fun _ k' => XS.iload X177.here hx rfl (hb hby at_160) rfl k') ?_
      show Go p e below s _ _ _ (T177.setTop (mkF m 162 #[.val (.int size), .val (.int steps), .val (.int chs), .val (.int (2 : Int32)), .val (.int (2 : Int32)), .val (.ref rr_1), .val (.ref rr_3), .val (.ref rr_7), .val (.ref b129), .val (.ref b149), .val (.int (1 : Int32)), .unset] [(.int (2 : Int32))]))
      refine Go.st (fun _ k' => XS.iconst X177.here hx rfl (hb hby at_162) k') ?_
      show Go p e below s _ _ _ (T177.setTop (mkF m 163 #[.val (.int size), .val (.int steps), .val (.int chs), .val (.int (2 : Int32)), .val (.int (2 : Int32)), .val (.ref rr_1), .val (.ref rr_3), .val (.ref rr_7), .val (.ref b129), .val (.ref b149), .val (.int (1 : Int32)), .unset] [(.int (1 : Int32)), (.int (2 : Int32))]))
      refine Go.st (fun _ k' => XS.icmpNo X177.here hx rfl (hb hby at_163) rfl (XT.ii_lt_f (by decide)) k') ?_
      show Go p e below s _ _ _ (T177.setTop (mkF m 166 #[.val (.int size), .val (.int steps), .val (.int chs), .val (.int (2 : Int32)), .val (.int (2 : Int32)), .val (.ref rr_1), .val (.ref rr_3), .val (.ref rr_7), .val (.ref b129), .val (.ref b149), .val (.int (1 : Int32)), .unset] []))
      refine Go.st (fun _ k' => XS.iloadN X177.here hx rfl (hb hby at_166) rfl k') ?_
      show Go p e below s _ _ _ (T177.setTop (mkF m 167 #[.val (.int size), .val (.int steps), .val (.int chs), .val (.int (2 : Int32)), .val (.int (2 : Int32)), .val (.ref rr_1), .val (.ref rr_3), .val (.ref rr_7), .val (.ref b129), .val (.ref b149), .val (.int (1 : Int32)), .unset] [(.int (2 : Int32))]))
      refine Go.st (fun _ k' => XS.iconst X177.here hx rfl (hb hby at_167) k') ?_
      show Go p e below s _ _ _ (T177.setTop (mkF m 168 #[.val (.int size), .val (.int steps), .val (.int chs), .val (.int (2 : Int32)), .val (.int (2 : Int32)), .val (.ref rr_1), .val (.ref rr_3), .val (.ref rr_7), .val (.ref b129), .val (.ref b149), .val (.int (1 : Int32)), .unset] [(.int (1 : Int32)), (.int (2 : Int32))]))
      refine Go.st (fun _ k' => XS.icmpNo X177.here hx rfl (hb hby at_168) rfl (XT.ii_lt_f (by decide)) k') ?_
      show Go p e below s _ _ _ (T177.setTop (mkF m 171 #[.val (.int size), .val (.int steps), .val (.int chs), .val (.int (2 : Int32)), .val (.int (2 : Int32)), .val (.ref rr_1), .val (.ref rr_3), .val (.ref rr_7), .val (.ref b129), .val (.ref b149), .val (.int (1 : Int32)), .unset] []))
      refine Go.st (fun _ k' => XS.aload X177.here hx rfl (hb hby at_171) rfl rfl k') ?_
      show Go p e below s _ _ _ (T177.setTop (mkF m 173 #[.val (.int size), .val (.int steps), .val (.int chs), .val (.int (2 : Int32)), .val (.int (2 : Int32)), .val (.ref rr_1), .val (.ref rr_3), .val (.ref rr_7), .val (.ref b129), .val (.ref b149), .val (.int (1 : Int32)), .unset] [(.ref b149)]))
      obtain ⟨cq190, kq190, q190a, q190b, q190c⟩ := isOf hZ eq177 f171
      obtain ⟨_, _, ⟨T190, L190, k190, n190⟩, -, X190, ⟨Lc190, hQ190, l190, y190, z190⟩, st190⟩ := X177.virtualBack hx (y := (⟨"com/example/reportwire/reportwire/Arguments", "next", "()Ljava/lang/String;"⟩ : MethodName)) (z := (⟨"com/example/reportwire/reportwire/Arguments", "next", "()Ljava/lang/String;"⟩ : MethodName)) hown (mvT hZ (wdx hw 93 rfl)) (mvT hZ (wdx hw 94 rfl)) (notFace_of_selects (args := #[]) (mvT hZ (wdx hw 96 rfl))) (mvT hZ (wdx hw 96 rfl)) (mvT hZ (wdx hw 95 rfl)) (by decide) (backOf (W := 0) (rm13_2_0 l Z a0 hw [] b149 na_162 kn_162 rr_1 rr_3 T162.heap n0 O162 f171 f163 f164 f165 g_b149 ne176) hZ (wdx hw 97 rfl) (wdx hw 30 rfl) (by decide) (by decide)) q190a q190c (g := (mkF m 173 #[.val (.int size), .val (.int steps), .val (.int chs), .val (.int (2 : Int32)), .val (.int (2 : Int32)), .val (.ref rr_1), .val (.ref rr_3), .val (.ref rr_7), .val (.ref b129), .val (.ref b149), .val (.int (1 : Int32)), .unset] [(.ref b149)])) rfl (by rw [hml]; rfl) (Steps.refl _) (argsL := []) (rest := []) (lenOf pd___Ljava_lang_String_ rfl) rfl (by show 2 * 0 + _ ≤ _; exact Nat.le_of_eq rfl) (hb hby at_173) (fun _ _ => ⟨rfl, eq177, (by exact Nat.le_of_ble_eq_true rfl), (by exact Nat.le_of_ble_eq_true rfl)⟩)
      dsimp only [Pt.U, Pt.locs, Pt.cells, Pt.slots] at X190 l190 y190 z190 st190 hQ190
      subst l190 y190 z190
      obtain ⟨rfl, Nq190, Kq190, f191, f192⟩ := hQ190
      have N190 := Fr.app N177 Nq190
      refine Go.tr st190 ?_
      have f193 : Exa Z T190.heap rr_1 "java/lang/String" := f166.keep Kq190
      have f194 : Exa Z T190.heap rr_3 "java/lang/String" := f167.keep Kq190
      have f195 : Exa Z T190.heap rr_7 "java/lang/String" := f168.keep Kq190
      have f196 : Exa Z T190.heap b129 "[Ljava/lang/String;" := f169.keep Kq190
      have f197 : Arv Z T190.heap b129 k129 (.object "java/lang/String") (2 : Int32) [(.ref rr_1), (.ref rr_3)] .null := f170.keep Kq190 (ninS ne153 nin0)
      have f198 : Exa Z T190.heap b149 "com/example/reportwire/reportwire/Arguments" := f171.keep Kq190
      have f199 : Arv Z T190.heap na_162 kn_162 (.object "java/lang/String") (2 : Int32) [(.ref rr_1), (.ref rr_3)] .null := f165.keep Kq190 (ninS (Ne.symm ne176) nin0)
      have O190 : Old Z n0 T190.heap := O162.keep Kq190 (allS g_b149 all0)
      show Go p e below s _ _ _ (T190.setTop (mkF m 176 #[.val (.int size), .val (.int steps), .val (.int chs), .val (.int (2 : Int32)), .val (.int (2 : Int32)), .val (.ref rr_1), .val (.ref rr_3), .val (.ref rr_7), .val (.ref b129), .val (.ref b149), .val (.int (1 : Int32)), .unset] [(.ref rr_1)]))
      refine Go.st (fun _ k' => XS.astore X190.here hx rfl (hb hby at_176) rfl rfl (l' := #[.val (.int size), .val (.int steps), .val (.int chs), .val (.int (2 : Int32)), .val (.int (2 : Int32)), .val (.ref rr_1), .val (.ref rr_3), .val (.ref rr_7), .val (.ref b129), .val (.ref b149), .val (.int (1 : Int32)), .val (.ref rr_1)]) rfl k') ?_
      show Go p e below s _ _ _ (T190.setTop (mkF m 178 #[.val (.int size), .val (.int steps), .val (.int chs), .val (.int (2 : Int32)), .val (.int (2 : Int32)), .val (.ref rr_1), .val (.ref rr_3), .val (.ref rr_7), .val (.ref b129), .val (.ref b149), .val (.int (1 : Int32)), .val (.ref rr_1)] []))
      refine Go.st (fun _ k' => XS.aload X190.here hx rfl (hb hby at_178) rfl rfl k') ?_
      show Go p e below s _ _ _ (T190.setTop (mkF m 180 #[.val (.int size), .val (.int steps), .val (.int chs), .val (.int (2 : Int32)), .val (.int (2 : Int32)), .val (.ref rr_1), .val (.ref rr_3), .val (.ref rr_7), .val (.ref b129), .val (.ref b149), .val (.int (1 : Int32)), .val (.ref rr_1)] [(.ref rr_1)]))
      refine Go.st (fun _ k' => XS.aload X190.here hx rfl (hb hby at_180) rfl rfl k') ?_
      show Go p e below s _ _ _ (T190.setTop (mkF m 182 #[.val (.int size), .val (.int steps), .val (.int chs), .val (.int (2 : Int32)), .val (.int (2 : Int32)), .val (.ref rr_1), .val (.ref rr_3), .val (.ref rr_7), .val (.ref b129), .val (.ref b149), .val (.int (1 : Int32)), .val (.ref rr_1)] [(.ref rr_1), (.ref rr_1)]))
      obtain ⟨cq200, kq200, q200a, q200b, q200c⟩ := isOf hZ rfl f193
      obtain ⟨_, _, ⟨T200, L200, k200, n200⟩, -, X200, ⟨Lc200, hQ200, l200, y200, z200⟩, st200⟩ := X190.virtualBack hx (y := (⟨"java/lang/String", "equals", "(Ljava/lang/Object;)Z"⟩ : MethodName)) (z := (⟨"java/lang/String", "equals", "(Ljava/lang/Object;)Z"⟩ : MethodName)) hown (mvT hZ (wdx hw 104 rfl)) (mvT hZ (wdx hw 105 rfl)) (notFace_of_selects (args := #[]) (mvT hZ (wdx hw 107 rfl))) (mvT hZ (wdx hw 107 rfl)) (mvT hZ (wdx hw 106 rfl)) (by decide) (backOf (W := 0) (rm15 l Z a0 hw [] rr_1 T190.heap n0 O190 ) hZ (wdx hw 108 rfl) (wdx hw 2 rfl) (by decide) (by decide)) q200a q200c (g := (mkF m 182 #[.val (.int size), .val (.int steps), .val (.int chs), .val (.int (2 : Int32)), .val (.int (2 : Int32)), .val (.ref rr_1), .val (.ref rr_3), .val (.ref rr_7), .val (.ref b129), .val (.ref b149), .val (.int (1 : Int32)), .val (.ref rr_1)] [(.ref rr_1), (.ref rr_1)])) rfl (by rw [hml]; rfl) (Steps.refl _) (argsL := [(.ref rr_1)]) (rest := []) (lenOf pd__Ljava_lang_Object__Z rfl) rfl (by show 2 * 0 + _ ≤ _; exact Nat.le_of_eq rfl) (hb hby at_182) (fun _ _ => ⟨rfl, rfl, (by exact Nat.le_of_ble_eq_true rfl), (by exact Nat.le_of_ble_eq_true rfl)⟩)
      dsimp only [Pt.U, Pt.locs, Pt.cells, Pt.slots] at X200 l200 y200 z200 st200 hQ200
      subst l200 y200 z200
      obtain ⟨rfl, Nq200, eq200⟩ := hQ200
      have N200 := Fr.app N190 Nq200
      refine Go.tr st200 ?_
      show Go p e below s _ _ _ (T200.setTop (mkF m 185 #[.val (.int size), .val (.int steps), .val (.int chs), .val (.int (2 : Int32)), .val (.int (2 : Int32)), .val (.ref rr_1), .val (.ref rr_3), .val (.ref rr_7), .val (.ref b129), .val (.ref b149), .val (.int (1 : Int32)), .val (.ref rr_1)] [(.int (1 : Int32))]))
      refine Go.st (fun _ k' => XS.ifNo X200.here hx rfl (hb hby at_185) rfl (XT.i0_eq_f (by decide)) k') ?_
      show Go p e below s _ _ _ (T200.setTop (mkF m 188 #[.val (.int size), .val (.int steps), .val (.int chs), .val (.int (2 : Int32)), .val (.int (2 : Int32)), .val (.ref rr_1), .val (.ref rr_3), .val (.ref rr_7), .val (.ref b129), .val (.ref b149), .val (.int (1 : Int32)), .val (.ref rr_1)] []))
      refine Go.st (fun _ k' => XS.iload X200.here hx rfl (hb hby at_188) rfl k') ?_
      show Go p e below s _ _ _ (T200.setTop (mkF m 190 #[.val (.int size), .val (.int steps), .val (.int chs), .val (.int (2 : Int32)), .val (.int (2 : Int32)), .val (.ref rr_1), .val (.ref rr_3), .val (.ref rr_7), .val (.ref b129), .val (.ref b149), .val (.int (1 : Int32)), .val (.ref rr_1)] [(.int (1 : Int32))]))
      refine Go.st (fun _ k' => XS.ifNo X200.here hx rfl (hb hby at_190) rfl (XT.i0_eq_f (by decide)) k') ?_
      show Go p e below s _ _ _ (T200.setTop (mkF m 193 #[.val (.int size), .val (.int steps), .val (.int chs), .val (.int (2 : Int32)), .val (.int (2 : Int32)), .val (.ref rr_1), .val (.ref rr_3), .val (.ref rr_7), .val (.ref b129), .val (.ref b149), .val (.int (1 : Int32)), .val (.ref rr_1)] []))
      refine Go.st (fun _ k' => XS.iconst X200.here hx rfl (hb hby at_193) k') ?_
      show Go p e below s _ _ _ (T200.setTop (mkF m 194 #[.val (.int size), .val (.int steps), .val (.int chs), .val (.int (2 : Int32)), .val (.int (2 : Int32)), .val (.ref rr_1), .val (.ref rr_3), .val (.ref rr_7), .val (.ref b129), .val (.ref b149), .val (.int (1 : Int32)), .val (.ref rr_1)] [(.int (1 : Int32))]))
      refine Go.st (fun _ k' => XS.goto X200.here hx rfl (pc0 := 194) (pc' := 198) rfl (hb hby at_194) (by decide) (by decide) k') ?_
      show Go p e below s _ _ _ (T200.setTop (mkF m 198 #[.val (.int size), .val (.int steps), .val (.int chs), .val (.int (2 : Int32)), .val (.int (2 : Int32)), .val (.ref rr_1), .val (.ref rr_3), .val (.ref rr_7), .val (.ref b129), .val (.ref b149), .val (.int (1 : Int32)), .val (.ref rr_1)] [(.int (1 : Int32))]))
      refine Go.st (fun _ k' => XS.istore X200.here hx rfl (hb hby at_198) rfl (l' := #[.val (.int size), .val (.int steps), .val (.int chs), .val (.int (2 : Int32)), .val (.int (2 : Int32)), .val (.ref rr_1), .val (.ref rr_3), .val (.ref rr_7), .val (.ref b129), .val (.ref b149), .val (.int (1 : Int32)), .val (.ref rr_1)]) rfl k') ?_
      show Go p e below s _ _ _ (T200.setTop (mkF m 200 #[.val (.int size), .val (.int steps), .val (.int chs), .val (.int (2 : Int32)), .val (.int (2 : Int32)), .val (.ref rr_1), .val (.ref rr_3), .val (.ref rr_7), .val (.ref b129), .val (.ref b149), .val (.int (1 : Int32)), .val (.ref rr_1)] []))
      refine Go.st (fun _ k' => XS.aload X200.here hx rfl (hb hby at_200) rfl rfl k') ?_
      show Go p e below s _ _ _ (T200.setTop (mkF m 202 #[.val (.int size), .val (.int steps), .val (.int chs), .val (.int (2 : Int32)), .val (.int (2 : Int32)), .val (.ref rr_1), .val (.ref rr_3), .val (.ref rr_7), .val (.ref b129), .val (.ref b149), .val (.int (1 : Int32)), .val (.ref rr_1)] [(.ref b149)]))
      obtain ⟨cq201, kq201, q201a, q201b, q201c⟩ := isOf hZ eq200 f198
      obtain ⟨_, _, ⟨T201, L201, k201, n201⟩, -, X201, ⟨Lc201, hQ201, l201, y201, z201⟩, st201⟩ := X200.virtualBack hx (y := (⟨"com/example/reportwire/reportwire/Arguments", "hasNext", "()Z"⟩ : MethodName)) (z := (⟨"com/example/reportwire/reportwire/Arguments", "hasNext", "()Z"⟩ : MethodName)) hown (mvT hZ (wdx hw 86 rfl)) (mvT hZ (wdx hw 87 rfl)) (notFace_of_selects (args := #[]) (mvT hZ (wdx hw 89 rfl))) (mvT hZ (wdx hw 89 rfl)) (mvT hZ (wdx hw 88 rfl)) (by decide) (backOf (W := 0) (rm12_2_1 l Z a0 hw [] b149 na_162 kn_162 rr_1 rr_3 T190.heap n0 O190 f191 f192 f199) hZ (wdx hw 90 rfl) (wdx hw 30 rfl) (by decide) (by decide)) q201a q201c (g := (mkF m 202 #[.val (.int size), .val (.int steps), .val (.int chs), .val (.int (2 : Int32)), .val (.int (2 : Int32)), .val (.ref rr_1), .val (.ref rr_3), .val (.ref rr_7), .val (.ref b129), .val (.ref b149), .val (.int (1 : Int32)), .val (.ref rr_1)] [(.ref b149)])) rfl (by rw [hml]; rfl) (Steps.refl _) (argsL := []) (rest := []) (lenOf pd___Z rfl) rfl (by show 2 * 0 + _ ≤ _; exact Nat.le_of_eq rfl) (hb hby at_202) (fun _ _ => ⟨rfl, eq200, (by exact Nat.le_of_ble_eq_true rfl), (by exact Nat.le_of_ble_eq_true rfl)⟩)
      dsimp only [Pt.U, Pt.locs, Pt.cells, Pt.slots] at X201 l201 y201 z201 st201 hQ201
      subst l201 y201 z201
      obtain ⟨rfl, Nq201, eq201⟩ := hQ201
      have N201 := Fr.app N200 Nq201
      refine Go.tr st201 ?_
      show Go p e below s _ _ _ (T201.setTop (mkF m 205 #[.val (.int size), .val (.int steps), .val (.int chs), .val (.int (2 : Int32)), .val (.int (2 : Int32)), .val (.ref rr_1), .val (.ref rr_3), .val (.ref rr_7), .val (.ref b129), .val (.ref b149), .val (.int (1 : Int32)), .val (.ref rr_1)] [(.int (1 : Int32))]))
      refine Go.st (fun _ k' => XS.iloadN X201.here hx rfl (hb hby at_205) rfl k') ?_
      show Go p e below s _ _ _ (T201.setTop (mkF m 206 #[.val (.int size), .val (.int steps), .val (.int chs), .val (.int (2 : Int32)), .val (.int (2 : Int32)), .val (.ref rr_1), .val (.ref rr_3), .val (.ref rr_7), .val (.ref b129), .val (.ref b149), .val (.int (1 : Int32)), .val (.ref rr_1)] [(.int (2 : Int32)), (.int (1 : Int32))]))
      refine Go.st (fun _ k' => XS.iconst X201.here hx rfl (hb hby at_206) k') ?_
      show Go p e below s _ _ _ (T201.setTop (mkF m 207 #[.val (.int size), .val (.int steps), .val (.int chs), .val (.int (2 : Int32)), .val (.int (2 : Int32)), .val (.ref rr_1), .val (.ref rr_3), .val (.ref rr_7), .val (.ref b129), .val (.ref b149), .val (.int (1 : Int32)), .val (.ref rr_1)] [(.int (1 : Int32)), (.int (2 : Int32)), (.int (1 : Int32))]))
      refine Go.st (fun _ k' => XS.icmpNo X201.here hx rfl (hb hby at_207) rfl (XT.ii_le_f (by decide)) k') ?_
      show Go p e below s _ _ _ (T201.setTop (mkF m 210 #[.val (.int size), .val (.int steps), .val (.int chs), .val (.int (2 : Int32)), .val (.int (2 : Int32)), .val (.ref rr_1), .val (.ref rr_3), .val (.ref rr_7), .val (.ref b129), .val (.ref b149), .val (.int (1 : Int32)), .val (.ref rr_1)] [(.int (1 : Int32))]))
      refine Go.st (fun _ k' => XS.iconst X201.here hx rfl (hb hby at_210) k') ?_
      show Go p e below s _ _ _ (T201.setTop (mkF m 211 #[.val (.int size), .val (.int steps), .val (.int chs), .val (.int (2 : Int32)), .val (.int (2 : Int32)), .val (.ref rr_1), .val (.ref rr_3), .val (.ref rr_7), .val (.ref b129), .val (.ref b149), .val (.int (1 : Int32)), .val (.ref rr_1)] [(.int (1 : Int32)), (.int (1 : Int32))]))
      refine Go.st (fun _ k' => XS.goto X201.here hx rfl (pc0 := 211) (pc' := 215) rfl (hb hby at_211) (by decide) (by decide) k') ?_
      show Go p e below s _ _ _ (T201.setTop (mkF m 215 #[.val (.int size), .val (.int steps), .val (.int chs), .val (.int (2 : Int32)), .val (.int (2 : Int32)), .val (.ref rr_1), .val (.ref rr_3), .val (.ref rr_7), .val (.ref b129), .val (.ref b149), .val (.int (1 : Int32)), .val (.ref rr_1)] [(.int (1 : Int32)), (.int (1 : Int32))]))
      refine Go.st (fun _ k' => XS.icmpNo X201.here hx rfl (hb hby at_215) rfl (XT.ii_ne_f (by decide)) k') ?_
      show Go p e below s _ _ _ (T201.setTop (mkF m 218 #[.val (.int size), .val (.int steps), .val (.int chs), .val (.int (2 : Int32)), .val (.int (2 : Int32)), .val (.ref rr_1), .val (.ref rr_3), .val (.ref rr_7), .val (.ref b129), .val (.ref b149), .val (.int (1 : Int32)), .val (.ref rr_1)] []))
      refine Go.st (fun _ k' => XS.iload X201.here hx rfl (hb hby at_218) rfl k') ?_
      show Go p e below s _ _ _ (T201.setTop (mkF m 220 #[.val (.int size), .val (.int steps), .val (.int chs), .val (.int (2 : Int32)), .val (.int (2 : Int32)), .val (.ref rr_1), .val (.ref rr_3), .val (.ref rr_7), .val (.ref b129), .val (.ref b149), .val (.int (1 : Int32)), .val (.ref rr_1)] [(.int (1 : Int32))]))
      refine Go.st (fun _ k' => XS.ifNo X201.here hx rfl (hb hby at_220) rfl (XT.i0_eq_f (by decide)) k') ?_
      show Go p e below s _ _ _ (T201.setTop (mkF m 223 #[.val (.int size), .val (.int steps), .val (.int chs), .val (.int (2 : Int32)), .val (.int (2 : Int32)), .val (.ref rr_1), .val (.ref rr_3), .val (.ref rr_7), .val (.ref b129), .val (.ref b149), .val (.int (1 : Int32)), .val (.ref rr_1)] []))
      refine Go.st (fun _ k' => XS.iconst X201.here hx rfl (hb hby at_223) k') ?_
      show Go p e below s _ _ _ (T201.setTop (mkF m 224 #[.val (.int size), .val (.int steps), .val (.int chs), .val (.int (2 : Int32)), .val (.int (2 : Int32)), .val (.ref rr_1), .val (.ref rr_3), .val (.ref rr_7), .val (.ref b129), .val (.ref b149), .val (.int (1 : Int32)), .val (.ref rr_1)] [(.int (1 : Int32))]))
      refine Go.st (fun _ k' => XS.goto X201.here hx rfl (pc0 := 224) (pc' := 228) rfl (hb hby at_224) (by decide) (by decide) k') ?_
      show Go p e below s _ _ _ (T201.setTop (mkF m 228 #[.val (.int size), .val (.int steps), .val (.int chs), .val (.int (2 : Int32)), .val (.int (2 : Int32)), .val (.ref rr_1), .val (.ref rr_3), .val (.ref rr_7), .val (.ref b129), .val (.ref b149), .val (.int (1 : Int32)), .val (.ref rr_1)] [(.int (1 : Int32))]))
      refine Go.st (fun _ k' => XS.istore X201.here hx rfl (hb hby at_228) rfl (l' := #[.val (.int size), .val (.int steps), .val (.int chs), .val (.int (2 : Int32)), .val (.int (2 : Int32)), .val (.ref rr_1), .val (.ref rr_3), .val (.ref rr_7), .val (.ref b129), .val (.ref b149), .val (.int (1 : Int32)), .val (.ref rr_1)]) rfl k') ?_
      show Go p e below s _ _ _ (T201.setTop (mkF m 230 #[.val (.int size), .val (.int steps), .val (.int chs), .val (.int (2 : Int32)), .val (.int (2 : Int32)), .val (.ref rr_1), .val (.ref rr_3), .val (.ref rr_7), .val (.ref b129), .val (.ref b149), .val (.int (1 : Int32)), .val (.ref rr_1)] []))
      refine Go.st (fun _ k' => XS.iload X201.here hx rfl (hb hby at_230) rfl k') ?_
      show Go p e below s _ _ _ (T201.setTop (mkF m 232 #[.val (.int size), .val (.int steps), .val (.int chs), .val (.int (2 : Int32)), .val (.int (2 : Int32)), .val (.ref rr_1), .val (.ref rr_3), .val (.ref rr_7), .val (.ref b129), .val (.ref b149), .val (.int (1 : Int32)), .val (.ref rr_1)] [(.int (2 : Int32))]))
      refine Go.st (fun _ k' => XS.iconst X201.here hx rfl (hb hby at_232) k') ?_
      show Go p e below s _ _ _ (T201.setTop (mkF m 233 #[.val (.int size), .val (.int steps), .val (.int chs), .val (.int (2 : Int32)), .val (.int (2 : Int32)), .val (.ref rr_1), .val (.ref rr_3), .val (.ref rr_7), .val (.ref b129), .val (.ref b149), .val (.int (1 : Int32)), .val (.ref rr_1)] [(.int (2 : Int32)), (.int (2 : Int32))]))
      refine Go.st (fun _ k' => XS.icmpNo X201.here hx rfl (hb hby at_233) rfl (XT.ii_lt_f (by decide)) k') ?_
      show Go p e below s _ _ _ (T201.setTop (mkF m 236 #[.val (.int size), .val (.int steps), .val (.int chs), .val (.int (2 : Int32)), .val (.int (2 : Int32)), .val (.ref rr_1), .val (.ref rr_3), .val (.ref rr_7), .val (.ref b129), .val (.ref b149), .val (.int (1 : Int32)), .val (.ref rr_1)] []))
      refine Go.st (fun _ k' => XS.iloadN X201.here hx rfl (hb hby at_236) rfl k') ?_
      show Go p e below s _ _ _ (T201.setTop (mkF m 237 #[.val (.int size), .val (.int steps), .val (.int chs), .val (.int (2 : Int32)), .val (.int (2 : Int32)), .val (.ref rr_1), .val (.ref rr_3), .val (.ref rr_7), .val (.ref b129), .val (.ref b149), .val (.int (1 : Int32)), .val (.ref rr_1)] [(.int (2 : Int32))]))
      refine Go.st (fun _ k' => XS.iconst X201.here hx rfl (hb hby at_237) k') ?_
      show Go p e below s _ _ _ (T201.setTop (mkF m 238 #[.val (.int size), .val (.int steps), .val (.int chs), .val (.int (2 : Int32)), .val (.int (2 : Int32)), .val (.ref rr_1), .val (.ref rr_3), .val (.ref rr_7), .val (.ref b129), .val (.ref b149), .val (.int (1 : Int32)), .val (.ref rr_1)] [(.int (2 : Int32)), (.int (2 : Int32))]))
      refine Go.st (fun _ k' => XS.icmpNo X201.here hx rfl (hb hby at_238) rfl (XT.ii_lt_f (by decide)) k') ?_
      show Go p e below s _ _ _ (T201.setTop (mkF m 241 #[.val (.int size), .val (.int steps), .val (.int chs), .val (.int (2 : Int32)), .val (.int (2 : Int32)), .val (.ref rr_1), .val (.ref rr_3), .val (.ref rr_7), .val (.ref b129), .val (.ref b149), .val (.int (1 : Int32)), .val (.ref rr_1)] []))
      refine Go.st (fun _ k' => XS.aload X201.here hx rfl (hb hby at_241) rfl rfl k') ?_
      show Go p e below s _ _ _ (T201.setTop (mkF m 243 #[.val (.int size), .val (.int steps), .val (.int chs), .val (.int (2 : Int32)), .val (.int (2 : Int32)), .val (.ref rr_1), .val (.ref rr_3), .val (.ref rr_7), .val (.ref b129), .val (.ref b149), .val (.int (1 : Int32)), .val (.ref rr_1)] [(.ref b149)]))
      obtain ⟨cq202, kq202, q202a, q202b, q202c⟩ := isOf hZ eq201 f198
      obtain ⟨_, _, ⟨T202, L202, k202, n202⟩, -, X202, ⟨Lc202, hQ202, l202, y202, z202⟩, st202⟩ := X201.virtualBack hx (y := (⟨"com/example/reportwire/reportwire/Arguments", "next", "()Ljava/lang/String;"⟩ : MethodName)) (z := (⟨"com/example/reportwire/reportwire/Arguments", "next", "()Ljava/lang/String;"⟩ : MethodName)) hown (mvT hZ (wdx hw 93 rfl)) (mvT hZ (wdx hw 94 rfl)) (notFace_of_selects (args := #[]) (mvT hZ (wdx hw 96 rfl))) (mvT hZ (wdx hw 96 rfl)) (mvT hZ (wdx hw 95 rfl)) (by decide) (backOf (W := 0) (rm13_2_1 l Z a0 hw [] b149 na_162 kn_162 rr_1 rr_3 T190.heap n0 O190 f198 f191 f192 f199 g_b149 ne176) hZ (wdx hw 97 rfl) (wdx hw 30 rfl) (by decide) (by decide)) q202a q202c (g := (mkF m 243 #[.val (.int size), .val (.int steps), .val (.int chs), .val (.int (2 : Int32)), .val (.int (2 : Int32)), .val (.ref rr_1), .val (.ref rr_3), .val (.ref rr_7), .val (.ref b129), .val (.ref b149), .val (.int (1 : Int32)), .val (.ref rr_1)] [(.ref b149)])) rfl (by rw [hml]; rfl) (Steps.refl _) (argsL := []) (rest := []) (lenOf pd___Ljava_lang_String_ rfl) rfl (by show 2 * 0 + _ ≤ _; exact Nat.le_of_eq rfl) (hb hby at_243) (fun _ _ => ⟨rfl, eq201, (by exact Nat.le_of_ble_eq_true rfl), (by exact Nat.le_of_ble_eq_true rfl)⟩)
      dsimp only [Pt.U, Pt.locs, Pt.cells, Pt.slots] at X202 l202 y202 z202 st202 hQ202
      subst l202 y202 z202
      obtain ⟨rfl, Nq202, Kq202, f203, f204⟩ := hQ202
      have N202 := Fr.app N201 Nq202
      refine Go.tr st202 ?_
      have f205 : Exa Z T202.heap rr_1 "java/lang/String" := f193.keep Kq202
      have f206 : Exa Z T202.heap rr_3 "java/lang/String" := f194.keep Kq202
      have f207 : Exa Z T202.heap rr_7 "java/lang/String" := f195.keep Kq202
      have f208 : Exa Z T202.heap b129 "[Ljava/lang/String;" := f196.keep Kq202
      have f209 : Arv Z T202.heap b129 k129 (.object "java/lang/String") (2 : Int32) [(.ref rr_1), (.ref rr_3)] .null := f197.keep Kq202 (ninS ne153 nin0)
      have f210 : Exa Z T202.heap b149 "com/example/reportwire/reportwire/Arguments" := f198.keep Kq202
      have f211 : Arv Z T202.heap na_162 kn_162 (.object "java/lang/String") (2 : Int32) [(.ref rr_1), (.ref rr_3)] .null := f199.keep Kq202 (ninS (Ne.symm ne176) nin0)
      have O202 : Old Z n0 T202.heap := O190.keep Kq202 (allS g_b149 all0)
      show Go p e below s _ _ _ (T202.setTop (mkF m 246 #[.val (.int size), .val (.int steps), .val (.int chs), .val (.int (2 : Int32)), .val (.int (2 : Int32)), .val (.ref rr_1), .val (.ref rr_3), .val (.ref rr_7), .val (.ref b129), .val (.ref b149), .val (.int (1 : Int32)), .val (.ref rr_1)] [(.ref rr_3)]))
      refine Go.st (fun _ k' => XS.astore X202.here hx rfl (hb hby at_246) rfl rfl (l' := #[.val (.int size), .val (.int steps), .val (.int chs), .val (.int (2 : Int32)), .val (.int (2 : Int32)), .val (.ref rr_1), .val (.ref rr_3), .val (.ref rr_7), .val (.ref b129), .val (.ref b149), .val (.int (1 : Int32)), .val (.ref rr_3)]) rfl k') ?_
      show Go p e below s _ _ _ (T202.setTop (mkF m 248 #[.val (.int size), .val (.int steps), .val (.int chs), .val (.int (2 : Int32)), .val (.int (2 : Int32)), .val (.ref rr_1), .val (.ref rr_3), .val (.ref rr_7), .val (.ref b129), .val (.ref b149), .val (.int (1 : Int32)), .val (.ref rr_3)] []))
      refine Go.st (fun _ k' => XS.aload X202.here hx rfl (hb hby at_248) rfl rfl k') ?_
      show Go p e below s _ _ _ (T202.setTop (mkF m 250 #[.val (.int size), .val (.int steps), .val (.int chs), .val (.int (2 : Int32)), .val (.int (2 : Int32)), .val (.ref rr_1), .val (.ref rr_3), .val (.ref rr_7), .val (.ref b129), .val (.ref b149), .val (.int (1 : Int32)), .val (.ref rr_3)] [(.ref rr_3)]))
      refine Go.st (fun _ k' => XS.aload X202.here hx rfl (hb hby at_250) rfl rfl k') ?_
      show Go p e below s _ _ _ (T202.setTop (mkF m 252 #[.val (.int size), .val (.int steps), .val (.int chs), .val (.int (2 : Int32)), .val (.int (2 : Int32)), .val (.ref rr_1), .val (.ref rr_3), .val (.ref rr_7), .val (.ref b129), .val (.ref b149), .val (.int (1 : Int32)), .val (.ref rr_3)] [(.ref rr_3), (.ref rr_3)]))
      obtain ⟨cq212, kq212, q212a, q212b, q212c⟩ := isOf hZ rfl f206
      obtain ⟨_, _, ⟨T212, L212, k212, n212⟩, -, X212, ⟨Lc212, hQ212, l212, y212, z212⟩, st212⟩ := X202.virtualBack hx (y := (⟨"java/lang/String", "equals", "(Ljava/lang/Object;)Z"⟩ : MethodName)) (z := (⟨"java/lang/String", "equals", "(Ljava/lang/Object;)Z"⟩ : MethodName)) hown (mvT hZ (wdx hw 104 rfl)) (mvT hZ (wdx hw 105 rfl)) (notFace_of_selects (args := #[]) (mvT hZ (wdx hw 107 rfl))) (mvT hZ (wdx hw 107 rfl)) (mvT hZ (wdx hw 106 rfl)) (by decide) (backOf (W := 0) (rm15 l Z a0 hw [] rr_3 T202.heap n0 O202 ) hZ (wdx hw 108 rfl) (wdx hw 2 rfl) (by decide) (by decide)) q212a q212c (g := (mkF m 252 #[.val (.int size), .val (.int steps), .val (.int chs), .val (.int (2 : Int32)), .val (.int (2 : Int32)), .val (.ref rr_1), .val (.ref rr_3), .val (.ref rr_7), .val (.ref b129), .val (.ref b149), .val (.int (1 : Int32)), .val (.ref rr_3)] [(.ref rr_3), (.ref rr_3)])) rfl (by rw [hml]; rfl) (Steps.refl _) (argsL := [(.ref rr_3)]) (rest := []) (lenOf pd__Ljava_lang_Object__Z rfl) rfl (by show 2 * 0 + _ ≤ _; exact Nat.le_of_eq rfl) (hb hby at_252) (fun _ _ => ⟨rfl, rfl, (by exact Nat.le_of_ble_eq_true rfl), (by exact Nat.le_of_ble_eq_true rfl)⟩)
      dsimp only [Pt.U, Pt.locs, Pt.cells, Pt.slots] at X212 l212 y212 z212 st212 hQ212
      subst l212 y212 z212
      obtain ⟨rfl, Nq212, eq212⟩ := hQ212
      have N212 := Fr.app N202 Nq212
      refine Go.tr st212 ?_
      show Go p e below s _ _ _ (T212.setTop (mkF m 255 #[.val (.int size), .val (.int steps), .val (.int chs), .val (.int (2 : Int32)), .val (.int (2 : Int32)), .val (.ref rr_1), .val (.ref rr_3), .val (.ref rr_7), .val (.ref b129), .val (.ref b149), .val (.int (1 : Int32)), .val (.ref rr_3)] [(.int (1 : Int32))]))
      refine Go.st (fun _ k' => XS.ifNo X212.here hx rfl (hb hby at_255) rfl (XT.i0_eq_f (by decide)) k') ?_
      show Go p e below s _ _ _ (T212.setTop (mkF m 258 #[.val (.int size), .val (.int steps), .val (.int chs), .val (.int (2 : Int32)), .val (.int (2 : Int32)), .val (.ref rr_1), .val (.ref rr_3), .val (.ref rr_7), .val (.ref b129), .val (.ref b149), .val (.int (1 : Int32)), .val (.ref rr_3)] []))
      refine Go.st (fun _ k' => XS.iload X212.here hx rfl (hb hby at_258) rfl k') ?_
      show Go p e below s _ _ _ (T212.setTop (mkF m 260 #[.val (.int size), .val (.int steps), .val (.int chs), .val (.int (2 : Int32)), .val (.int (2 : Int32)), .val (.ref rr_1), .val (.ref rr_3), .val (.ref rr_7), .val (.ref b129), .val (.ref b149), .val (.int (1 : Int32)), .val (.ref rr_3)] [(.int (1 : Int32))]))
      refine Go.st (fun _ k' => XS.ifNo X212.here hx rfl (hb hby at_260) rfl (XT.i0_eq_f (by decide)) k') ?_
      show Go p e below s _ _ _ (T212.setTop (mkF m 263 #[.val (.int size), .val (.int steps), .val (.int chs), .val (.int (2 : Int32)), .val (.int (2 : Int32)), .val (.ref rr_1), .val (.ref rr_3), .val (.ref rr_7), .val (.ref b129), .val (.ref b149), .val (.int (1 : Int32)), .val (.ref rr_3)] []))
      refine Go.st (fun _ k' => XS.iconst X212.here hx rfl (hb hby at_263) k') ?_
      show Go p e below s _ _ _ (T212.setTop (mkF m 264 #[.val (.int size), .val (.int steps), .val (.int chs), .val (.int (2 : Int32)), .val (.int (2 : Int32)), .val (.ref rr_1), .val (.ref rr_3), .val (.ref rr_7), .val (.ref b129), .val (.ref b149), .val (.int (1 : Int32)), .val (.ref rr_3)] [(.int (1 : Int32))]))
      refine Go.st (fun _ k' => XS.goto X212.here hx rfl (pc0 := 264) (pc' := 268) rfl (hb hby at_264) (by decide) (by decide) k') ?_
      show Go p e below s _ _ _ (T212.setTop (mkF m 268 #[.val (.int size), .val (.int steps), .val (.int chs), .val (.int (2 : Int32)), .val (.int (2 : Int32)), .val (.ref rr_1), .val (.ref rr_3), .val (.ref rr_7), .val (.ref b129), .val (.ref b149), .val (.int (1 : Int32)), .val (.ref rr_3)] [(.int (1 : Int32))]))
      refine Go.st (fun _ k' => XS.istore X212.here hx rfl (hb hby at_268) rfl (l' := #[.val (.int size), .val (.int steps), .val (.int chs), .val (.int (2 : Int32)), .val (.int (2 : Int32)), .val (.ref rr_1), .val (.ref rr_3), .val (.ref rr_7), .val (.ref b129), .val (.ref b149), .val (.int (1 : Int32)), .val (.ref rr_3)]) rfl k') ?_
      show Go p e below s _ _ _ (T212.setTop (mkF m 270 #[.val (.int size), .val (.int steps), .val (.int chs), .val (.int (2 : Int32)), .val (.int (2 : Int32)), .val (.ref rr_1), .val (.ref rr_3), .val (.ref rr_7), .val (.ref b129), .val (.ref b149), .val (.int (1 : Int32)), .val (.ref rr_3)] []))
      refine Go.st (fun _ k' => XS.aload X212.here hx rfl (hb hby at_270) rfl rfl k') ?_
      show Go p e below s _ _ _ (T212.setTop (mkF m 272 #[.val (.int size), .val (.int steps), .val (.int chs), .val (.int (2 : Int32)), .val (.int (2 : Int32)), .val (.ref rr_1), .val (.ref rr_3), .val (.ref rr_7), .val (.ref b129), .val (.ref b149), .val (.int (1 : Int32)), .val (.ref rr_3)] [(.ref b149)]))
      obtain ⟨cq213, kq213, q213a, q213b, q213c⟩ := isOf hZ eq212 f210
      obtain ⟨_, _, ⟨T213, L213, k213, n213⟩, -, X213, ⟨Lc213, hQ213, l213, y213, z213⟩, st213⟩ := X212.virtualBack hx (y := (⟨"com/example/reportwire/reportwire/Arguments", "hasNext", "()Z"⟩ : MethodName)) (z := (⟨"com/example/reportwire/reportwire/Arguments", "hasNext", "()Z"⟩ : MethodName)) hown (mvT hZ (wdx hw 86 rfl)) (mvT hZ (wdx hw 87 rfl)) (notFace_of_selects (args := #[]) (mvT hZ (wdx hw 89 rfl))) (mvT hZ (wdx hw 89 rfl)) (mvT hZ (wdx hw 88 rfl)) (by decide) (backOf (W := 0) (rm12_2_2 l Z a0 hw [] b149 na_162 kn_162 rr_1 rr_3 T202.heap n0 O202 f203 f204 f211) hZ (wdx hw 90 rfl) (wdx hw 30 rfl) (by decide) (by decide)) q213a q213c (g := (mkF m 272 #[.val (.int size), .val (.int steps), .val (.int chs), .val (.int (2 : Int32)), .val (.int (2 : Int32)), .val (.ref rr_1), .val (.ref rr_3), .val (.ref rr_7), .val (.ref b129), .val (.ref b149), .val (.int (1 : Int32)), .val (.ref rr_3)] [(.ref b149)])) rfl (by rw [hml]; rfl) (Steps.refl _) (argsL := []) (rest := []) (lenOf pd___Z rfl) rfl (by show 2 * 0 + _ ≤ _; exact Nat.le_of_eq rfl) (hb hby at_272) (fun _ _ => ⟨rfl, eq212, (by exact Nat.le_of_ble_eq_true rfl), (by exact Nat.le_of_ble_eq_true rfl)⟩)
      dsimp only [Pt.U, Pt.locs, Pt.cells, Pt.slots] at X213 l213 y213 z213 st213 hQ213
      subst l213 y213 z213
      obtain ⟨rfl, Nq213, eq213⟩ := hQ213
      have N213 := Fr.app N212 Nq213
      refine Go.tr st213 ?_
      show Go p e below s _ _ _ (T213.setTop (mkF m 275 #[.val (.int size), .val (.int steps), .val (.int chs), .val (.int (2 : Int32)), .val (.int (2 : Int32)), .val (.ref rr_1), .val (.ref rr_3), .val (.ref rr_7), .val (.ref b129), .val (.ref b149), .val (.int (1 : Int32)), .val (.ref rr_3)] [(.int (0 : Int32))]))
      refine Go.st (fun _ k' => XS.iloadN X213.here hx rfl (hb hby at_275) rfl k') ?_
      show Go p e below s _ _ _ (T213.setTop (mkF m 276 #[.val (.int size), .val (.int steps), .val (.int chs), .val (.int (2 : Int32)), .val (.int (2 : Int32)), .val (.ref rr_1), .val (.ref rr_3), .val (.ref rr_7), .val (.ref b129), .val (.ref b149), .val (.int (1 : Int32)), .val (.ref rr_3)] [(.int (2 : Int32)), (.int (0 : Int32))]))
      refine Go.st (fun _ k' => XS.iconst X213.here hx rfl (hb hby at_276) k') ?_
      show Go p e below s _ _ _ (T213.setTop (mkF m 277 #[.val (.int size), .val (.int steps), .val (.int chs), .val (.int (2 : Int32)), .val (.int (2 : Int32)), .val (.ref rr_1), .val (.ref rr_3), .val (.ref rr_7), .val (.ref b129), .val (.ref b149), .val (.int (1 : Int32)), .val (.ref rr_3)] [(.int (2 : Int32)), (.int (2 : Int32)), (.int (0 : Int32))]))
      refine Go.st (fun _ k' => XS.icmpYes X213.here hx rfl (pc0 := 277) (pc' := 284) rfl (hb hby at_277) rfl (XT.ii_le_t (by decide)) (by decide) (by decide) k') ?_
      show Go p e below s _ _ _ (T213.setTop (mkF m 284 #[.val (.int size), .val (.int steps), .val (.int chs), .val (.int (2 : Int32)), .val (.int (2 : Int32)), .val (.ref rr_1), .val (.ref rr_3), .val (.ref rr_7), .val (.ref b129), .val (.ref b149), .val (.int (1 : Int32)), .val (.ref rr_3)] [(.int (0 : Int32))]))
      refine Go.st (fun _ k' => XS.iconst X213.here hx rfl (hb hby at_284) k') ?_
      show Go p e below s _ _ _ (T213.setTop (mkF m 285 #[.val (.int size), .val (.int steps), .val (.int chs), .val (.int (2 : Int32)), .val (.int (2 : Int32)), .val (.ref rr_1), .val (.ref rr_3), .val (.ref rr_7), .val (.ref b129), .val (.ref b149), .val (.int (1 : Int32)), .val (.ref rr_3)] [(.int (0 : Int32)), (.int (0 : Int32))]))
      refine Go.st (fun _ k' => XS.icmpNo X213.here hx rfl (hb hby at_285) rfl (XT.ii_ne_f (by decide)) k') ?_
      show Go p e below s _ _ _ (T213.setTop (mkF m 288 #[.val (.int size), .val (.int steps), .val (.int chs), .val (.int (2 : Int32)), .val (.int (2 : Int32)), .val (.ref rr_1), .val (.ref rr_3), .val (.ref rr_7), .val (.ref b129), .val (.ref b149), .val (.int (1 : Int32)), .val (.ref rr_3)] []))
      refine Go.st (fun _ k' => XS.iload X213.here hx rfl (hb hby at_288) rfl k') ?_
      show Go p e below s _ _ _ (T213.setTop (mkF m 290 #[.val (.int size), .val (.int steps), .val (.int chs), .val (.int (2 : Int32)), .val (.int (2 : Int32)), .val (.ref rr_1), .val (.ref rr_3), .val (.ref rr_7), .val (.ref b129), .val (.ref b149), .val (.int (1 : Int32)), .val (.ref rr_3)] [(.int (1 : Int32))]))
      refine Go.st (fun _ k' => XS.ifNo X213.here hx rfl (hb hby at_290) rfl (XT.i0_eq_f (by decide)) k') ?_
      show Go p e below s _ _ _ (T213.setTop (mkF m 293 #[.val (.int size), .val (.int steps), .val (.int chs), .val (.int (2 : Int32)), .val (.int (2 : Int32)), .val (.ref rr_1), .val (.ref rr_3), .val (.ref rr_7), .val (.ref b129), .val (.ref b149), .val (.int (1 : Int32)), .val (.ref rr_3)] []))
      refine Go.st (fun _ k' => XS.iconst X213.here hx rfl (hb hby at_293) k') ?_
      show Go p e below s _ _ _ (T213.setTop (mkF m 294 #[.val (.int size), .val (.int steps), .val (.int chs), .val (.int (2 : Int32)), .val (.int (2 : Int32)), .val (.ref rr_1), .val (.ref rr_3), .val (.ref rr_7), .val (.ref b129), .val (.ref b149), .val (.int (1 : Int32)), .val (.ref rr_3)] [(.int (1 : Int32))]))
      refine Go.st (fun _ k' => XS.goto X213.here hx rfl (pc0 := 294) (pc' := 298) rfl (hb hby at_294) (by decide) (by decide) k') ?_
      show Go p e below s _ _ _ (T213.setTop (mkF m 298 #[.val (.int size), .val (.int steps), .val (.int chs), .val (.int (2 : Int32)), .val (.int (2 : Int32)), .val (.ref rr_1), .val (.ref rr_3), .val (.ref rr_7), .val (.ref b129), .val (.ref b149), .val (.int (1 : Int32)), .val (.ref rr_3)] [(.int (1 : Int32))]))
      refine Go.st (fun _ k' => XS.istore X213.here hx rfl (hb hby at_298) rfl (l' := #[.val (.int size), .val (.int steps), .val (.int chs), .val (.int (2 : Int32)), .val (.int (2 : Int32)), .val (.ref rr_1), .val (.ref rr_3), .val (.ref rr_7), .val (.ref b129), .val (.ref b149), .val (.int (1 : Int32)), .val (.ref rr_3)]) rfl k') ?_
      show Go p e below s _ _ _ (T213.setTop (mkF m 300 #[.val (.int size), .val (.int steps), .val (.int chs), .val (.int (2 : Int32)), .val (.int (2 : Int32)), .val (.ref rr_1), .val (.ref rr_3), .val (.ref rr_7), .val (.ref b129), .val (.ref b149), .val (.int (1 : Int32)), .val (.ref rr_3)] []))
      refine Go.st (fun _ k' => XS.iload X213.here hx rfl (hb hby at_300) rfl k') ?_
      show Go p e below s _ _ _ (T213.setTop (mkF m 302 #[.val (.int size), .val (.int steps), .val (.int chs), .val (.int (2 : Int32)), .val (.int (2 : Int32)), .val (.ref rr_1), .val (.ref rr_3), .val (.ref rr_7), .val (.ref b129), .val (.ref b149), .val (.int (1 : Int32)), .val (.ref rr_3)] [(.int (2 : Int32))]))
      refine Go.st (fun _ k' => XS.iconst X213.here hx rfl (hb hby at_302) k') ?_
      show Go p e below s _ _ _ (T213.setTop (mkF m 303 #[.val (.int size), .val (.int steps), .val (.int chs), .val (.int (2 : Int32)), .val (.int (2 : Int32)), .val (.ref rr_1), .val (.ref rr_3), .val (.ref rr_7), .val (.ref b129), .val (.ref b149), .val (.int (1 : Int32)), .val (.ref rr_3)] [(.int (3 : Int32)), (.int (2 : Int32))]))
      refine Go.st (fun _ k' => XS.icmpYes X213.here hx rfl (pc0 := 303) (pc' := 360) rfl (hb hby at_303) rfl (XT.ii_lt_t (by decide)) (by decide) (by decide) k') ?_
      show Go p e below s _ _ _ (T213.setTop (mkF m 360 #[.val (.int size), .val (.int steps), .val (.int chs), .val (.int (2 : Int32)), .val (.int (2 : Int32)), .val (.ref rr_1), .val (.ref rr_3), .val (.ref rr_7), .val (.ref b129), .val (.ref b149), .val (.int (1 : Int32)), .val (.ref rr_3)] []))
      refine Go.st (fun _ k' => XS.iload X213.here hx rfl (hb hby at_360) rfl k') ?_
      show Go p e below s _ _ _ (T213.setTop (mkF m 362 #[.val (.int size), .val (.int steps), .val (.int chs), .val (.int (2 : Int32)), .val (.int (2 : Int32)), .val (.ref rr_1), .val (.ref rr_3), .val (.ref rr_7), .val (.ref b129), .val (.ref b149), .val (.int (1 : Int32)), .val (.ref rr_3)] [(.int (1 : Int32))]))
      refine Go.retB X213 hx hlk (t := .boolean) Bd.returns (by simp) (hb hby at_362) (by decide) (by decide) eq213 ?_
      exact ⟨rfl, N213, trivial⟩
    · rw [hi160]
      show Go p e below s _ _ _ (T177.setTop (mkF m 160 #[.val (.int size), .val (.int steps), .val (.int chs), .val (.int (2 : Int32)), .val (.int (3 : Int32)), .val (.ref rr_1), .val (.ref rr_3), .val (.ref rr_7), .val (.ref b129), .val (.ref b149), .val (.int (1 : Int32)), .unset] []))
      refine Go.st (fun _ k' => XS.iload X177.here hx rfl (hb hby at_160) rfl k') ?_
      show Go p e below s _ _ _ (T177.setTop (mkF m 162 #[.val (.int size), .val (.int steps), .val (.int chs), .val (.int (2 : Int32)), .val (.int (3 : Int32)), .val (.ref rr_1), .val (.ref rr_3), .val (.ref rr_7), .val (.ref b129), .val (.ref b149), .val (.int (1 : Int32)), .unset] [(.int (3 : Int32))]))
      refine Go.st (fun _ k' => XS.iconst X177.here hx rfl (hb hby at_162) k') ?_
      show Go p e below s _ _ _ (T177.setTop (mkF m 163 #[.val (.int size), .val (.int steps), .val (.int chs), .val (.int (2 : Int32)), .val (.int (3 : Int32)), .val (.ref rr_1), .val (.ref rr_3), .val (.ref rr_7), .val (.ref b129), .val (.ref b149), .val (.int (1 : Int32)), .unset] [(.int (1 : Int32)), (.int (3 : Int32))]))
      refine Go.st (fun _ k' => XS.icmpNo X177.here hx rfl (hb hby at_163) rfl (XT.ii_lt_f (by decide)) k') ?_
      show Go p e below s _ _ _ (T177.setTop (mkF m 166 #[.val (.int size), .val (.int steps), .val (.int chs), .val (.int (2 : Int32)), .val (.int (3 : Int32)), .val (.ref rr_1), .val (.ref rr_3), .val (.ref rr_7), .val (.ref b129), .val (.ref b149), .val (.int (1 : Int32)), .unset] []))
      refine Go.st (fun _ k' => XS.iloadN X177.here hx rfl (hb hby at_166) rfl k') ?_
      show Go p e below s _ _ _ (T177.setTop (mkF m 167 #[.val (.int size), .val (.int steps), .val (.int chs), .val (.int (2 : Int32)), .val (.int (3 : Int32)), .val (.ref rr_1), .val (.ref rr_3), .val (.ref rr_7), .val (.ref b129), .val (.ref b149), .val (.int (1 : Int32)), .unset] [(.int (2 : Int32))]))
      refine Go.st (fun _ k' => XS.iconst X177.here hx rfl (hb hby at_167) k') ?_
      show Go p e below s _ _ _ (T177.setTop (mkF m 168 #[.val (.int size), .val (.int steps), .val (.int chs), .val (.int (2 : Int32)), .val (.int (3 : Int32)), .val (.ref rr_1), .val (.ref rr_3), .val (.ref rr_7), .val (.ref b129), .val (.ref b149), .val (.int (1 : Int32)), .unset] [(.int (1 : Int32)), (.int (2 : Int32))]))
      refine Go.st (fun _ k' => XS.icmpNo X177.here hx rfl (hb hby at_168) rfl (XT.ii_lt_f (by decide)) k') ?_
      show Go p e below s _ _ _ (T177.setTop (mkF m 171 #[.val (.int size), .val (.int steps), .val (.int chs), .val (.int (2 : Int32)), .val (.int (3 : Int32)), .val (.ref rr_1), .val (.ref rr_3), .val (.ref rr_7), .val (.ref b129), .val (.ref b149), .val (.int (1 : Int32)), .unset] []))
      refine Go.st (fun _ k' => XS.aload X177.here hx rfl (hb hby at_171) rfl rfl k') ?_
      show Go p e below s _ _ _ (T177.setTop (mkF m 173 #[.val (.int size), .val (.int steps), .val (.int chs), .val (.int (2 : Int32)), .val (.int (3 : Int32)), .val (.ref rr_1), .val (.ref rr_3), .val (.ref rr_7), .val (.ref b129), .val (.ref b149), .val (.int (1 : Int32)), .unset] [(.ref b149)]))
      obtain ⟨cq214, kq214, q214a, q214b, q214c⟩ := isOf hZ eq177 f171
      obtain ⟨_, _, ⟨T214, L214, k214, n214⟩, -, X214, ⟨Lc214, hQ214, l214, y214, z214⟩, st214⟩ := X177.virtualBack hx (y := (⟨"com/example/reportwire/reportwire/Arguments", "next", "()Ljava/lang/String;"⟩ : MethodName)) (z := (⟨"com/example/reportwire/reportwire/Arguments", "next", "()Ljava/lang/String;"⟩ : MethodName)) hown (mvT hZ (wdx hw 93 rfl)) (mvT hZ (wdx hw 94 rfl)) (notFace_of_selects (args := #[]) (mvT hZ (wdx hw 96 rfl))) (mvT hZ (wdx hw 96 rfl)) (mvT hZ (wdx hw 95 rfl)) (by decide) (backOf (W := 0) (rm13_2_0 l Z a0 hw [] b149 na_162 kn_162 rr_1 rr_3 T162.heap n0 O162 f171 f163 f164 f165 g_b149 ne176) hZ (wdx hw 97 rfl) (wdx hw 30 rfl) (by decide) (by decide)) q214a q214c (g := (mkF m 173 #[.val (.int size), .val (.int steps), .val (.int chs), .val (.int (2 : Int32)), .val (.int (3 : Int32)), .val (.ref rr_1), .val (.ref rr_3), .val (.ref rr_7), .val (.ref b129), .val (.ref b149), .val (.int (1 : Int32)), .unset] [(.ref b149)])) rfl (by rw [hml]; rfl) (Steps.refl _) (argsL := []) (rest := []) (lenOf pd___Ljava_lang_String_ rfl) rfl (by show 2 * 0 + _ ≤ _; exact Nat.le_of_eq rfl) (hb hby at_173) (fun _ _ => ⟨rfl, eq177, (by exact Nat.le_of_ble_eq_true rfl), (by exact Nat.le_of_ble_eq_true rfl)⟩)
      dsimp only [Pt.U, Pt.locs, Pt.cells, Pt.slots] at X214 l214 y214 z214 st214 hQ214
      subst l214 y214 z214
      obtain ⟨rfl, Nq214, Kq214, f215, f216⟩ := hQ214
      have N214 := Fr.app N177 Nq214
      refine Go.tr st214 ?_
      have f217 : Exa Z T214.heap rr_1 "java/lang/String" := f166.keep Kq214
      have f218 : Exa Z T214.heap rr_3 "java/lang/String" := f167.keep Kq214
      have f219 : Exa Z T214.heap rr_7 "java/lang/String" := f168.keep Kq214
      have f220 : Exa Z T214.heap b129 "[Ljava/lang/String;" := f169.keep Kq214
      have f221 : Arv Z T214.heap b129 k129 (.object "java/lang/String") (2 : Int32) [(.ref rr_1), (.ref rr_3)] .null := f170.keep Kq214 (ninS ne153 nin0)
      have f222 : Exa Z T214.heap b149 "com/example/reportwire/reportwire/Arguments" := f171.keep Kq214
      have f223 : Arv Z T214.heap na_162 kn_162 (.object "java/lang/String") (2 : Int32) [(.ref rr_1), (.ref rr_3)] .null := f165.keep Kq214 (ninS (Ne.symm ne176) nin0)
      have O214 : Old Z n0 T214.heap := O162.keep Kq214 (allS g_b149 all0)
      show Go p e below s _ _ _ (T214.setTop (mkF m 176 #[.val (.int size), .val (.int steps), .val (.int chs), .val (.int (2 : Int32)), .val (.int (3 : Int32)), .val (.ref rr_1), .val (.ref rr_3), .val (.ref rr_7), .val (.ref b129), .val (.ref b149), .val (.int (1 : Int32)), .unset] [(.ref rr_1)]))
      refine Go.st (fun _ k' => XS.astore X214.here hx rfl (hb hby at_176) rfl rfl (l' := #[.val (.int size), .val (.int steps), .val (.int chs), .val (.int (2 : Int32)), .val (.int (3 : Int32)), .val (.ref rr_1), .val (.ref rr_3), .val (.ref rr_7), .val (.ref b129), .val (.ref b149), .val (.int (1 : Int32)), .val (.ref rr_1)]) rfl k') ?_
      show Go p e below s _ _ _ (T214.setTop (mkF m 178 #[.val (.int size), .val (.int steps), .val (.int chs), .val (.int (2 : Int32)), .val (.int (3 : Int32)), .val (.ref rr_1), .val (.ref rr_3), .val (.ref rr_7), .val (.ref b129), .val (.ref b149), .val (.int (1 : Int32)), .val (.ref rr_1)] []))
      refine Go.st (fun _ k' => XS.aload X214.here hx rfl (hb hby at_178) rfl rfl k') ?_
      show Go p e below s _ _ _ (T214.setTop (mkF m 180 #[.val (.int size), .val (.int steps), .val (.int chs), .val (.int (2 : Int32)), .val (.int (3 : Int32)), .val (.ref rr_1), .val (.ref rr_3), .val (.ref rr_7), .val (.ref b129), .val (.ref b149), .val (.int (1 : Int32)), .val (.ref rr_1)] [(.ref rr_1)]))
      refine Go.st (fun _ k' => XS.aload X214.here hx rfl (hb hby at_180) rfl rfl k') ?_
      show Go p e below s _ _ _ (T214.setTop (mkF m 182 #[.val (.int size), .val (.int steps), .val (.int chs), .val (.int (2 : Int32)), .val (.int (3 : Int32)), .val (.ref rr_1), .val (.ref rr_3), .val (.ref rr_7), .val (.ref b129), .val (.ref b149), .val (.int (1 : Int32)), .val (.ref rr_1)] [(.ref rr_1), (.ref rr_1)]))
      obtain ⟨cq224, kq224, q224a, q224b, q224c⟩ := isOf hZ rfl f217
      obtain ⟨_, _, ⟨T224, L224, k224, n224⟩, -, X224, ⟨Lc224, hQ224, l224, y224, z224⟩, st224⟩ := X214.virtualBack hx (y := (⟨"java/lang/String", "equals", "(Ljava/lang/Object;)Z"⟩ : MethodName)) (z := (⟨"java/lang/String", "equals", "(Ljava/lang/Object;)Z"⟩ : MethodName)) hown (mvT hZ (wdx hw 104 rfl)) (mvT hZ (wdx hw 105 rfl)) (notFace_of_selects (args := #[]) (mvT hZ (wdx hw 107 rfl))) (mvT hZ (wdx hw 107 rfl)) (mvT hZ (wdx hw 106 rfl)) (by decide) (backOf (W := 0) (rm15 l Z a0 hw [] rr_1 T214.heap n0 O214 ) hZ (wdx hw 108 rfl) (wdx hw 2 rfl) (by decide) (by decide)) q224a q224c (g := (mkF m 182 #[.val (.int size), .val (.int steps), .val (.int chs), .val (.int (2 : Int32)), .val (.int (3 : Int32)), .val (.ref rr_1), .val (.ref rr_3), .val (.ref rr_7), .val (.ref b129), .val (.ref b149), .val (.int (1 : Int32)), .val (.ref rr_1)] [(.ref rr_1), (.ref rr_1)])) rfl (by rw [hml]; rfl) (Steps.refl _) (argsL := [(.ref rr_1)]) (rest := []) (lenOf pd__Ljava_lang_Object__Z rfl) rfl (by show 2 * 0 + _ ≤ _; exact Nat.le_of_eq rfl) (hb hby at_182) (fun _ _ => ⟨rfl, rfl, (by exact Nat.le_of_ble_eq_true rfl), (by exact Nat.le_of_ble_eq_true rfl)⟩)
      dsimp only [Pt.U, Pt.locs, Pt.cells, Pt.slots] at X224 l224 y224 z224 st224 hQ224
      subst l224 y224 z224
      obtain ⟨rfl, Nq224, eq224⟩ := hQ224
      have N224 := Fr.app N214 Nq224
      refine Go.tr st224 ?_
      show Go p e below s _ _ _ (T224.setTop (mkF m 185 #[.val (.int size), .val (.int steps), .val (.int chs), .val (.int (2 : Int32)), .val (.int (3 : Int32)), .val (.ref rr_1), .val (.ref rr_3), .val (.ref rr_7), .val (.ref b129), .val (.ref b149), .val (.int (1 : Int32)), .val (.ref rr_1)] [(.int (1 : Int32))]))
      refine Go.st (fun _ k' => XS.ifNo X224.here hx rfl (hb hby at_185) rfl (XT.i0_eq_f (by decide)) k') ?_
      show Go p e below s _ _ _ (T224.setTop (mkF m 188 #[.val (.int size), .val (.int steps), .val (.int chs), .val (.int (2 : Int32)), .val (.int (3 : Int32)), .val (.ref rr_1), .val (.ref rr_3), .val (.ref rr_7), .val (.ref b129), .val (.ref b149), .val (.int (1 : Int32)), .val (.ref rr_1)] []))
      refine Go.st (fun _ k' => XS.iload X224.here hx rfl (hb hby at_188) rfl k') ?_
      show Go p e below s _ _ _ (T224.setTop (mkF m 190 #[.val (.int size), .val (.int steps), .val (.int chs), .val (.int (2 : Int32)), .val (.int (3 : Int32)), .val (.ref rr_1), .val (.ref rr_3), .val (.ref rr_7), .val (.ref b129), .val (.ref b149), .val (.int (1 : Int32)), .val (.ref rr_1)] [(.int (1 : Int32))]))
      refine Go.st (fun _ k' => XS.ifNo X224.here hx rfl (hb hby at_190) rfl (XT.i0_eq_f (by decide)) k') ?_
      show Go p e below s _ _ _ (T224.setTop (mkF m 193 #[.val (.int size), .val (.int steps), .val (.int chs), .val (.int (2 : Int32)), .val (.int (3 : Int32)), .val (.ref rr_1), .val (.ref rr_3), .val (.ref rr_7), .val (.ref b129), .val (.ref b149), .val (.int (1 : Int32)), .val (.ref rr_1)] []))
      refine Go.st (fun _ k' => XS.iconst X224.here hx rfl (hb hby at_193) k') ?_
      show Go p e below s _ _ _ (T224.setTop (mkF m 194 #[.val (.int size), .val (.int steps), .val (.int chs), .val (.int (2 : Int32)), .val (.int (3 : Int32)), .val (.ref rr_1), .val (.ref rr_3), .val (.ref rr_7), .val (.ref b129), .val (.ref b149), .val (.int (1 : Int32)), .val (.ref rr_1)] [(.int (1 : Int32))]))
      refine Go.st (fun _ k' => XS.goto X224.here hx rfl (pc0 := 194) (pc' := 198) rfl (hb hby at_194) (by decide) (by decide) k') ?_
      show Go p e below s _ _ _ (T224.setTop (mkF m 198 #[.val (.int size), .val (.int steps), .val (.int chs), .val (.int (2 : Int32)), .val (.int (3 : Int32)), .val (.ref rr_1), .val (.ref rr_3), .val (.ref rr_7), .val (.ref b129), .val (.ref b149), .val (.int (1 : Int32)), .val (.ref rr_1)] [(.int (1 : Int32))]))
      refine Go.st (fun _ k' => XS.istore X224.here hx rfl (hb hby at_198) rfl (l' := #[.val (.int size), .val (.int steps), .val (.int chs), .val (.int (2 : Int32)), .val (.int (3 : Int32)), .val (.ref rr_1), .val (.ref rr_3), .val (.ref rr_7), .val (.ref b129), .val (.ref b149), .val (.int (1 : Int32)), .val (.ref rr_1)]) rfl k') ?_
      show Go p e below s _ _ _ (T224.setTop (mkF m 200 #[.val (.int size), .val (.int steps), .val (.int chs), .val (.int (2 : Int32)), .val (.int (3 : Int32)), .val (.ref rr_1), .val (.ref rr_3), .val (.ref rr_7), .val (.ref b129), .val (.ref b149), .val (.int (1 : Int32)), .val (.ref rr_1)] []))
      refine Go.st (fun _ k' => XS.aload X224.here hx rfl (hb hby at_200) rfl rfl k') ?_
      show Go p e below s _ _ _ (T224.setTop (mkF m 202 #[.val (.int size), .val (.int steps), .val (.int chs), .val (.int (2 : Int32)), .val (.int (3 : Int32)), .val (.ref rr_1), .val (.ref rr_3), .val (.ref rr_7), .val (.ref b129), .val (.ref b149), .val (.int (1 : Int32)), .val (.ref rr_1)] [(.ref b149)]))
      obtain ⟨cq225, kq225, q225a, q225b, q225c⟩ := isOf hZ eq224 f222
      obtain ⟨_, _, ⟨T225, L225, k225, n225⟩, -, X225, ⟨Lc225, hQ225, l225, y225, z225⟩, st225⟩ := X224.virtualBack hx (y := (⟨"com/example/reportwire/reportwire/Arguments", "hasNext", "()Z"⟩ : MethodName)) (z := (⟨"com/example/reportwire/reportwire/Arguments", "hasNext", "()Z"⟩ : MethodName)) hown (mvT hZ (wdx hw 86 rfl)) (mvT hZ (wdx hw 87 rfl)) (notFace_of_selects (args := #[]) (mvT hZ (wdx hw 89 rfl))) (mvT hZ (wdx hw 89 rfl)) (mvT hZ (wdx hw 88 rfl)) (by decide) (backOf (W := 0) (rm12_2_1 l Z a0 hw [] b149 na_162 kn_162 rr_1 rr_3 T214.heap n0 O214 f215 f216 f223) hZ (wdx hw 90 rfl) (wdx hw 30 rfl) (by decide) (by decide)) q225a q225c (g := (mkF m 202 #[.val (.int size), .val (.int steps), .val (.int chs), .val (.int (2 : Int32)), .val (.int (3 : Int32)), .val (.ref rr_1), .val (.ref rr_3), .val (.ref rr_7), .val (.ref b129), .val (.ref b149), .val (.int (1 : Int32)), .val (.ref rr_1)] [(.ref b149)])) rfl (by rw [hml]; rfl) (Steps.refl _) (argsL := []) (rest := []) (lenOf pd___Z rfl) rfl (by show 2 * 0 + _ ≤ _; exact Nat.le_of_eq rfl) (hb hby at_202) (fun _ _ => ⟨rfl, eq224, (by exact Nat.le_of_ble_eq_true rfl), (by exact Nat.le_of_ble_eq_true rfl)⟩)
      dsimp only [Pt.U, Pt.locs, Pt.cells, Pt.slots] at X225 l225 y225 z225 st225 hQ225
      subst l225 y225 z225
      obtain ⟨rfl, Nq225, eq225⟩ := hQ225
      have N225 := Fr.app N224 Nq225
      refine Go.tr st225 ?_
      show Go p e below s _ _ _ (T225.setTop (mkF m 205 #[.val (.int size), .val (.int steps), .val (.int chs), .val (.int (2 : Int32)), .val (.int (3 : Int32)), .val (.ref rr_1), .val (.ref rr_3), .val (.ref rr_7), .val (.ref b129), .val (.ref b149), .val (.int (1 : Int32)), .val (.ref rr_1)] [(.int (1 : Int32))]))
      refine Go.st (fun _ k' => XS.iloadN X225.here hx rfl (hb hby at_205) rfl k') ?_
      show Go p e below s _ _ _ (T225.setTop (mkF m 206 #[.val (.int size), .val (.int steps), .val (.int chs), .val (.int (2 : Int32)), .val (.int (3 : Int32)), .val (.ref rr_1), .val (.ref rr_3), .val (.ref rr_7), .val (.ref b129), .val (.ref b149), .val (.int (1 : Int32)), .val (.ref rr_1)] [(.int (2 : Int32)), (.int (1 : Int32))]))
      refine Go.st (fun _ k' => XS.iconst X225.here hx rfl (hb hby at_206) k') ?_
      show Go p e below s _ _ _ (T225.setTop (mkF m 207 #[.val (.int size), .val (.int steps), .val (.int chs), .val (.int (2 : Int32)), .val (.int (3 : Int32)), .val (.ref rr_1), .val (.ref rr_3), .val (.ref rr_7), .val (.ref b129), .val (.ref b149), .val (.int (1 : Int32)), .val (.ref rr_1)] [(.int (1 : Int32)), (.int (2 : Int32)), (.int (1 : Int32))]))
      refine Go.st (fun _ k' => XS.icmpNo X225.here hx rfl (hb hby at_207) rfl (XT.ii_le_f (by decide)) k') ?_
      show Go p e below s _ _ _ (T225.setTop (mkF m 210 #[.val (.int size), .val (.int steps), .val (.int chs), .val (.int (2 : Int32)), .val (.int (3 : Int32)), .val (.ref rr_1), .val (.ref rr_3), .val (.ref rr_7), .val (.ref b129), .val (.ref b149), .val (.int (1 : Int32)), .val (.ref rr_1)] [(.int (1 : Int32))]))
      refine Go.st (fun _ k' => XS.iconst X225.here hx rfl (hb hby at_210) k') ?_
      show Go p e below s _ _ _ (T225.setTop (mkF m 211 #[.val (.int size), .val (.int steps), .val (.int chs), .val (.int (2 : Int32)), .val (.int (3 : Int32)), .val (.ref rr_1), .val (.ref rr_3), .val (.ref rr_7), .val (.ref b129), .val (.ref b149), .val (.int (1 : Int32)), .val (.ref rr_1)] [(.int (1 : Int32)), (.int (1 : Int32))]))
      refine Go.st (fun _ k' => XS.goto X225.here hx rfl (pc0 := 211) (pc' := 215) rfl (hb hby at_211) (by decide) (by decide) k') ?_
      show Go p e below s _ _ _ (T225.setTop (mkF m 215 #[.val (.int size), .val (.int steps), .val (.int chs), .val (.int (2 : Int32)), .val (.int (3 : Int32)), .val (.ref rr_1), .val (.ref rr_3), .val (.ref rr_7), .val (.ref b129), .val (.ref b149), .val (.int (1 : Int32)), .val (.ref rr_1)] [(.int (1 : Int32)), (.int (1 : Int32))]))
      refine Go.st (fun _ k' => XS.icmpNo X225.here hx rfl (hb hby at_215) rfl (XT.ii_ne_f (by decide)) k') ?_
      show Go p e below s _ _ _ (T225.setTop (mkF m 218 #[.val (.int size), .val (.int steps), .val (.int chs), .val (.int (2 : Int32)), .val (.int (3 : Int32)), .val (.ref rr_1), .val (.ref rr_3), .val (.ref rr_7), .val (.ref b129), .val (.ref b149), .val (.int (1 : Int32)), .val (.ref rr_1)] []))
      refine Go.st (fun _ k' => XS.iload X225.here hx rfl (hb hby at_218) rfl k') ?_
      show Go p e below s _ _ _ (T225.setTop (mkF m 220 #[.val (.int size), .val (.int steps), .val (.int chs), .val (.int (2 : Int32)), .val (.int (3 : Int32)), .val (.ref rr_1), .val (.ref rr_3), .val (.ref rr_7), .val (.ref b129), .val (.ref b149), .val (.int (1 : Int32)), .val (.ref rr_1)] [(.int (1 : Int32))]))
      refine Go.st (fun _ k' => XS.ifNo X225.here hx rfl (hb hby at_220) rfl (XT.i0_eq_f (by decide)) k') ?_
      show Go p e below s _ _ _ (T225.setTop (mkF m 223 #[.val (.int size), .val (.int steps), .val (.int chs), .val (.int (2 : Int32)), .val (.int (3 : Int32)), .val (.ref rr_1), .val (.ref rr_3), .val (.ref rr_7), .val (.ref b129), .val (.ref b149), .val (.int (1 : Int32)), .val (.ref rr_1)] []))
      refine Go.st (fun _ k' => XS.iconst X225.here hx rfl (hb hby at_223) k') ?_
      show Go p e below s _ _ _ (T225.setTop (mkF m 224 #[.val (.int size), .val (.int steps), .val (.int chs), .val (.int (2 : Int32)), .val (.int (3 : Int32)), .val (.ref rr_1), .val (.ref rr_3), .val (.ref rr_7), .val (.ref b129), .val (.ref b149), .val (.int (1 : Int32)), .val (.ref rr_1)] [(.int (1 : Int32))]))
      refine Go.st (fun _ k' => XS.goto X225.here hx rfl (pc0 := 224) (pc' := 228) rfl (hb hby at_224) (by decide) (by decide) k') ?_
      show Go p e below s _ _ _ (T225.setTop (mkF m 228 #[.val (.int size), .val (.int steps), .val (.int chs), .val (.int (2 : Int32)), .val (.int (3 : Int32)), .val (.ref rr_1), .val (.ref rr_3), .val (.ref rr_7), .val (.ref b129), .val (.ref b149), .val (.int (1 : Int32)), .val (.ref rr_1)] [(.int (1 : Int32))]))
      refine Go.st (fun _ k' => XS.istore X225.here hx rfl (hb hby at_228) rfl (l' := #[.val (.int size), .val (.int steps), .val (.int chs), .val (.int (2 : Int32)), .val (.int (3 : Int32)), .val (.ref rr_1), .val (.ref rr_3), .val (.ref rr_7), .val (.ref b129), .val (.ref b149), .val (.int (1 : Int32)), .val (.ref rr_1)]) rfl k') ?_
      show Go p e below s _ _ _ (T225.setTop (mkF m 230 #[.val (.int size), .val (.int steps), .val (.int chs), .val (.int (2 : Int32)), .val (.int (3 : Int32)), .val (.ref rr_1), .val (.ref rr_3), .val (.ref rr_7), .val (.ref b129), .val (.ref b149), .val (.int (1 : Int32)), .val (.ref rr_1)] []))
      refine Go.st (fun _ k' => XS.iload X225.here hx rfl (hb hby at_230) rfl k') ?_
      show Go p e below s _ _ _ (T225.setTop (mkF m 232 #[.val (.int size), .val (.int steps), .val (.int chs), .val (.int (2 : Int32)), .val (.int (3 : Int32)), .val (.ref rr_1), .val (.ref rr_3), .val (.ref rr_7), .val (.ref b129), .val (.ref b149), .val (.int (1 : Int32)), .val (.ref rr_1)] [(.int (3 : Int32))]))
      refine Go.st (fun _ k' => XS.iconst X225.here hx rfl (hb hby at_232) k') ?_
      show Go p e below s _ _ _ (T225.setTop (mkF m 233 #[.val (.int size), .val (.int steps), .val (.int chs), .val (.int (2 : Int32)), .val (.int (3 : Int32)), .val (.ref rr_1), .val (.ref rr_3), .val (.ref rr_7), .val (.ref b129), .val (.ref b149), .val (.int (1 : Int32)), .val (.ref rr_1)] [(.int (2 : Int32)), (.int (3 : Int32))]))
      refine Go.st (fun _ k' => XS.icmpNo X225.here hx rfl (hb hby at_233) rfl (XT.ii_lt_f (by decide)) k') ?_
      show Go p e below s _ _ _ (T225.setTop (mkF m 236 #[.val (.int size), .val (.int steps), .val (.int chs), .val (.int (2 : Int32)), .val (.int (3 : Int32)), .val (.ref rr_1), .val (.ref rr_3), .val (.ref rr_7), .val (.ref b129), .val (.ref b149), .val (.int (1 : Int32)), .val (.ref rr_1)] []))
      refine Go.st (fun _ k' => XS.iloadN X225.here hx rfl (hb hby at_236) rfl k') ?_
      show Go p e below s _ _ _ (T225.setTop (mkF m 237 #[.val (.int size), .val (.int steps), .val (.int chs), .val (.int (2 : Int32)), .val (.int (3 : Int32)), .val (.ref rr_1), .val (.ref rr_3), .val (.ref rr_7), .val (.ref b129), .val (.ref b149), .val (.int (1 : Int32)), .val (.ref rr_1)] [(.int (2 : Int32))]))
      refine Go.st (fun _ k' => XS.iconst X225.here hx rfl (hb hby at_237) k') ?_
      show Go p e below s _ _ _ (T225.setTop (mkF m 238 #[.val (.int size), .val (.int steps), .val (.int chs), .val (.int (2 : Int32)), .val (.int (3 : Int32)), .val (.ref rr_1), .val (.ref rr_3), .val (.ref rr_7), .val (.ref b129), .val (.ref b149), .val (.int (1 : Int32)), .val (.ref rr_1)] [(.int (2 : Int32)), (.int (2 : Int32))]))
      refine Go.st (fun _ k' => XS.icmpNo X225.here hx rfl (hb hby at_238) rfl (XT.ii_lt_f (by decide)) k') ?_
      show Go p e below s _ _ _ (T225.setTop (mkF m 241 #[.val (.int size), .val (.int steps), .val (.int chs), .val (.int (2 : Int32)), .val (.int (3 : Int32)), .val (.ref rr_1), .val (.ref rr_3), .val (.ref rr_7), .val (.ref b129), .val (.ref b149), .val (.int (1 : Int32)), .val (.ref rr_1)] []))
      refine Go.st (fun _ k' => XS.aload X225.here hx rfl (hb hby at_241) rfl rfl k') ?_
      show Go p e below s _ _ _ (T225.setTop (mkF m 243 #[.val (.int size), .val (.int steps), .val (.int chs), .val (.int (2 : Int32)), .val (.int (3 : Int32)), .val (.ref rr_1), .val (.ref rr_3), .val (.ref rr_7), .val (.ref b129), .val (.ref b149), .val (.int (1 : Int32)), .val (.ref rr_1)] [(.ref b149)]))
      obtain ⟨cq226, kq226, q226a, q226b, q226c⟩ := isOf hZ eq225 f222
      obtain ⟨_, _, ⟨T226, L226, k226, n226⟩, -, X226, ⟨Lc226, hQ226, l226, y226, z226⟩, st226⟩ := X225.virtualBack hx (y := (⟨"com/example/reportwire/reportwire/Arguments", "next", "()Ljava/lang/String;"⟩ : MethodName)) (z := (⟨"com/example/reportwire/reportwire/Arguments", "next", "()Ljava/lang/String;"⟩ : MethodName)) hown (mvT hZ (wdx hw 93 rfl)) (mvT hZ (wdx hw 94 rfl)) (notFace_of_selects (args := #[]) (mvT hZ (wdx hw 96 rfl))) (mvT hZ (wdx hw 96 rfl)) (mvT hZ (wdx hw 95 rfl)) (by decide) (backOf (W := 0) (rm13_2_1 l Z a0 hw [] b149 na_162 kn_162 rr_1 rr_3 T214.heap n0 O214 f222 f215 f216 f223 g_b149 ne176) hZ (wdx hw 97 rfl) (wdx hw 30 rfl) (by decide) (by decide)) q226a q226c (g := (mkF m 243 #[.val (.int size), .val (.int steps), .val (.int chs), .val (.int (2 : Int32)), .val (.int (3 : Int32)), .val (.ref rr_1), .val (.ref rr_3), .val (.ref rr_7), .val (.ref b129), .val (.ref b149), .val (.int (1 : Int32)), .val (.ref rr_1)] [(.ref b149)])) rfl (by rw [hml]; rfl) (Steps.refl _) (argsL := []) (rest := []) (lenOf pd___Ljava_lang_String_ rfl) rfl (by show 2 * 0 + _ ≤ _; exact Nat.le_of_eq rfl) (hb hby at_243) (fun _ _ => ⟨rfl, eq225, (by exact Nat.le_of_ble_eq_true rfl), (by exact Nat.le_of_ble_eq_true rfl)⟩)
      dsimp only [Pt.U, Pt.locs, Pt.cells, Pt.slots] at X226 l226 y226 z226 st226 hQ226
      subst l226 y226 z226
      obtain ⟨rfl, Nq226, Kq226, f227, f228⟩ := hQ226
      have N226 := Fr.app N225 Nq226
      refine Go.tr st226 ?_
      have f229 : Exa Z T226.heap rr_1 "java/lang/String" := f217.keep Kq226
      have f230 : Exa Z T226.heap rr_3 "java/lang/String" := f218.keep Kq226
      have f231 : Exa Z T226.heap rr_7 "java/lang/String" := f219.keep Kq226
      have f232 : Exa Z T226.heap b129 "[Ljava/lang/String;" := f220.keep Kq226
      have f233 : Arv Z T226.heap b129 k129 (.object "java/lang/String") (2 : Int32) [(.ref rr_1), (.ref rr_3)] .null := f221.keep Kq226 (ninS ne153 nin0)
      have f234 : Exa Z T226.heap b149 "com/example/reportwire/reportwire/Arguments" := f222.keep Kq226
      have f235 : Arv Z T226.heap na_162 kn_162 (.object "java/lang/String") (2 : Int32) [(.ref rr_1), (.ref rr_3)] .null := f223.keep Kq226 (ninS (Ne.symm ne176) nin0)
      have O226 : Old Z n0 T226.heap := O214.keep Kq226 (allS g_b149 all0)
      show Go p e below s _ _ _ (T226.setTop (mkF m 246 #[.val (.int size), .val (.int steps), .val (.int chs), .val (.int (2 : Int32)), .val (.int (3 : Int32)), .val (.ref rr_1), .val (.ref rr_3), .val (.ref rr_7), .val (.ref b129), .val (.ref b149), .val (.int (1 : Int32)), .val (.ref rr_1)] [(.ref rr_3)]))
      refine Go.st (fun _ k' => XS.astore X226.here hx rfl (hb hby at_246) rfl rfl (l' := #[.val (.int size), .val (.int steps), .val (.int chs), .val (.int (2 : Int32)), .val (.int (3 : Int32)), .val (.ref rr_1), .val (.ref rr_3), .val (.ref rr_7), .val (.ref b129), .val (.ref b149), .val (.int (1 : Int32)), .val (.ref rr_3)]) rfl k') ?_
      show Go p e below s _ _ _ (T226.setTop (mkF m 248 #[.val (.int size), .val (.int steps), .val (.int chs), .val (.int (2 : Int32)), .val (.int (3 : Int32)), .val (.ref rr_1), .val (.ref rr_3), .val (.ref rr_7), .val (.ref b129), .val (.ref b149), .val (.int (1 : Int32)), .val (.ref rr_3)] []))
      refine Go.st (fun _ k' => XS.aload X226.here hx rfl (hb hby at_248) rfl rfl k') ?_
      show Go p e below s _ _ _ (T226.setTop (mkF m 250 #[.val (.int size), .val (.int steps), .val (.int chs), .val (.int (2 : Int32)), .val (.int (3 : Int32)), .val (.ref rr_1), .val (.ref rr_3), .val (.ref rr_7), .val (.ref b129), .val (.ref b149), .val (.int (1 : Int32)), .val (.ref rr_3)] [(.ref rr_3)]))
      refine Go.st (fun _ k' => XS.aload X226.here hx rfl (hb hby at_250) rfl rfl k') ?_
      show Go p e below s _ _ _ (T226.setTop (mkF m 252 #[.val (.int size), .val (.int steps), .val (.int chs), .val (.int (2 : Int32)), .val (.int (3 : Int32)), .val (.ref rr_1), .val (.ref rr_3), .val (.ref rr_7), .val (.ref b129), .val (.ref b149), .val (.int (1 : Int32)), .val (.ref rr_3)] [(.ref rr_3), (.ref rr_3)]))
      obtain ⟨cq236, kq236, q236a, q236b, q236c⟩ := isOf hZ rfl f230
      obtain ⟨_, _, ⟨T236, L236, k236, n236⟩, -, X236, ⟨Lc236, hQ236, l236, y236, z236⟩, st236⟩ := X226.virtualBack hx (y := (⟨"java/lang/String", "equals", "(Ljava/lang/Object;)Z"⟩ : MethodName)) (z := (⟨"java/lang/String", "equals", "(Ljava/lang/Object;)Z"⟩ : MethodName)) hown (mvT hZ (wdx hw 104 rfl)) (mvT hZ (wdx hw 105 rfl)) (notFace_of_selects (args := #[]) (mvT hZ (wdx hw 107 rfl))) (mvT hZ (wdx hw 107 rfl)) (mvT hZ (wdx hw 106 rfl)) (by decide) (backOf (W := 0) (rm15 l Z a0 hw [] rr_3 T226.heap n0 O226 ) hZ (wdx hw 108 rfl) (wdx hw 2 rfl) (by decide) (by decide)) q236a q236c (g := (mkF m 252 #[.val (.int size), .val (.int steps), .val (.int chs), .val (.int (2 : Int32)), .val (.int (3 : Int32)), .val (.ref rr_1), .val (.ref rr_3), .val (.ref rr_7), .val (.ref b129), .val (.ref b149), .val (.int (1 : Int32)), .val (.ref rr_3)] [(.ref rr_3), (.ref rr_3)])) rfl (by rw [hml]; rfl) (Steps.refl _) (argsL := [(.ref rr_3)]) (rest := []) (lenOf pd__Ljava_lang_Object__Z rfl) rfl (by show 2 * 0 + _ ≤ _; exact Nat.le_of_eq rfl) (hb hby at_252) (fun _ _ => ⟨rfl, rfl, (by exact Nat.le_of_ble_eq_true rfl), (by exact Nat.le_of_ble_eq_true rfl)⟩)
      dsimp only [Pt.U, Pt.locs, Pt.cells, Pt.slots] at X236 l236 y236 z236 st236 hQ236
      subst l236 y236 z236
      obtain ⟨rfl, Nq236, eq236⟩ := hQ236
      have N236 := Fr.app N226 Nq236
      refine Go.tr st236 ?_
      show Go p e below s _ _ _ (T236.setTop (mkF m 255 #[.val (.int size), .val (.int steps), .val (.int chs), .val (.int (2 : Int32)), .val (.int (3 : Int32)), .val (.ref rr_1), .val (.ref rr_3), .val (.ref rr_7), .val (.ref b129), .val (.ref b149), .val (.int (1 : Int32)), .val (.ref rr_3)] [(.int (1 : Int32))]))
      refine Go.st (fun _ k' => XS.ifNo X236.here hx rfl (hb hby at_255) rfl (XT.i0_eq_f (by decide)) k') ?_
      show Go p e below s _ _ _ (T236.setTop (mkF m 258 #[.val (.int size), .val (.int steps), .val (.int chs), .val (.int (2 : Int32)), .val (.int (3 : Int32)), .val (.ref rr_1), .val (.ref rr_3), .val (.ref rr_7), .val (.ref b129), .val (.ref b149), .val (.int (1 : Int32)), .val (.ref rr_3)] []))
      refine Go.st (fun _ k' => XS.iload X236.here hx rfl (hb hby at_258) rfl k') ?_
      show Go p e below s _ _ _ (T236.setTop (mkF m 260 #[.val (.int size), .val (.int steps), .val (.int chs), .val (.int (2 : Int32)), .val (.int (3 : Int32)), .val (.ref rr_1), .val (.ref rr_3), .val (.ref rr_7), .val (.ref b129), .val (.ref b149), .val (.int (1 : Int32)), .val (.ref rr_3)] [(.int (1 : Int32))]))
      refine Go.st (fun _ k' => XS.ifNo X236.here hx rfl (hb hby at_260) rfl (XT.i0_eq_f (by decide)) k') ?_
      show Go p e below s _ _ _ (T236.setTop (mkF m 263 #[.val (.int size), .val (.int steps), .val (.int chs), .val (.int (2 : Int32)), .val (.int (3 : Int32)), .val (.ref rr_1), .val (.ref rr_3), .val (.ref rr_7), .val (.ref b129), .val (.ref b149), .val (.int (1 : Int32)), .val (.ref rr_3)] []))
      refine Go.st (fun _ k' => XS.iconst X236.here hx rfl (hb hby at_263) k') ?_
      show Go p e below s _ _ _ (T236.setTop (mkF m 264 #[.val (.int size), .val (.int steps), .val (.int chs), .val (.int (2 : Int32)), .val (.int (3 : Int32)), .val (.ref rr_1), .val (.ref rr_3), .val (.ref rr_7), .val (.ref b129), .val (.ref b149), .val (.int (1 : Int32)), .val (.ref rr_3)] [(.int (1 : Int32))]))
      refine Go.st (fun _ k' => XS.goto X236.here hx rfl (pc0 := 264) (pc' := 268) rfl (hb hby at_264) (by decide) (by decide) k') ?_
      show Go p e below s _ _ _ (T236.setTop (mkF m 268 #[.val (.int size), .val (.int steps), .val (.int chs), .val (.int (2 : Int32)), .val (.int (3 : Int32)), .val (.ref rr_1), .val (.ref rr_3), .val (.ref rr_7), .val (.ref b129), .val (.ref b149), .val (.int (1 : Int32)), .val (.ref rr_3)] [(.int (1 : Int32))]))
      refine Go.st (fun _ k' => XS.istore X236.here hx rfl (hb hby at_268) rfl (l' := #[.val (.int size), .val (.int steps), .val (.int chs), .val (.int (2 : Int32)), .val (.int (3 : Int32)), .val (.ref rr_1), .val (.ref rr_3), .val (.ref rr_7), .val (.ref b129), .val (.ref b149), .val (.int (1 : Int32)), .val (.ref rr_3)]) rfl k') ?_
      show Go p e below s _ _ _ (T236.setTop (mkF m 270 #[.val (.int size), .val (.int steps), .val (.int chs), .val (.int (2 : Int32)), .val (.int (3 : Int32)), .val (.ref rr_1), .val (.ref rr_3), .val (.ref rr_7), .val (.ref b129), .val (.ref b149), .val (.int (1 : Int32)), .val (.ref rr_3)] []))
      refine Go.st (fun _ k' => XS.aload X236.here hx rfl (hb hby at_270) rfl rfl k') ?_
      show Go p e below s _ _ _ (T236.setTop (mkF m 272 #[.val (.int size), .val (.int steps), .val (.int chs), .val (.int (2 : Int32)), .val (.int (3 : Int32)), .val (.ref rr_1), .val (.ref rr_3), .val (.ref rr_7), .val (.ref b129), .val (.ref b149), .val (.int (1 : Int32)), .val (.ref rr_3)] [(.ref b149)]))
      obtain ⟨cq237, kq237, q237a, q237b, q237c⟩ := isOf hZ eq236 f234
      obtain ⟨_, _, ⟨T237, L237, k237, n237⟩, -, X237, ⟨Lc237, hQ237, l237, y237, z237⟩, st237⟩ := X236.virtualBack hx (y := (⟨"com/example/reportwire/reportwire/Arguments", "hasNext", "()Z"⟩ : MethodName)) (z := (⟨"com/example/reportwire/reportwire/Arguments", "hasNext", "()Z"⟩ : MethodName)) hown (mvT hZ (wdx hw 86 rfl)) (mvT hZ (wdx hw 87 rfl)) (notFace_of_selects (args := #[]) (mvT hZ (wdx hw 89 rfl))) (mvT hZ (wdx hw 89 rfl)) (mvT hZ (wdx hw 88 rfl)) (by decide) (backOf (W := 0) (rm12_2_2 l Z a0 hw [] b149 na_162 kn_162 rr_1 rr_3 T226.heap n0 O226 f227 f228 f235) hZ (wdx hw 90 rfl) (wdx hw 30 rfl) (by decide) (by decide)) q237a q237c (g := (mkF m 272 #[.val (.int size), .val (.int steps), .val (.int chs), .val (.int (2 : Int32)), .val (.int (3 : Int32)), .val (.ref rr_1), .val (.ref rr_3), .val (.ref rr_7), .val (.ref b129), .val (.ref b149), .val (.int (1 : Int32)), .val (.ref rr_3)] [(.ref b149)])) rfl (by rw [hml]; rfl) (Steps.refl _) (argsL := []) (rest := []) (lenOf pd___Z rfl) rfl (by show 2 * 0 + _ ≤ _; exact Nat.le_of_eq rfl) (hb hby at_272) (fun _ _ => ⟨rfl, eq236, (by exact Nat.le_of_ble_eq_true rfl), (by exact Nat.le_of_ble_eq_true rfl)⟩)
      dsimp only [Pt.U, Pt.locs, Pt.cells, Pt.slots] at X237 l237 y237 z237 st237 hQ237
      subst l237 y237 z237
      obtain ⟨rfl, Nq237, eq237⟩ := hQ237
      have N237 := Fr.app N236 Nq237
      refine Go.tr st237 ?_
      show Go p e below s _ _ _ (T237.setTop (mkF m 275 #[.val (.int size), .val (.int steps), .val (.int chs), .val (.int (2 : Int32)), .val (.int (3 : Int32)), .val (.ref rr_1), .val (.ref rr_3), .val (.ref rr_7), .val (.ref b129), .val (.ref b149), .val (.int (1 : Int32)), .val (.ref rr_3)] [(.int (0 : Int32))]))
      refine Go.st (fun _ k' => XS.iloadN X237.here hx rfl (hb hby at_275) rfl k') ?_
      show Go p e below s _ _ _ (T237.setTop (mkF m 276 #[.val (.int size), .val (.int steps), .val (.int chs), .val (.int (2 : Int32)), .val (.int (3 : Int32)), .val (.ref rr_1), .val (.ref rr_3), .val (.ref rr_7), .val (.ref b129), .val (.ref b149), .val (.int (1 : Int32)), .val (.ref rr_3)] [(.int (2 : Int32)), (.int (0 : Int32))]))
      refine Go.st (fun _ k' => XS.iconst X237.here hx rfl (hb hby at_276) k') ?_
      show Go p e below s _ _ _ (T237.setTop (mkF m 277 #[.val (.int size), .val (.int steps), .val (.int chs), .val (.int (2 : Int32)), .val (.int (3 : Int32)), .val (.ref rr_1), .val (.ref rr_3), .val (.ref rr_7), .val (.ref b129), .val (.ref b149), .val (.int (1 : Int32)), .val (.ref rr_3)] [(.int (2 : Int32)), (.int (2 : Int32)), (.int (0 : Int32))]))
      refine Go.st (fun _ k' => XS.icmpYes X237.here hx rfl (pc0 := 277) (pc' := 284) rfl (hb hby at_277) rfl (XT.ii_le_t (by decide)) (by decide) (by decide) k') ?_
      show Go p e below s _ _ _ (T237.setTop (mkF m 284 #[.val (.int size), .val (.int steps), .val (.int chs), .val (.int (2 : Int32)), .val (.int (3 : Int32)), .val (.ref rr_1), .val (.ref rr_3), .val (.ref rr_7), .val (.ref b129), .val (.ref b149), .val (.int (1 : Int32)), .val (.ref rr_3)] [(.int (0 : Int32))]))
      refine Go.st (fun _ k' => XS.iconst X237.here hx rfl (hb hby at_284) k') ?_
      show Go p e below s _ _ _ (T237.setTop (mkF m 285 #[.val (.int size), .val (.int steps), .val (.int chs), .val (.int (2 : Int32)), .val (.int (3 : Int32)), .val (.ref rr_1), .val (.ref rr_3), .val (.ref rr_7), .val (.ref b129), .val (.ref b149), .val (.int (1 : Int32)), .val (.ref rr_3)] [(.int (0 : Int32)), (.int (0 : Int32))]))
      refine Go.st (fun _ k' => XS.icmpNo X237.here hx rfl (hb hby at_285) rfl (XT.ii_ne_f (by decide)) k') ?_
      show Go p e below s _ _ _ (T237.setTop (mkF m 288 #[.val (.int size), .val (.int steps), .val (.int chs), .val (.int (2 : Int32)), .val (.int (3 : Int32)), .val (.ref rr_1), .val (.ref rr_3), .val (.ref rr_7), .val (.ref b129), .val (.ref b149), .val (.int (1 : Int32)), .val (.ref rr_3)] []))
      refine Go.st (fun _ k' => XS.iload X237.here hx rfl (hb hby at_288) rfl k') ?_
      show Go p e below s _ _ _ (T237.setTop (mkF m 290 #[.val (.int size), .val (.int steps), .val (.int chs), .val (.int (2 : Int32)), .val (.int (3 : Int32)), .val (.ref rr_1), .val (.ref rr_3), .val (.ref rr_7), .val (.ref b129), .val (.ref b149), .val (.int (1 : Int32)), .val (.ref rr_3)] [(.int (1 : Int32))]))
      refine Go.st (fun _ k' => XS.ifNo X237.here hx rfl (hb hby at_290) rfl (XT.i0_eq_f (by decide)) k') ?_
      show Go p e below s _ _ _ (T237.setTop (mkF m 293 #[.val (.int size), .val (.int steps), .val (.int chs), .val (.int (2 : Int32)), .val (.int (3 : Int32)), .val (.ref rr_1), .val (.ref rr_3), .val (.ref rr_7), .val (.ref b129), .val (.ref b149), .val (.int (1 : Int32)), .val (.ref rr_3)] []))
      refine Go.st (fun _ k' => XS.iconst X237.here hx rfl (hb hby at_293) k') ?_
      show Go p e below s _ _ _ (T237.setTop (mkF m 294 #[.val (.int size), .val (.int steps), .val (.int chs), .val (.int (2 : Int32)), .val (.int (3 : Int32)), .val (.ref rr_1), .val (.ref rr_3), .val (.ref rr_7), .val (.ref b129), .val (.ref b149), .val (.int (1 : Int32)), .val (.ref rr_3)] [(.int (1 : Int32))]))
      refine Go.st (fun _ k' => XS.goto X237.here hx rfl (pc0 := 294) (pc' := 298) rfl (hb hby at_294) (by decide) (by decide) k') ?_
      show Go p e below s _ _ _ (T237.setTop (mkF m 298 #[.val (.int size), .val (.int steps), .val (.int chs), .val (.int (2 : Int32)), .val (.int (3 : Int32)), .val (.ref rr_1), .val (.ref rr_3), .val (.ref rr_7), .val (.ref b129), .val (.ref b149), .val (.int (1 : Int32)), .val (.ref rr_3)] [(.int (1 : Int32))]))
      refine Go.st (fun _ k' => XS.istore X237.here hx rfl (hb hby at_298) rfl (l' := #[.val (.int size), .val (.int steps), .val (.int chs), .val (.int (2 : Int32)), .val (.int (3 : Int32)), .val (.ref rr_1), .val (.ref rr_3), .val (.ref rr_7), .val (.ref b129), .val (.ref b149), .val (.int (1 : Int32)), .val (.ref rr_3)]) rfl k') ?_
      show Go p e below s _ _ _ (T237.setTop (mkF m 300 #[.val (.int size), .val (.int steps), .val (.int chs), .val (.int (2 : Int32)), .val (.int (3 : Int32)), .val (.ref rr_1), .val (.ref rr_3), .val (.ref rr_7), .val (.ref b129), .val (.ref b149), .val (.int (1 : Int32)), .val (.ref rr_3)] []))
      refine Go.st (fun _ k' => XS.iload X237.here hx rfl (hb hby at_300) rfl k') ?_
      show Go p e below s _ _ _ (T237.setTop (mkF m 302 #[.val (.int size), .val (.int steps), .val (.int chs), .val (.int (2 : Int32)), .val (.int (3 : Int32)), .val (.ref rr_1), .val (.ref rr_3), .val (.ref rr_7), .val (.ref b129), .val (.ref b149), .val (.int (1 : Int32)), .val (.ref rr_3)] [(.int (3 : Int32))]))
      refine Go.st (fun _ k' => XS.iconst X237.here hx rfl (hb hby at_302) k') ?_
      show Go p e below s _ _ _ (T237.setTop (mkF m 303 #[.val (.int size), .val (.int steps), .val (.int chs), .val (.int (2 : Int32)), .val (.int (3 : Int32)), .val (.ref rr_1), .val (.ref rr_3), .val (.ref rr_7), .val (.ref b129), .val (.ref b149), .val (.int (1 : Int32)), .val (.ref rr_3)] [(.int (3 : Int32)), (.int (3 : Int32))]))
      refine Go.st (fun _ k' => XS.icmpNo X237.here hx rfl (hb hby at_303) rfl (XT.ii_lt_f (by decide)) k') ?_
      show Go p e below s _ _ _ (T237.setTop (mkF m 306 #[.val (.int size), .val (.int steps), .val (.int chs), .val (.int (2 : Int32)), .val (.int (3 : Int32)), .val (.ref rr_1), .val (.ref rr_3), .val (.ref rr_7), .val (.ref b129), .val (.ref b149), .val (.int (1 : Int32)), .val (.ref rr_3)] []))
      refine Go.st (fun _ k' => XS.iloadN X237.here hx rfl (hb hby at_306) rfl k') ?_
      show Go p e below s _ _ _ (T237.setTop (mkF m 307 #[.val (.int size), .val (.int steps), .val (.int chs), .val (.int (2 : Int32)), .val (.int (3 : Int32)), .val (.ref rr_1), .val (.ref rr_3), .val (.ref rr_7), .val (.ref b129), .val (.ref b149), .val (.int (1 : Int32)), .val (.ref rr_3)] [(.int (2 : Int32))]))
      refine Go.st (fun _ k' => XS.iconst X237.here hx rfl (hb hby at_307) k') ?_
      show Go p e below s _ _ _ (T237.setTop (mkF m 308 #[.val (.int size), .val (.int steps), .val (.int chs), .val (.int (2 : Int32)), .val (.int (3 : Int32)), .val (.ref rr_1), .val (.ref rr_3), .val (.ref rr_7), .val (.ref b129), .val (.ref b149), .val (.int (1 : Int32)), .val (.ref rr_3)] [(.int (3 : Int32)), (.int (2 : Int32))]))
      refine Go.st (fun _ k' => XS.icmpYes X237.here hx rfl (pc0 := 308) (pc' := 360) rfl (hb hby at_308) rfl (XT.ii_lt_t (by decide)) (by decide) (by decide) k') ?_
      show Go p e below s _ _ _ (T237.setTop (mkF m 360 #[.val (.int size), .val (.int steps), .val (.int chs), .val (.int (2 : Int32)), .val (.int (3 : Int32)), .val (.ref rr_1), .val (.ref rr_3), .val (.ref rr_7), .val (.ref b129), .val (.ref b149), .val (.int (1 : Int32)), .val (.ref rr_3)] []))
      refine Go.st (fun _ k' => XS.iload X237.here hx rfl (hb hby at_360) rfl k') ?_
      show Go p e below s _ _ _ (T237.setTop (mkF m 362 #[.val (.int size), .val (.int steps), .val (.int chs), .val (.int (2 : Int32)), .val (.int (3 : Int32)), .val (.ref rr_1), .val (.ref rr_3), .val (.ref rr_7), .val (.ref b129), .val (.ref b149), .val (.int (1 : Int32)), .val (.ref rr_3)] [(.int (1 : Int32))]))
      refine Go.retB X237 hx hlk (t := .boolean) Bd.returns (by simp) (hb hby at_362) (by decide) (by decide) eq237 ?_
      exact ⟨rfl, N237, trivial⟩
  · rw [hi48]
    show Go p e below s _ _ _ (T7.setTop (mkF m 48 #[.val (.int size), .val (.int steps), .val (.int chs), .val (.int (3 : Int32)), .val (.int (steps &&& (3 : Int32))), .val (.ref rr_1), .val (.ref rr_3), .val (.ref rr_7), .unset, .unset, .unset, .unset] []))
    refine Go.st (fun _ k' => XS.iloadN X7.here hx rfl (hb hby at_48) rfl k') ?_
    show Go p e below s _ _ _ (T7.setTop (mkF m 49 #[.val (.int size), .val (.int steps), .val (.int chs), .val (.int (3 : Int32)), .val (.int (steps &&& (3 : Int32))), .val (.ref rr_1), .val (.ref rr_3), .val (.ref rr_7), .unset, .unset, .unset, .unset] [(.int (3 : Int32))]))
    refine Go.st (fun _ k' => XS.ifYes X7.here hx rfl (pc0 := 49) (pc' := 61) rfl (hb hby at_49) rfl (XT.i0_ne_t (by decide)) (by decide) (by decide) k') ?_
    show Go p e below s _ _ _ (T7.setTop (mkF m 61 #[.val (.int size), .val (.int steps), .val (.int chs), .val (.int (3 : Int32)), .val (.int (steps &&& (3 : Int32))), .val (.ref rr_1), .val (.ref rr_3), .val (.ref rr_7), .unset, .unset, .unset, .unset] []))
    refine Go.st (fun _ k' => XS.iloadN X7.here hx rfl (hb hby at_61) rfl k') ?_
    show Go p e below s _ _ _ (T7.setTop (mkF m 62 #[.val (.int size), .val (.int steps), .val (.int chs), .val (.int (3 : Int32)), .val (.int (steps &&& (3 : Int32))), .val (.ref rr_1), .val (.ref rr_3), .val (.ref rr_7), .unset, .unset, .unset, .unset] [(.int (3 : Int32))]))
    refine Go.st (fun _ k' => XS.iconst X7.here hx rfl (hb hby at_62) k') ?_
    show Go p e below s _ _ _ (T7.setTop (mkF m 63 #[.val (.int size), .val (.int steps), .val (.int chs), .val (.int (3 : Int32)), .val (.int (steps &&& (3 : Int32))), .val (.ref rr_1), .val (.ref rr_3), .val (.ref rr_7), .unset, .unset, .unset, .unset] [(.int (1 : Int32)), (.int (3 : Int32))]))
    refine Go.st (fun _ k' => XS.icmpYes X7.here hx rfl (pc0 := 63) (pc' := 80) rfl (hb hby at_63) rfl (XT.ii_ne_t (by decide)) (by decide) (by decide) k') ?_
    show Go p e below s _ _ _ (T7.setTop (mkF m 80 #[.val (.int size), .val (.int steps), .val (.int chs), .val (.int (3 : Int32)), .val (.int (steps &&& (3 : Int32))), .val (.ref rr_1), .val (.ref rr_3), .val (.ref rr_7), .unset, .unset, .unset, .unset] []))
    refine Go.st (fun _ k' => XS.iloadN X7.here hx rfl (hb hby at_80) rfl k') ?_
    show Go p e below s _ _ _ (T7.setTop (mkF m 81 #[.val (.int size), .val (.int steps), .val (.int chs), .val (.int (3 : Int32)), .val (.int (steps &&& (3 : Int32))), .val (.ref rr_1), .val (.ref rr_3), .val (.ref rr_7), .unset, .unset, .unset, .unset] [(.int (3 : Int32))]))
    refine Go.st (fun _ k' => XS.iconst X7.here hx rfl (hb hby at_81) k') ?_
    show Go p e below s _ _ _ (T7.setTop (mkF m 82 #[.val (.int size), .val (.int steps), .val (.int chs), .val (.int (3 : Int32)), .val (.int (steps &&& (3 : Int32))), .val (.ref rr_1), .val (.ref rr_3), .val (.ref rr_7), .unset, .unset, .unset, .unset] [(.int (2 : Int32)), (.int (3 : Int32))]))
    refine Go.st (fun _ k' => XS.icmpYes X7.here hx rfl (pc0 := 82) (pc' := 104) rfl (hb hby at_82) rfl (XT.ii_ne_t (by decide)) (by decide) (by decide) k') ?_
    show Go p e below s _ _ _ (T7.setTop (mkF m 104 #[.val (.int size), .val (.int steps), .val (.int chs), .val (.int (3 : Int32)), .val (.int (steps &&& (3 : Int32))), .val (.ref rr_1), .val (.ref rr_3), .val (.ref rr_7), .unset, .unset, .unset, .unset] []))
    refine Go.st (fun _ k' => XS.iconst X7.here hx rfl (hb hby at_104) k') ?_
    show Go p e below s _ _ _ (T7.setTop (mkF m 105 #[.val (.int size), .val (.int steps), .val (.int chs), .val (.int (3 : Int32)), .val (.int (steps &&& (3 : Int32))), .val (.ref rr_1), .val (.ref rr_3), .val (.ref rr_7), .unset, .unset, .unset, .unset] [(.int (3 : Int32))]))
    obtain ⟨T238, h238, k238, X238, e238, E238, A238, Ex238, V238, st238⟩ := newRE X7 hx hZ hown (wdx hw 26 rfl) (wdx hw 27 rfl) rfl (g := (mkF m 105 #[.val (.int size), .val (.int steps), .val (.int chs), .val (.int (3 : Int32)), .val (.int (steps &&& (3 : Int32))), .val (.ref rr_1), .val (.ref rr_3), .val (.ref rr_7), .unset, .unset, .unset, .unset] [(.int (3 : Int32))])) rfl (hb hby at_105) rfl (by decide) (cap := 3) (by decide) (by decide) (by decide) (by decide) (ad := "[Ljava/lang/String;") rfl
    obtain ⟨b238, g238⟩ : ∃ z, z = T7.heap.size := ⟨_, rfl⟩
    rw [← g238] at A238 Ex238 st238
    refine Go.st st238 ?_
    have g_b238 : n0 ≤ b238 := Nat.le_trans (own_le O7) (Nat.le_of_eq g238.symm)
    have ne239 : rr_1 ≠ b238 := Nat.ne_of_lt (Nat.lt_of_lt_of_le f9.lt (Nat.le_of_eq g238.symm))
    have ne240 : rr_3 ≠ b238 := Nat.ne_of_lt (Nat.lt_of_lt_of_le f10.lt (Nat.le_of_eq g238.symm))
    have ne241 : rr_7 ≠ b238 := Nat.ne_of_lt (Nat.lt_of_lt_of_le f8.lt (Nat.le_of_eq g238.symm))
    have f242 : Exa Z h238 rr_1 "java/lang/String" := f9.ext E238
    have f243 : Exa Z h238 rr_3 "java/lang/String" := f10.ext E238
    have f244 : Exa Z h238 rr_7 "java/lang/String" := f8.ext E238
    have O238 : Old Z n0 h238 := O7.ext E238
    have f245 : Arv Z h238 b238 k238 (.object "java/lang/String") (3 : Int32) [.null, .null, .null] .null := (Arv.new A238 (by decide)).pad (pad_rep [] .null 3)
    show Go p e below s _ _ _ (T238.setTop (mkF m 108 #[.val (.int size), .val (.int steps), .val (.int chs), .val (.int (3 : Int32)), .val (.int (steps &&& (3 : Int32))), .val (.ref rr_1), .val (.ref rr_3), .val (.ref rr_7), .unset, .unset, .unset, .unset] [(.ref b238)]))
    refine Go.st (fun _ k' => XS.dup X238.here hx rfl (hb hby at_108) rfl rfl k') ?_
    show Go p e below s _ _ _ (T238.setTop (mkF m 109 #[.val (.int size), .val (.int steps), .val (.int chs), .val (.int (3 : Int32)), .val (.int (steps &&& (3 : Int32))), .val (.ref rr_1), .val (.ref rr_3), .val (.ref rr_7), .unset, .unset, .unset, .unset] [(.ref b238), (.ref b238)]))
    refine Go.st (fun _ k' => XS.iconst X238.here hx rfl (hb hby at_109) k') ?_
    show Go p e below s _ _ _ (T238.setTop (mkF m 110 #[.val (.int size), .val (.int steps), .val (.int chs), .val (.int (3 : Int32)), .val (.int (steps &&& (3 : Int32))), .val (.ref rr_1), .val (.ref rr_3), .val (.ref rr_7), .unset, .unset, .unset, .unset] [(.int (0 : Int32)), (.ref b238), (.ref b238)]))
    refine Go.st (fun _ k' => XS.aload X238.here hx rfl (hb hby at_110) rfl rfl k') ?_
    show Go p e below s _ _ _ (T238.setTop (mkF m 112 #[.val (.int size), .val (.int steps), .val (.int chs), .val (.int (3 : Int32)), .val (.int (steps &&& (3 : Int32))), .val (.ref rr_1), .val (.ref rr_3), .val (.ref rr_7), .unset, .unset, .unset, .unset] [(.ref rr_1), (.int (0 : Int32)), (.ref b238), (.ref b238)]))
    have vz246 := f245
    obtain ⟨cl246, Ar246, qc246, Sz246, Nn246, Ha246, Gf246⟩ := id f245
    obtain ⟨T246, h246, X246, e246, W246, st246⟩ := stR X238 hx hZ e238 Ar246 (j := (0 : Int32)) (inb_of Sz246 ⟨by decide, by decide⟩) rfl (Sto.ofV Ar246 qc246 V238 (Ins.self f242)) (g := (mkF m 112 #[.val (.int size), .val (.int steps), .val (.int chs), .val (.int (3 : Int32)), .val (.int (steps &&& (3 : Int32))), .val (.ref rr_1), .val (.ref rr_3), .val (.ref rr_7), .unset, .unset, .unset, .unset] [(.ref rr_1), (.int (0 : Int32)), (.ref b238), (.ref b238)])) rfl rfl (hb hby at_112)
    refine Go.st st246 ?_
    have f248 : Exa Z h246 rr_1 "java/lang/String" := f242.wr W246
    have f249 : Exa Z h246 rr_3 "java/lang/String" := f243.wr W246
    have f250 : Exa Z h246 rr_7 "java/lang/String" := f244.wr W246
    have f251 : Exa Z h246 b238 "[Ljava/lang/String;" := Ex238.wr W246
    have O246 : Old Z n0 h246 := O238.wr W246 g_b238
    have N246 := Fr.snoc X246 N7 g_b238
    have f247 : Arv Z h246 b238 k238 (.object "java/lang/String") (3 : Int32) [(.ref rr_1), .null, .null] .null := Arv.set Ar246 qc246 Sz246 Nn246 Ha246 Gf246 rfl W246 0 rfl (Nat.le_of_ble_eq_true rfl)
    show Go p e below s _ _ _ (T246.setTop (mkF m 113 #[.val (.int size), .val (.int steps), .val (.int chs), .val (.int (3 : Int32)), .val (.int (steps &&& (3 : Int32))), .val (.ref rr_1), .val (.ref rr_3), .val (.ref rr_7), .unset, .unset, .unset, .unset] [(.ref b238)]))
    refine Go.st (fun _ k' => XS.dup X246.here hx rfl (hb hby at_113) rfl rfl k') ?_
    show Go p e below s _ _ _ (T246.setTop (mkF m 114 #[.val (.int size), .val (.int steps), .val (.int chs), .val (.int (3 : Int32)), .val (.int (steps &&& (3 : Int32))), .val (.ref rr_1), .val (.ref rr_3), .val (.ref rr_7), .unset, .unset, .unset, .unset] [(.ref b238), (.ref b238)]))
    refine Go.st (fun _ k' => XS.iconst X246.here hx rfl (hb hby at_114) k') ?_
    show Go p e below s _ _ _ (T246.setTop (mkF m 115 #[.val (.int size), .val (.int steps), .val (.int chs), .val (.int (3 : Int32)), .val (.int (steps &&& (3 : Int32))), .val (.ref rr_1), .val (.ref rr_3), .val (.ref rr_7), .unset, .unset, .unset, .unset] [(.int (1 : Int32)), (.ref b238), (.ref b238)]))
    refine Go.st (fun _ k' => XS.aload X246.here hx rfl (hb hby at_115) rfl rfl k') ?_
    show Go p e below s _ _ _ (T246.setTop (mkF m 117 #[.val (.int size), .val (.int steps), .val (.int chs), .val (.int (3 : Int32)), .val (.int (steps &&& (3 : Int32))), .val (.ref rr_1), .val (.ref rr_3), .val (.ref rr_7), .unset, .unset, .unset, .unset] [(.ref rr_3), (.int (1 : Int32)), (.ref b238), (.ref b238)]))
    have vz252 := f247
    obtain ⟨cl252, Ar252, qc252, Sz252, Nn252, Ha252, Gf252⟩ := id f247
    obtain ⟨T252, h252, X252, e252, W252, st252⟩ := stR X246 hx hZ e246 Ar252 (j := (1 : Int32)) (inb_of Sz252 ⟨by decide, by decide⟩) rfl (Sto.ofV Ar252 qc252 V238 (Ins.self f249)) (g := (mkF m 117 #[.val (.int size), .val (.int steps), .val (.int chs), .val (.int (3 : Int32)), .val (.int (steps &&& (3 : Int32))), .val (.ref rr_1), .val (.ref rr_3), .val (.ref rr_7), .unset, .unset, .unset, .unset] [(.ref rr_3), (.int (1 : Int32)), (.ref b238), (.ref b238)])) rfl rfl (hb hby at_117)
    refine Go.st st252 ?_
    have f254 : Exa Z h252 rr_1 "java/lang/String" := f248.wr W252
    have f255 : Exa Z h252 rr_3 "java/lang/String" := f249.wr W252
    have f256 : Exa Z h252 rr_7 "java/lang/String" := f250.wr W252
    have f257 : Exa Z h252 b238 "[Ljava/lang/String;" := f251.wr W252
    have O252 : Old Z n0 h252 := O246.wr W252 g_b238
    have N252 := Fr.snoc X252 N246 g_b238
    have f253 : Arv Z h252 b238 k238 (.object "java/lang/String") (3 : Int32) [(.ref rr_1), (.ref rr_3), .null] .null := Arv.set Ar252 qc252 Sz252 Nn252 Ha252 Gf252 rfl W252 1 rfl (Nat.le_of_ble_eq_true rfl)
    show Go p e below s _ _ _ (T252.setTop (mkF m 118 #[.val (.int size), .val (.int steps), .val (.int chs), .val (.int (3 : Int32)), .val (.int (steps &&& (3 : Int32))), .val (.ref rr_1), .val (.ref rr_3), .val (.ref rr_7), .unset, .unset, .unset, .unset] [(.ref b238)]))
    refine Go.st (fun _ k' => XS.dup X252.here hx rfl (hb hby at_118) rfl rfl k') ?_
    show Go p e below s _ _ _ (T252.setTop (mkF m 119 #[.val (.int size), .val (.int steps), .val (.int chs), .val (.int (3 : Int32)), .val (.int (steps &&& (3 : Int32))), .val (.ref rr_1), .val (.ref rr_3), .val (.ref rr_7), .unset, .unset, .unset, .unset] [(.ref b238), (.ref b238)]))
    refine Go.st (fun _ k' => XS.iconst X252.here hx rfl (hb hby at_119) k') ?_
    show Go p e below s _ _ _ (T252.setTop (mkF m 120 #[.val (.int size), .val (.int steps), .val (.int chs), .val (.int (3 : Int32)), .val (.int (steps &&& (3 : Int32))), .val (.ref rr_1), .val (.ref rr_3), .val (.ref rr_7), .unset, .unset, .unset, .unset] [(.int (2 : Int32)), (.ref b238), (.ref b238)]))
    refine Go.st (fun _ k' => XS.aload X252.here hx rfl (hb hby at_120) rfl rfl k') ?_
    show Go p e below s _ _ _ (T252.setTop (mkF m 122 #[.val (.int size), .val (.int steps), .val (.int chs), .val (.int (3 : Int32)), .val (.int (steps &&& (3 : Int32))), .val (.ref rr_1), .val (.ref rr_3), .val (.ref rr_7), .unset, .unset, .unset, .unset] [(.ref rr_7), (.int (2 : Int32)), (.ref b238), (.ref b238)]))
    have vz258 := f253
    obtain ⟨cl258, Ar258, qc258, Sz258, Nn258, Ha258, Gf258⟩ := id f253
    obtain ⟨T258, h258, X258, e258, W258, st258⟩ := stR X252 hx hZ e252 Ar258 (j := (2 : Int32)) (inb_of Sz258 ⟨by decide, by decide⟩) rfl (Sto.ofV Ar258 qc258 V238 (Ins.self f256)) (g := (mkF m 122 #[.val (.int size), .val (.int steps), .val (.int chs), .val (.int (3 : Int32)), .val (.int (steps &&& (3 : Int32))), .val (.ref rr_1), .val (.ref rr_3), .val (.ref rr_7), .unset, .unset, .unset, .unset] [(.ref rr_7), (.int (2 : Int32)), (.ref b238), (.ref b238)])) rfl rfl (hb hby at_122)
    refine Go.st st258 ?_
    have f260 : Exa Z h258 rr_1 "java/lang/String" := f254.wr W258
    have f261 : Exa Z h258 rr_3 "java/lang/String" := f255.wr W258
    have f262 : Exa Z h258 rr_7 "java/lang/String" := f256.wr W258
    have f263 : Exa Z h258 b238 "[Ljava/lang/String;" := f257.wr W258
    have O258 : Old Z n0 h258 := O252.wr W258 g_b238
    have N258 := Fr.snoc X258 N252 g_b238
    have f259 : Arv Z h258 b238 k238 (.object "java/lang/String") (3 : Int32) [(.ref rr_1), (.ref rr_3), (.ref rr_7)] .null := Arv.set Ar258 qc258 Sz258 Nn258 Ha258 Gf258 rfl W258 2 rfl (Nat.le_of_ble_eq_true rfl)
    show Go p e below s _ _ _ (T258.setTop (mkF m 123 #[.val (.int size), .val (.int steps), .val (.int chs), .val (.int (3 : Int32)), .val (.int (steps &&& (3 : Int32))), .val (.ref rr_1), .val (.ref rr_3), .val (.ref rr_7), .unset, .unset, .unset, .unset] [(.ref b238)]))
    refine Go.st (fun _ k' => XS.astore X258.here hx rfl (hb hby at_123) rfl rfl (l' := #[.val (.int size), .val (.int steps), .val (.int chs), .val (.int (3 : Int32)), .val (.int (steps &&& (3 : Int32))), .val (.ref rr_1), .val (.ref rr_3), .val (.ref rr_7), .val (.ref b238), .unset, .unset, .unset]) rfl k') ?_
    show Go p e below s _ _ _ (T258.setTop (mkF m 125 #[.val (.int size), .val (.int steps), .val (.int chs), .val (.int (3 : Int32)), .val (.int (steps &&& (3 : Int32))), .val (.ref rr_1), .val (.ref rr_3), .val (.ref rr_7), .val (.ref b238), .unset, .unset, .unset] []))
    obtain ⟨T264, h264, X264, e264, E264, A264, D264, -, st264⟩ := newO X258 hx hZ hown (wdx hw 28 rfl) (wdx hw 29 rfl) (wdx hw 30 rfl) e258 (g := (mkF m 125 #[.val (.int size), .val (.int steps), .val (.int chs), .val (.int (3 : Int32)), .val (.int (steps &&& (3 : Int32))), .val (.ref rr_1), .val (.ref rr_3), .val (.ref rr_7), .val (.ref b238), .unset, .unset, .unset] [])) rfl (hb hby at_125) (by decide) (by decide)
    obtain ⟨b264, g264⟩ : ∃ z, z = h258.size := ⟨_, rfl⟩
    rw [← g264] at A264 D264 st264
    refine Go.st st264 ?_
    have g_b264 : n0 ≤ b264 := Nat.le_trans (own_le O258) (Nat.le_of_eq g264.symm)
    have ne265 : rr_1 ≠ b264 := Nat.ne_of_lt (Nat.lt_of_lt_of_le f260.lt (Nat.le_of_eq g264.symm))
    have ne266 : rr_3 ≠ b264 := Nat.ne_of_lt (Nat.lt_of_lt_of_le f261.lt (Nat.le_of_eq g264.symm))
    have ne267 : rr_7 ≠ b264 := Nat.ne_of_lt (Nat.lt_of_lt_of_le f262.lt (Nat.le_of_eq g264.symm))
    have ne268 : b238 ≠ b264 := Nat.ne_of_lt (Nat.lt_of_lt_of_le f263.lt (Nat.le_of_eq g264.symm))
    have f269 : Exa Z h264 rr_1 "java/lang/String" := f260.ext E264
    have f270 : Exa Z h264 rr_3 "java/lang/String" := f261.ext E264
    have f271 : Exa Z h264 rr_7 "java/lang/String" := f262.ext E264
    have f272 : Exa Z h264 b238 "[Ljava/lang/String;" := f263.ext E264
    have f273 : Arv Z h264 b238 k238 (.object "java/lang/String") (3 : Int32) [(.ref rr_1), (.ref rr_3), (.ref rr_7)] .null := f259.ext E264
    have O264 : Old Z n0 h264 := O258.ext E264
    have f274 : Fld Z h264 b264 "com/example/reportwire/reportwire/Arguments" "optionsGiven" "Ljava/util/Set;" .null := D264 (Or.inr (wdx hw 74 rfl)) (ty := (.object "java/util/Set")) (by decide)
    have f275 : Fld Z h264 b264 "com/example/reportwire/reportwire/Arguments" "args" "[Ljava/lang/String;" .null := D264 (Or.inr (wdx hw 85 rfl)) (ty := (.array (.object "java/lang/String"))) (by decide)
    have f276 : Fld Z h264 b264 "com/example/reportwire/reportwire/Arguments" "next" "I" (.int (0 : Int32)) := D264 (Or.inl (wdx hw 92 rfl)) (ty := .int) (by decide)
    show Go p e below s _ _ _ (T264.setTop (mkF m 128 #[.val (.int size), .val (.int steps), .val (.int chs), .val (.int (3 : Int32)), .val (.int (steps &&& (3 : Int32))), .val (.ref rr_1), .val (.ref rr_3), .val (.ref rr_7), .val (.ref b238), .unset, .unset, .unset] [(.ref b264)]))
    refine Go.st (fun _ k' => XS.dup X264.here hx rfl (hb hby at_128) rfl rfl k') ?_
    show Go p e below s _ _ _ (T264.setTop (mkF m 129 #[.val (.int size), .val (.int steps), .val (.int chs), .val (.int (3 : Int32)), .val (.int (steps &&& (3 : Int32))), .val (.ref rr_1), .val (.ref rr_3), .val (.ref rr_7), .val (.ref b238), .unset, .unset, .unset] [(.ref b264), (.ref b264)]))
    refine Go.st (fun _ k' => XS.aload X264.here hx rfl (hb hby at_129) rfl rfl k') ?_
    show Go p e below s _ _ _ (T264.setTop (mkF m 131 #[.val (.int size), .val (.int steps), .val (.int chs), .val (.int (3 : Int32)), .val (.int (steps &&& (3 : Int32))), .val (.ref rr_1), .val (.ref rr_3), .val (.ref rr_7), .val (.ref b238), .unset, .unset, .unset] [(.ref b238), (.ref b264), (.ref b264)]))
    obtain ⟨_, _, ⟨T277, L277, k277, n277⟩, -, X277, ⟨Lc277, hQ277, l277, y277, z277⟩, st277⟩ := X264.specialBack hx (y := (⟨"com/example/reportwire/reportwire/Arguments", "<init>", "([Ljava/lang/String;)V"⟩ : MethodName)) rfl hown (mvT hZ (wdx hw 31 rfl)) (mvT hZ (wdx hw 32 rfl)) (mvT hZ (wdx hw 33 rfl)) (by decide) (backOf (W := 1) (rm6_3 l Z a0 hw [] b264 b238 k238 rr_1 rr_3 rr_7 h264 n0 O264 A264 f274 f275 f276 f272 f273 g_b264 (Ne.symm ne268)) hZ (wdx hw 33 rfl) (wdx hw 30 rfl) (by decide) (by decide)) (g := (mkF m 131 #[.val (.int size), .val (.int steps), .val (.int chs), .val (.int (3 : Int32)), .val (.int (steps &&& (3 : Int32))), .val (.ref rr_1), .val (.ref rr_3), .val (.ref rr_7), .val (.ref b238), .unset, .unset, .unset] [(.ref b238), (.ref b264), (.ref b264)])) rfl (by rw [hml]; rfl) (Steps.refl _) (a := b264) (argsL := [(.ref b238)]) (rest := [(.ref b264)]) (lenOf pd___Ljava_lang_String__V rfl) rfl (by show 2 * 0 + _ ≤ _; exact Nat.le_of_eq rfl) (hb hby at_131) (fun _ _ => ⟨rfl, e264, (by exact Nat.le_of_ble_eq_true rfl), (by exact Nat.le_of_ble_eq_true rfl)⟩)
    dsimp only [Pt.U, Pt.locs, Pt.cells, Pt.slots] at X277 l277 y277 z277 st277 hQ277
    subst l277 y277 z277
    obtain ⟨na_277, kn_277, rfl, Nq277, Kq277, f278, f279, f280, szn_277⟩ := hQ277
    have N277 := Fr.app N258 Nq277
    refine Go.tr st277 ?_
    have f281 : Exa Z T277.heap rr_1 "java/lang/String" := f269.keep Kq277
    have f282 : Exa Z T277.heap rr_3 "java/lang/String" := f270.keep Kq277
    have f283 : Exa Z T277.heap rr_7 "java/lang/String" := f271.keep Kq277
    have f284 : Exa Z T277.heap b238 "[Ljava/lang/String;" := f272.keep Kq277
    have f285 : Arv Z T277.heap b238 k238 (.object "java/lang/String") (3 : Int32) [(.ref rr_1), (.ref rr_3), (.ref rr_7)] .null := f273.keep Kq277 (ninS ne268 nin0)
    have f286 : Exa Z T277.heap b264 "com/example/reportwire/reportwire/Arguments" := A264.keep Kq277
    have O277 : Old Z n0 T277.heap := O264.keep Kq277 (allS g_b264 all0)
    have g_na_277 : n0 ≤ na_277 := Nat.le_trans (own_le O264) szn_277
    have ne287 : rr_1 ≠ na_277 := Nat.ne_of_lt (Nat.lt_of_lt_of_le f269.lt szn_277)
    have ne288 : rr_3 ≠ na_277 := Nat.ne_of_lt (Nat.lt_of_lt_of_le f270.lt szn_277)
    have ne289 : rr_7 ≠ na_277 := Nat.ne_of_lt (Nat.lt_of_lt_of_le f271.lt szn_277)
    have ne290 : b238 ≠ na_277 := Nat.ne_of_lt (Nat.lt_of_lt_of_le f272.lt szn_277)
    have ne291 : b264 ≠ na_277 := Nat.ne_of_lt (Nat.lt_of_lt_of_le A264.lt szn_277)
    show Go p e below s _ _ _ (T277.setTop (mkF m 134 #[.val (.int size), .val (.int steps), .val (.int chs), .val (.int (3 : Int32)), .val (.int (steps &&& (3 : Int32))), .val (.ref rr_1), .val (.ref rr_3), .val (.ref rr_7), .val (.ref b238), .unset, .unset, .unset] [(.ref b264)]))
    refine Go.st (fun _ k' => XS.astore X277.here hx rfl (hb hby at_134) rfl rfl (l' := #[.val (.int size), .val (.int steps), .val (.int chs), .val (.int (3 : Int32)), .val (.int (steps &&& (3 : Int32))), .val (.ref rr_1), .val (.ref rr_3), .val (.ref rr_7), .val (.ref b238), .val (.ref b264), .unset, .unset]) rfl k') ?_
    show Go p e below s _ _ _ (T277.setTop (mkF m 136 #[.val (.int size), .val (.int steps), .val (.int chs), .val (.int (3 : Int32)), .val (.int (steps &&& (3 : Int32))), .val (.ref rr_1), .val (.ref rr_3), .val (.ref rr_7), .val (.ref b238), .val (.ref b264), .unset, .unset] []))
    refine Go.st (fun _ k' => XS.aload X277.here hx rfl (hb hby at_136) rfl rfl k') ?_
    show Go p e below s _ _ _ (T277.setTop (mkF m 138 #[.val (.int size), .val (.int steps), .val (.int chs), .val (.int (3 : Int32)), .val (.int (steps &&& (3 : Int32))), .val (.ref rr_1), .val (.ref rr_3), .val (.ref rr_7), .val (.ref b238), .val (.ref b264), .unset, .unset] [(.ref b264)]))
    obtain ⟨cq292, kq292, q292a, q292b, q292c⟩ := isOf hZ rfl f286
    obtain ⟨_, _, ⟨T292, L292, k292, n292⟩, -, X292, ⟨Lc292, hQ292, l292, y292, z292⟩, st292⟩ := X277.virtualBack hx (y := (⟨"com/example/reportwire/reportwire/Arguments", "hasNext", "()Z"⟩ : MethodName)) (z := (⟨"com/example/reportwire/reportwire/Arguments", "hasNext", "()Z"⟩ : MethodName)) hown (mvT hZ (wdx hw 86 rfl)) (mvT hZ (wdx hw 87 rfl)) (notFace_of_selects (args := #[]) (mvT hZ (wdx hw 89 rfl))) (mvT hZ (wdx hw 89 rfl)) (mvT hZ (wdx hw 88 rfl)) (by decide) (backOf (W := 0) (rm12_3_0 l Z a0 hw [] b264 na_277 kn_277 rr_1 rr_3 rr_7 T277.heap n0 O277 f278 f279 f280) hZ (wdx hw 90 rfl) (wdx hw 30 rfl) (by decide) (by decide)) q292a q292c (g := (mkF m 138 #[.val (.int size), .val (.int steps), .val (.int chs), .val (.int (3 : Int32)), .val (.int (steps &&& (3 : Int32))), .val (.ref rr_1), .val (.ref rr_3), .val (.ref rr_7), .val (.ref b238), .val (.ref b264), .unset, .unset] [(.ref b264)])) rfl (by rw [hml]; rfl) (Steps.refl _) (argsL := []) (rest := []) (lenOf pd___Z rfl) rfl (by show 2 * 0 + _ ≤ _; exact Nat.le_of_eq rfl) (hb hby at_138) (fun _ _ => ⟨rfl, rfl, (by exact Nat.le_of_ble_eq_true rfl), (by exact Nat.le_of_ble_eq_true rfl)⟩)
    dsimp only [Pt.U, Pt.locs, Pt.cells, Pt.slots] at X292 l292 y292 z292 st292 hQ292
    subst l292 y292 z292
    obtain ⟨rfl, Nq292, eq292⟩ := hQ292
    have N292 := Fr.app N277 Nq292
    refine Go.tr st292 ?_
    show Go p e below s _ _ _ (T292.setTop (mkF m 141 #[.val (.int size), .val (.int steps), .val (.int chs), .val (.int (3 : Int32)), .val (.int (steps &&& (3 : Int32))), .val (.ref rr_1), .val (.ref rr_3), .val (.ref rr_7), .val (.ref b238), .val (.ref b264), .unset, .unset] [(.int (1 : Int32))]))
    refine Go.st (fun _ k' => XS.iloadN X292.here hx rfl (hb hby at_141) rfl k') ?_
    show Go p e below s _ _ _ (T292.setTop (mkF m 142 #[.val (.int size), .val (.int steps), .val (.int chs), .val (.int (3 : Int32)), .val (.int (steps &&& (3 : Int32))), .val (.ref rr_1), .val (.ref rr_3), .val (.ref rr_7), .val (.ref b238), .val (.ref b264), .unset, .unset] [(.int (3 : Int32)), (.int (1 : Int32))]))
    refine Go.st (fun _ k' => XS.ifNo X292.here hx rfl (hb hby at_142) rfl (XT.i0_le_f (by decide)) k') ?_
    show Go p e below s _ _ _ (T292.setTop (mkF m 145 #[.val (.int size), .val (.int steps), .val (.int chs), .val (.int (3 : Int32)), .val (.int (steps &&& (3 : Int32))), .val (.ref rr_1), .val (.ref rr_3), .val (.ref rr_7), .val (.ref b238), .val (.ref b264), .unset, .unset] [(.int (1 : Int32))]))
    refine Go.st (fun _ k' => XS.iconst X292.here hx rfl (hb hby at_145) k') ?_
    show Go p e below s _ _ _ (T292.setTop (mkF m 146 #[.val (.int size), .val (.int steps), .val (.int chs), .val (.int (3 : Int32)), .val (.int (steps &&& (3 : Int32))), .val (.ref rr_1), .val (.ref rr_3), .val (.ref rr_7), .val (.ref b238), .val (.ref b264), .unset, .unset] [(.int (1 : Int32)), (.int (1 : Int32))]))
    refine Go.st (fun _ k' => XS.goto X292.here hx rfl (pc0 := 146) (pc' := 150) rfl (hb hby at_146) (by decide) (by decide) k') ?_
    show Go p e below s _ _ _ (T292.setTop (mkF m 150 #[.val (.int size), .val (.int steps), .val (.int chs), .val (.int (3 : Int32)), .val (.int (steps &&& (3 : Int32))), .val (.ref rr_1), .val (.ref rr_3), .val (.ref rr_7), .val (.ref b238), .val (.ref b264), .unset, .unset] [(.int (1 : Int32)), (.int (1 : Int32))]))
    refine Go.st (fun _ k' => XS.icmpNo X292.here hx rfl (hb hby at_150) rfl (XT.ii_ne_f (by decide)) k') ?_
    show Go p e below s _ _ _ (T292.setTop (mkF m 153 #[.val (.int size), .val (.int steps), .val (.int chs), .val (.int (3 : Int32)), .val (.int (steps &&& (3 : Int32))), .val (.ref rr_1), .val (.ref rr_3), .val (.ref rr_7), .val (.ref b238), .val (.ref b264), .unset, .unset] []))
    refine Go.st (fun _ k' => XS.iconst X292.here hx rfl (hb hby at_153) k') ?_
    show Go p e below s _ _ _ (T292.setTop (mkF m 154 #[.val (.int size), .val (.int steps), .val (.int chs), .val (.int (3 : Int32)), .val (.int (steps &&& (3 : Int32))), .val (.ref rr_1), .val (.ref rr_3), .val (.ref rr_7), .val (.ref b238), .val (.ref b264), .unset, .unset] [(.int (1 : Int32))]))
    refine Go.st (fun _ k' => XS.goto X292.here hx rfl (pc0 := 154) (pc' := 158) rfl (hb hby at_154) (by decide) (by decide) k') ?_
    show Go p e below s _ _ _ (T292.setTop (mkF m 158 #[.val (.int size), .val (.int steps), .val (.int chs), .val (.int (3 : Int32)), .val (.int (steps &&& (3 : Int32))), .val (.ref rr_1), .val (.ref rr_3), .val (.ref rr_7), .val (.ref b238), .val (.ref b264), .unset, .unset] [(.int (1 : Int32))]))
    refine Go.st (fun _ k' => XS.istore X292.here hx rfl (hb hby at_158) rfl (l' := #[.val (.int size), .val (.int steps), .val (.int chs), .val (.int (3 : Int32)), .val (.int (steps &&& (3 : Int32))), .val (.ref rr_1), .val (.ref rr_3), .val (.ref rr_7), .val (.ref b238), .val (.ref b264), .val (.int (1 : Int32)), .unset]) rfl k') ?_
    show Go p e below s _ _ _ (T292.setTop (mkF m 160 #[.val (.int size), .val (.int steps), .val (.int chs), .val (.int (3 : Int32)), .val (.int (steps &&& (3 : Int32))), .val (.ref rr_1), .val (.ref rr_3), .val (.ref rr_7), .val (.ref b238), .val (.ref b264), .val (.int (1 : Int32)), .unset] []))
    rcases own_c4 steps with hi160 | hi160 | hi160 | hi160
    · rw [hi160]
      show Go p e below s _ _ _ (T292.setTop (mkF m 160 #[.val (.int size), .val (.int steps), .val (.int chs), .val (.int (3 : Int32)), .val (.int (0 : Int32)), .val (.ref rr_1), .val (.ref rr_3), .val (.ref rr_7), .val (.ref b238), .val (.ref b264), .val (.int (1 : Int32)), .unset] []))
      refine Go.st (fun _ k' => XS.iload X292.here hx rfl (hb hby at_160) rfl k') ?_
      show Go p e below s _ _ _ (T292.setTop (mkF m 162 #[.val (.int size), .val (.int steps), .val (.int chs), .val (.int (3 : Int32)), .val (.int (0 : Int32)), .val (.ref rr_1), .val (.ref rr_3), .val (.ref rr_7), .val (.ref b238), .val (.ref b264), .val (.int (1 : Int32)), .unset] [(.int (0 : Int32))]))
      refine Go.st (fun _ k' => XS.iconst X292.here hx rfl (hb hby at_162) k') ?_
      show Go p e below s _ _ _ (T292.setTop (mkF m 163 #[.val (.int size), .val (.int steps), .val (.int chs), .val (.int (3 : Int32)), .val (.int (0 : Int32)), .val (.ref rr_1), .val (.ref rr_3), .val (.ref rr_7), .val (.ref b238), .val (.ref b264), .val (.int (1 : Int32)), .unset] [(.int (1 : Int32)), (.int (0 : Int32))]))
      refine Go.st (fun _ k' => XS.icmpYes X292.here hx rfl (pc0 := 163) (pc' := 230) rfl (hb hby at_163) rfl (XT.ii_lt_t (by decide)) (by decide) (by decide) k') ?_
      show Go p e below s _ _ _ (T292.setTop (mkF m 230 #[.val (.int size), .val (.int steps), .val (.int chs), .val (.int (3 : Int32)), .val (.int (0 : Int32)), .val (.ref rr_1), .val (.ref rr_3), .val (.ref rr_7), .val (.ref b238), .val (.ref b264), .val (.int (1 : Int32)), .unset] []))
      refine Go.st (fun _ k' => XS.iload X292.here hx rfl (hb hby at_230) rfl k') ?_
      show Go p e below s _ _ _ (T292.setTop (mkF m 232 #[.val (.int size), .val (.int steps), .val (.int chs), .val (.int (3 : Int32)), .val (.int (0 : Int32)), .val (.ref rr_1), .val (.ref rr_3), .val (.ref rr_7), .val (.ref b238), .val (.ref b264), .val (.int (1 : Int32)), .unset] [(.int (0 : Int32))]))
      refine Go.st (fun _ k' => XS.iconst X292.here hx rfl (hb hby at_232) k') ?_
      show Go p e below s _ _ _ (T292.setTop (mkF m 233 #[.val (.int size), .val (.int steps), .val (.int chs), .val (.int (3 : Int32)), .val (.int (0 : Int32)), .val (.ref rr_1), .val (.ref rr_3), .val (.ref rr_7), .val (.ref b238), .val (.ref b264), .val (.int (1 : Int32)), .unset] [(.int (2 : Int32)), (.int (0 : Int32))]))
      refine Go.st (fun _ k' => XS.icmpYes X292.here hx rfl (pc0 := 233) (pc' := 300) rfl (hb hby at_233) rfl (XT.ii_lt_t (by decide)) (by decide) (by decide) k') ?_
      show Go p e below s _ _ _ (T292.setTop (mkF m 300 #[.val (.int size), .val (.int steps), .val (.int chs), .val (.int (3 : Int32)), .val (.int (0 : Int32)), .val (.ref rr_1), .val (.ref rr_3), .val (.ref rr_7), .val (.ref b238), .val (.ref b264), .val (.int (1 : Int32)), .unset] []))
      refine Go.st (fun _ k' => XS.iload X292.here hx rfl (hb hby at_300) rfl k') ?_
      show Go p e below s _ _ _ (T292.setTop (mkF m 302 #[.val (.int size), .val (.int steps), .val (.int chs), .val (.int (3 : Int32)), .val (.int (0 : Int32)), .val (.ref rr_1), .val (.ref rr_3), .val (.ref rr_7), .val (.ref b238), .val (.ref b264), .val (.int (1 : Int32)), .unset] [(.int (0 : Int32))]))
      refine Go.st (fun _ k' => XS.iconst X292.here hx rfl (hb hby at_302) k') ?_
      show Go p e below s _ _ _ (T292.setTop (mkF m 303 #[.val (.int size), .val (.int steps), .val (.int chs), .val (.int (3 : Int32)), .val (.int (0 : Int32)), .val (.ref rr_1), .val (.ref rr_3), .val (.ref rr_7), .val (.ref b238), .val (.ref b264), .val (.int (1 : Int32)), .unset] [(.int (3 : Int32)), (.int (0 : Int32))]))
      refine Go.st (fun _ k' => XS.icmpYes X292.here hx rfl (pc0 := 303) (pc' := 360) rfl (hb hby at_303) rfl (XT.ii_lt_t (by decide)) (by decide) (by decide) k') ?_
      show Go p e below s _ _ _ (T292.setTop (mkF m 360 #[.val (.int size), .val (.int steps), .val (.int chs), .val (.int (3 : Int32)), .val (.int (0 : Int32)), .val (.ref rr_1), .val (.ref rr_3), .val (.ref rr_7), .val (.ref b238), .val (.ref b264), .val (.int (1 : Int32)), .unset] []))
      refine Go.st (fun _ k' => XS.iload X292.here hx rfl (hb hby at_360) rfl k') ?_
      show Go p e below s _ _ _ (T292.setTop (mkF m 362 #[.val (.int size), .val (.int steps), .val (.int chs), .val (.int (3 : Int32)), .val (.int (0 : Int32)), .val (.ref rr_1), .val (.ref rr_3), .val (.ref rr_7), .val (.ref b238), .val (.ref b264), .val (.int (1 : Int32)), .unset] [(.int (1 : Int32))]))
      refine Go.retB X292 hx hlk (t := .boolean) Bd.returns (by simp) (hb hby at_362) (by decide) (by decide) eq292 ?_
      exact ⟨rfl, N292, trivial⟩
    · rw [hi160]
      show Go p e below s _ _ _ (T292.setTop (mkF m 160 #[.val (.int size), .val (.int steps), .val (.int chs), .val (.int (3 : Int32)), .val (.int (1 : Int32)), .val (.ref rr_1), .val (.ref rr_3), .val (.ref rr_7), .val (.ref b238), .val (.ref b264), .val (.int (1 : Int32)), .unset] []))
      refine Go.st (fun _ k' => XS.iload X292.here hx rfl (hb hby at_160) rfl k') ?_
      show Go p e below s _ _ _ (T292.setTop (mkF m 162 #[.val (.int size), .val (.int steps), .val (.int chs), .val (.int (3 : Int32)), .val (.int (1 : Int32)), .val (.ref rr_1), .val (.ref rr_3), .val (.ref rr_7), .val (.ref b238), .val (.ref b264), .val (.int (1 : Int32)), .unset] [(.int (1 : Int32))]))
      refine Go.st (fun _ k' => XS.iconst X292.here hx rfl (hb hby at_162) k') ?_
      show Go p e below s _ _ _ (T292.setTop (mkF m 163 #[.val (.int size), .val (.int steps), .val (.int chs), .val (.int (3 : Int32)), .val (.int (1 : Int32)), .val (.ref rr_1), .val (.ref rr_3), .val (.ref rr_7), .val (.ref b238), .val (.ref b264), .val (.int (1 : Int32)), .unset] [(.int (1 : Int32)), (.int (1 : Int32))]))
      refine Go.st (fun _ k' => XS.icmpNo X292.here hx rfl (hb hby at_163) rfl (XT.ii_lt_f (by decide)) k') ?_
      show Go p e below s _ _ _ (T292.setTop (mkF m 166 #[.val (.int size), .val (.int steps), .val (.int chs), .val (.int (3 : Int32)), .val (.int (1 : Int32)), .val (.ref rr_1), .val (.ref rr_3), .val (.ref rr_7), .val (.ref b238), .val (.ref b264), .val (.int (1 : Int32)), .unset] []))
      refine Go.st (fun _ k' => XS.iloadN X292.here hx rfl (hb hby at_166) rfl k') ?_
      show Go p e below s _ _ _ (T292.setTop (mkF m 167 #[.val (.int size), .val (.int steps), .val (.int chs), .val (.int (3 : Int32)), .val (.int (1 : Int32)), .val (.ref rr_1), .val (.ref rr_3), .val (.ref rr_7), .val (.ref b238), .val (.ref b264), .val (.int (1 : Int32)), .unset] [(.int (3 : Int32))]))
      refine Go.st (fun _ k' => XS.iconst X292.here hx rfl (hb hby at_167) k') ?_
      show Go p e below s _ _ _ (T292.setTop (mkF m 168 #[.val (.int size), .val (.int steps), .val (.int chs), .val (.int (3 : Int32)), .val (.int (1 : Int32)), .val (.ref rr_1), .val (.ref rr_3), .val (.ref rr_7), .val (.ref b238), .val (.ref b264), .val (.int (1 : Int32)), .unset] [(.int (1 : Int32)), (.int (3 : Int32))]))
      refine Go.st (fun _ k' => XS.icmpNo X292.here hx rfl (hb hby at_168) rfl (XT.ii_lt_f (by decide)) k') ?_
      show Go p e below s _ _ _ (T292.setTop (mkF m 171 #[.val (.int size), .val (.int steps), .val (.int chs), .val (.int (3 : Int32)), .val (.int (1 : Int32)), .val (.ref rr_1), .val (.ref rr_3), .val (.ref rr_7), .val (.ref b238), .val (.ref b264), .val (.int (1 : Int32)), .unset] []))
      refine Go.st (fun _ k' => XS.aload X292.here hx rfl (hb hby at_171) rfl rfl k') ?_
      show Go p e below s _ _ _ (T292.setTop (mkF m 173 #[.val (.int size), .val (.int steps), .val (.int chs), .val (.int (3 : Int32)), .val (.int (1 : Int32)), .val (.ref rr_1), .val (.ref rr_3), .val (.ref rr_7), .val (.ref b238), .val (.ref b264), .val (.int (1 : Int32)), .unset] [(.ref b264)]))
      obtain ⟨cq293, kq293, q293a, q293b, q293c⟩ := isOf hZ eq292 f286
      obtain ⟨_, _, ⟨T293, L293, k293, n293⟩, -, X293, ⟨Lc293, hQ293, l293, y293, z293⟩, st293⟩ := X292.virtualBack hx (y := (⟨"com/example/reportwire/reportwire/Arguments", "next", "()Ljava/lang/String;"⟩ : MethodName)) (z := (⟨"com/example/reportwire/reportwire/Arguments", "next", "()Ljava/lang/String;"⟩ : MethodName)) hown (mvT hZ (wdx hw 93 rfl)) (mvT hZ (wdx hw 94 rfl)) (notFace_of_selects (args := #[]) (mvT hZ (wdx hw 96 rfl))) (mvT hZ (wdx hw 96 rfl)) (mvT hZ (wdx hw 95 rfl)) (by decide) (backOf (W := 0) (rm13_3_0 l Z a0 hw [] b264 na_277 kn_277 rr_1 rr_3 rr_7 T277.heap n0 O277 f286 f278 f279 f280 g_b264 ne291) hZ (wdx hw 97 rfl) (wdx hw 30 rfl) (by decide) (by decide)) q293a q293c (g := (mkF m 173 #[.val (.int size), .val (.int steps), .val (.int chs), .val (.int (3 : Int32)), .val (.int (1 : Int32)), .val (.ref rr_1), .val (.ref rr_3), .val (.ref rr_7), .val (.ref b238), .val (.ref b264), .val (.int (1 : Int32)), .unset] [(.ref b264)])) rfl (by rw [hml]; rfl) (Steps.refl _) (argsL := []) (rest := []) (lenOf pd___Ljava_lang_String_ rfl) rfl (by show 2 * 0 + _ ≤ _; exact Nat.le_of_eq rfl) (hb hby at_173) (fun _ _ => ⟨rfl, eq292, (by exact Nat.le_of_ble_eq_true rfl), (by exact Nat.le_of_ble_eq_true rfl)⟩)
      dsimp only [Pt.U, Pt.locs, Pt.cells, Pt.slots] at X293 l293 y293 z293 st293 hQ293
      subst l293 y293 z293
      obtain ⟨rfl, Nq293, Kq293, f294, f295⟩ := hQ293
      have N293 := Fr.app N292 Nq293
      refine Go.tr st293 ?_
      have f296 : Exa Z T293.heap rr_1 "java/lang/String" := f281.keep Kq293
      have f297 : Exa Z T293.heap rr_3 "java/lang/String" := f282.keep Kq293
      have f298 : Exa Z T293.heap rr_7 "java/lang/String" := f283.keep Kq293
      have f299 : Exa Z T293.heap b238 "[Ljava/lang/String;" := f284.keep Kq293
      have f300 : Arv Z T293.heap b238 k238 (.object "java/lang/String") (3 : Int32) [(.ref rr_1), (.ref rr_3), (.ref rr_7)] .null := f285.keep Kq293 (ninS ne268 nin0)
      have f301 : Exa Z T293.heap b264 "com/example/reportwire/reportwire/Arguments" := f286.keep Kq293
      have f302 : Arv Z T293.heap na_277 kn_277 (.object "java/lang/String") (3 : Int32) [(.ref rr_1), (.ref rr_3), (.ref rr_7)] .null := f280.keep Kq293 (ninS (Ne.symm ne291) nin0)
      have O293 : Old Z n0 T293.heap := O277.keep Kq293 (allS g_b264 all0)
      show Go p e below s _ _ _ (T293.setTop (mkF m 176 #[.val (.int size), .val (.int steps), .val (.int chs), .val (.int (3 : Int32)), .val (.int (1 : Int32)), .val (.ref rr_1), .val (.ref rr_3), .val (.ref rr_7), .val (.ref b238), .val (.ref b264), .val (.int (1 : Int32)), .unset] [(.ref rr_1)]))
      refine Go.st (fun _ k' => XS.astore X293.here hx rfl (hb hby at_176) rfl rfl (l' := #[.val (.int size), .val (.int steps), .val (.int chs), .val (.int (3 : Int32)), .val (.int (1 : Int32)), .val (.ref rr_1), .val (.ref rr_3), .val (.ref rr_7), .val (.ref b238), .val (.ref b264), .val (.int (1 : Int32)), .val (.ref rr_1)]) rfl k') ?_
      show Go p e below s _ _ _ (T293.setTop (mkF m 178 #[.val (.int size), .val (.int steps), .val (.int chs), .val (.int (3 : Int32)), .val (.int (1 : Int32)), .val (.ref rr_1), .val (.ref rr_3), .val (.ref rr_7), .val (.ref b238), .val (.ref b264), .val (.int (1 : Int32)), .val (.ref rr_1)] []))
      refine Go.st (fun _ k' => XS.aload X293.here hx rfl (hb hby at_178) rfl rfl k') ?_
      show Go p e below s _ _ _ (T293.setTop (mkF m 180 #[.val (.int size), .val (.int steps), .val (.int chs), .val (.int (3 : Int32)), .val (.int (1 : Int32)), .val (.ref rr_1), .val (.ref rr_3), .val (.ref rr_7), .val (.ref b238), .val (.ref b264), .val (.int (1 : Int32)), .val (.ref rr_1)] [(.ref rr_1)]))
      refine Go.st (fun _ k' => XS.aload X293.here hx rfl (hb hby at_180) rfl rfl k') ?_
      show Go p e below s _ _ _ (T293.setTop (mkF m 182 #[.val (.int size), .val (.int steps), .val (.int chs), .val (.int (3 : Int32)), .val (.int (1 : Int32)), .val (.ref rr_1), .val (.ref rr_3), .val (.ref rr_7), .val (.ref b238), .val (.ref b264), .val (.int (1 : Int32)), .val (.ref rr_1)] [(.ref rr_1), (.ref rr_1)]))
      obtain ⟨cq303, kq303, q303a, q303b, q303c⟩ := isOf hZ rfl f296
      obtain ⟨_, _, ⟨T303, L303, k303, n303⟩, -, X303, ⟨Lc303, hQ303, l303, y303, z303⟩, st303⟩ := X293.virtualBack hx (y := (⟨"java/lang/String", "equals", "(Ljava/lang/Object;)Z"⟩ : MethodName)) (z := (⟨"java/lang/String", "equals", "(Ljava/lang/Object;)Z"⟩ : MethodName)) hown (mvT hZ (wdx hw 104 rfl)) (mvT hZ (wdx hw 105 rfl)) (notFace_of_selects (args := #[]) (mvT hZ (wdx hw 107 rfl))) (mvT hZ (wdx hw 107 rfl)) (mvT hZ (wdx hw 106 rfl)) (by decide) (backOf (W := 0) (rm15 l Z a0 hw [] rr_1 T293.heap n0 O293 ) hZ (wdx hw 108 rfl) (wdx hw 2 rfl) (by decide) (by decide)) q303a q303c (g := (mkF m 182 #[.val (.int size), .val (.int steps), .val (.int chs), .val (.int (3 : Int32)), .val (.int (1 : Int32)), .val (.ref rr_1), .val (.ref rr_3), .val (.ref rr_7), .val (.ref b238), .val (.ref b264), .val (.int (1 : Int32)), .val (.ref rr_1)] [(.ref rr_1), (.ref rr_1)])) rfl (by rw [hml]; rfl) (Steps.refl _) (argsL := [(.ref rr_1)]) (rest := []) (lenOf pd__Ljava_lang_Object__Z rfl) rfl (by show 2 * 0 + _ ≤ _; exact Nat.le_of_eq rfl) (hb hby at_182) (fun _ _ => ⟨rfl, rfl, (by exact Nat.le_of_ble_eq_true rfl), (by exact Nat.le_of_ble_eq_true rfl)⟩)
      dsimp only [Pt.U, Pt.locs, Pt.cells, Pt.slots] at X303 l303 y303 z303 st303 hQ303
      subst l303 y303 z303
      obtain ⟨rfl, Nq303, eq303⟩ := hQ303
      have N303 := Fr.app N293 Nq303
      refine Go.tr st303 ?_
      show Go p e below s _ _ _ (T303.setTop (mkF m 185 #[.val (.int size), .val (.int steps), .val (.int chs), .val (.int (3 : Int32)), .val (.int (1 : Int32)), .val (.ref rr_1), .val (.ref rr_3), .val (.ref rr_7), .val (.ref b238), .val (.ref b264), .val (.int (1 : Int32)), .val (.ref rr_1)] [(.int (1 : Int32))]))
      refine Go.st (fun _ k' => XS.ifNo X303.here hx rfl (hb hby at_185) rfl (XT.i0_eq_f (by decide)) k') ?_
      show Go p e below s _ _ _ (T303.setTop (mkF m 188 #[.val (.int size), .val (.int steps), .val (.int chs), .val (.int (3 : Int32)), .val (.int (1 : Int32)), .val (.ref rr_1), .val (.ref rr_3), .val (.ref rr_7), .val (.ref b238), .val (.ref b264), .val (.int (1 : Int32)), .val (.ref rr_1)] []))
      refine Go.st (fun _ k' => XS.iload X303.here hx rfl (hb hby at_188) rfl k') ?_
      show Go p e below s _ _ _ (T303.setTop (mkF m 190 #[.val (.int size), .val (.int steps), .val (.int chs), .val (.int (3 : Int32)), .val (.int (1 : Int32)), .val (.ref rr_1), .val (.ref rr_3), .val (.ref rr_7), .val (.ref b238), .val (.ref b264), .val (.int (1 : Int32)), .val (.ref rr_1)] [(.int (1 : Int32))]))
      refine Go.st (fun _ k' => XS.ifNo X303.here hx rfl (hb hby at_190) rfl (XT.i0_eq_f (by decide)) k') ?_
      show Go p e below s _ _ _ (T303.setTop (mkF m 193 #[.val (.int size), .val (.int steps), .val (.int chs), .val (.int (3 : Int32)), .val (.int (1 : Int32)), .val (.ref rr_1), .val (.ref rr_3), .val (.ref rr_7), .val (.ref b238), .val (.ref b264), .val (.int (1 : Int32)), .val (.ref rr_1)] []))
      refine Go.st (fun _ k' => XS.iconst X303.here hx rfl (hb hby at_193) k') ?_
      show Go p e below s _ _ _ (T303.setTop (mkF m 194 #[.val (.int size), .val (.int steps), .val (.int chs), .val (.int (3 : Int32)), .val (.int (1 : Int32)), .val (.ref rr_1), .val (.ref rr_3), .val (.ref rr_7), .val (.ref b238), .val (.ref b264), .val (.int (1 : Int32)), .val (.ref rr_1)] [(.int (1 : Int32))]))
      refine Go.st (fun _ k' => XS.goto X303.here hx rfl (pc0 := 194) (pc' := 198) rfl (hb hby at_194) (by decide) (by decide) k') ?_
      show Go p e below s _ _ _ (T303.setTop (mkF m 198 #[.val (.int size), .val (.int steps), .val (.int chs), .val (.int (3 : Int32)), .val (.int (1 : Int32)), .val (.ref rr_1), .val (.ref rr_3), .val (.ref rr_7), .val (.ref b238), .val (.ref b264), .val (.int (1 : Int32)), .val (.ref rr_1)] [(.int (1 : Int32))]))
      refine Go.st (fun _ k' => XS.istore X303.here hx rfl (hb hby at_198) rfl (l' := #[.val (.int size), .val (.int steps), .val (.int chs), .val (.int (3 : Int32)), .val (.int (1 : Int32)), .val (.ref rr_1), .val (.ref rr_3), .val (.ref rr_7), .val (.ref b238), .val (.ref b264), .val (.int (1 : Int32)), .val (.ref rr_1)]) rfl k') ?_
      show Go p e below s _ _ _ (T303.setTop (mkF m 200 #[.val (.int size), .val (.int steps), .val (.int chs), .val (.int (3 : Int32)), .val (.int (1 : Int32)), .val (.ref rr_1), .val (.ref rr_3), .val (.ref rr_7), .val (.ref b238), .val (.ref b264), .val (.int (1 : Int32)), .val (.ref rr_1)] []))
      refine Go.st (fun _ k' => XS.aload X303.here hx rfl (hb hby at_200) rfl rfl k') ?_
      show Go p e below s _ _ _ (T303.setTop (mkF m 202 #[.val (.int size), .val (.int steps), .val (.int chs), .val (.int (3 : Int32)), .val (.int (1 : Int32)), .val (.ref rr_1), .val (.ref rr_3), .val (.ref rr_7), .val (.ref b238), .val (.ref b264), .val (.int (1 : Int32)), .val (.ref rr_1)] [(.ref b264)]))
      obtain ⟨cq304, kq304, q304a, q304b, q304c⟩ := isOf hZ eq303 f301
      obtain ⟨_, _, ⟨T304, L304, k304, n304⟩, -, X304, ⟨Lc304, hQ304, l304, y304, z304⟩, st304⟩ := X303.virtualBack hx (y := (⟨"com/example/reportwire/reportwire/Arguments", "hasNext", "()Z"⟩ : MethodName)) (z := (⟨"com/example/reportwire/reportwire/Arguments", "hasNext", "()Z"⟩ : MethodName)) hown (mvT hZ (wdx hw 86 rfl)) (mvT hZ (wdx hw 87 rfl)) (notFace_of_selects (args := #[]) (mvT hZ (wdx hw 89 rfl))) (mvT hZ (wdx hw 89 rfl)) (mvT hZ (wdx hw 88 rfl)) (by decide) (backOf (W := 0) (rm12_3_1 l Z a0 hw [] b264 na_277 kn_277 rr_1 rr_3 rr_7 T293.heap n0 O293 f294 f295 f302) hZ (wdx hw 90 rfl) (wdx hw 30 rfl) (by decide) (by decide)) q304a q304c (g := (mkF m 202 #[.val (.int size), .val (.int steps), .val (.int chs), .val (.int (3 : Int32)), .val (.int (1 : Int32)), .val (.ref rr_1), .val (.ref rr_3), .val (.ref rr_7), .val (.ref b238), .val (.ref b264), .val (.int (1 : Int32)), .val (.ref rr_1)] [(.ref b264)])) rfl (by rw [hml]; rfl) (Steps.refl _) (argsL := []) (rest := []) (lenOf pd___Z rfl) rfl (by show 2 * 0 + _ ≤ _; exact Nat.le_of_eq rfl) (hb hby at_202) (fun _ _ => ⟨rfl, eq303, (by exact Nat.le_of_ble_eq_true rfl), (by exact Nat.le_of_ble_eq_true rfl)⟩)
      dsimp only [Pt.U, Pt.locs, Pt.cells, Pt.slots] at X304 l304 y304 z304 st304 hQ304
      subst l304 y304 z304
      obtain ⟨rfl, Nq304, eq304⟩ := hQ304
      have N304 := Fr.app N303 Nq304
      refine Go.tr st304 ?_
      show Go p e below s _ _ _ (T304.setTop (mkF m 205 #[.val (.int size), .val (.int steps), .val (.int chs), .val (.int (3 : Int32)), .val (.int (1 : Int32)), .val (.ref rr_1), .val (.ref rr_3), .val (.ref rr_7), .val (.ref b238), .val (.ref b264), .val (.int (1 : Int32)), .val (.ref rr_1)] [(.int (1 : Int32))]))
      refine Go.st (fun _ k' => XS.iloadN X304.here hx rfl (hb hby at_205) rfl k') ?_
      show Go p e below s _ _ _ (T304.setTop (mkF m 206 #[.val (.int size), .val (.int steps), .val (.int chs), .val (.int (3 : Int32)), .val (.int (1 : Int32)), .val (.ref rr_1), .val (.ref rr_3), .val (.ref rr_7), .val (.ref b238), .val (.ref b264), .val (.int (1 : Int32)), .val (.ref rr_1)] [(.int (3 : Int32)), (.int (1 : Int32))]))
      refine Go.st (fun _ k' => XS.iconst X304.here hx rfl (hb hby at_206) k') ?_
      show Go p e below s _ _ _ (T304.setTop (mkF m 207 #[.val (.int size), .val (.int steps), .val (.int chs), .val (.int (3 : Int32)), .val (.int (1 : Int32)), .val (.ref rr_1), .val (.ref rr_3), .val (.ref rr_7), .val (.ref b238), .val (.ref b264), .val (.int (1 : Int32)), .val (.ref rr_1)] [(.int (1 : Int32)), (.int (3 : Int32)), (.int (1 : Int32))]))
      refine Go.st (fun _ k' => XS.icmpNo X304.here hx rfl (hb hby at_207) rfl (XT.ii_le_f (by decide)) k') ?_
      show Go p e below s _ _ _ (T304.setTop (mkF m 210 #[.val (.int size), .val (.int steps), .val (.int chs), .val (.int (3 : Int32)), .val (.int (1 : Int32)), .val (.ref rr_1), .val (.ref rr_3), .val (.ref rr_7), .val (.ref b238), .val (.ref b264), .val (.int (1 : Int32)), .val (.ref rr_1)] [(.int (1 : Int32))]))
      refine Go.st (fun _ k' => XS.iconst X304.here hx rfl (hb hby at_210) k') ?_
      show Go p e below s _ _ _ (T304.setTop (mkF m 211 #[.val (.int size), .val (.int steps), .val (.int chs), .val (.int (3 : Int32)), .val (.int (1 : Int32)), .val (.ref rr_1), .val (.ref rr_3), .val (.ref rr_7), .val (.ref b238), .val (.ref b264), .val (.int (1 : Int32)), .val (.ref rr_1)] [(.int (1 : Int32)), (.int (1 : Int32))]))
      refine Go.st (fun _ k' => XS.goto X304.here hx rfl (pc0 := 211) (pc' := 215) rfl (hb hby at_211) (by decide) (by decide) k') ?_
      show Go p e below s _ _ _ (T304.setTop (mkF m 215 #[.val (.int size), .val (.int steps), .val (.int chs), .val (.int (3 : Int32)), .val (.int (1 : Int32)), .val (.ref rr_1), .val (.ref rr_3), .val (.ref rr_7), .val (.ref b238), .val (.ref b264), .val (.int (1 : Int32)), .val (.ref rr_1)] [(.int (1 : Int32)), (.int (1 : Int32))]))
      refine Go.st (fun _ k' => XS.icmpNo X304.here hx rfl (hb hby at_215) rfl (XT.ii_ne_f (by decide)) k') ?_
      show Go p e below s _ _ _ (T304.setTop (mkF m 218 #[.val (.int size), .val (.int steps), .val (.int chs), .val (.int (3 : Int32)), .val (.int (1 : Int32)), .val (.ref rr_1), .val (.ref rr_3), .val (.ref rr_7), .val (.ref b238), .val (.ref b264), .val (.int (1 : Int32)), .val (.ref rr_1)] []))
      refine Go.st (fun _ k' => XS.iload X304.here hx rfl (hb hby at_218) rfl k') ?_
      show Go p e below s _ _ _ (T304.setTop (mkF m 220 #[.val (.int size), .val (.int steps), .val (.int chs), .val (.int (3 : Int32)), .val (.int (1 : Int32)), .val (.ref rr_1), .val (.ref rr_3), .val (.ref rr_7), .val (.ref b238), .val (.ref b264), .val (.int (1 : Int32)), .val (.ref rr_1)] [(.int (1 : Int32))]))
      refine Go.st (fun _ k' => XS.ifNo X304.here hx rfl (hb hby at_220) rfl (XT.i0_eq_f (by decide)) k') ?_
      show Go p e below s _ _ _ (T304.setTop (mkF m 223 #[.val (.int size), .val (.int steps), .val (.int chs), .val (.int (3 : Int32)), .val (.int (1 : Int32)), .val (.ref rr_1), .val (.ref rr_3), .val (.ref rr_7), .val (.ref b238), .val (.ref b264), .val (.int (1 : Int32)), .val (.ref rr_1)] []))
      refine Go.st (fun _ k' => XS.iconst X304.here hx rfl (hb hby at_223) k') ?_
      show Go p e below s _ _ _ (T304.setTop (mkF m 224 #[.val (.int size), .val (.int steps), .val (.int chs), .val (.int (3 : Int32)), .val (.int (1 : Int32)), .val (.ref rr_1), .val (.ref rr_3), .val (.ref rr_7), .val (.ref b238), .val (.ref b264), .val (.int (1 : Int32)), .val (.ref rr_1)] [(.int (1 : Int32))]))
      refine Go.st (fun _ k' => XS.goto X304.here hx rfl (pc0 := 224) (pc' := 228) rfl (hb hby at_224) (by decide) (by decide) k') ?_
      show Go p e below s _ _ _ (T304.setTop (mkF m 228 #[.val (.int size), .val (.int steps), .val (.int chs), .val (.int (3 : Int32)), .val (.int (1 : Int32)), .val (.ref rr_1), .val (.ref rr_3), .val (.ref rr_7), .val (.ref b238), .val (.ref b264), .val (.int (1 : Int32)), .val (.ref rr_1)] [(.int (1 : Int32))]))
      refine Go.st (fun _ k' => XS.istore X304.here hx rfl (hb hby at_228) rfl (l' := #[.val (.int size), .val (.int steps), .val (.int chs), .val (.int (3 : Int32)), .val (.int (1 : Int32)), .val (.ref rr_1), .val (.ref rr_3), .val (.ref rr_7), .val (.ref b238), .val (.ref b264), .val (.int (1 : Int32)), .val (.ref rr_1)]) rfl k') ?_
      show Go p e below s _ _ _ (T304.setTop (mkF m 230 #[.val (.int size), .val (.int steps), .val (.int chs), .val (.int (3 : Int32)), .val (.int (1 : Int32)), .val (.ref rr_1), .val (.ref rr_3), .val (.ref rr_7), .val (.ref b238), .val (.ref b264), .val (.int (1 : Int32)), .val (.ref rr_1)] []))
      refine Go.st (fun _ k' => XS.iload X304.here hx rfl (hb hby at_230) rfl k') ?_
      show Go p e below s _ _ _ (T304.setTop (mkF m 232 #[.val (.int size), .val (.int steps), .val (.int chs), .val (.int (3 : Int32)), .val (.int (1 : Int32)), .val (.ref rr_1), .val (.ref rr_3), .val (.ref rr_7), .val (.ref b238), .val (.ref b264), .val (.int (1 : Int32)), .val (.ref rr_1)] [(.int (1 : Int32))]))
      refine Go.st (fun _ k' => XS.iconst X304.here hx rfl (hb hby at_232) k') ?_
      show Go p e below s _ _ _ (T304.setTop (mkF m 233 #[.val (.int size), .val (.int steps), .val (.int chs), .val (.int (3 : Int32)), .val (.int (1 : Int32)), .val (.ref rr_1), .val (.ref rr_3), .val (.ref rr_7), .val (.ref b238), .val (.ref b264), .val (.int (1 : Int32)), .val (.ref rr_1)] [(.int (2 : Int32)), (.int (1 : Int32))]))
      refine Go.st (fun _ k' => XS.icmpYes X304.here hx rfl (pc0 := 233) (pc' := 300) rfl (hb hby at_233) rfl (XT.ii_lt_t (by decide)) (by decide) (by decide) k') ?_
      show Go p e below s _ _ _ (T304.setTop (mkF m 300 #[.val (.int size), .val (.int steps), .val (.int chs), .val (.int (3 : Int32)), .val (.int (1 : Int32)), .val (.ref rr_1), .val (.ref rr_3), .val (.ref rr_7), .val (.ref b238), .val (.ref b264), .val (.int (1 : Int32)), .val (.ref rr_1)] []))
      refine Go.st (fun _ k' => XS.iload X304.here hx rfl (hb hby at_300) rfl k') ?_
      show Go p e below s _ _ _ (T304.setTop (mkF m 302 #[.val (.int size), .val (.int steps), .val (.int chs), .val (.int (3 : Int32)), .val (.int (1 : Int32)), .val (.ref rr_1), .val (.ref rr_3), .val (.ref rr_7), .val (.ref b238), .val (.ref b264), .val (.int (1 : Int32)), .val (.ref rr_1)] [(.int (1 : Int32))]))
      refine Go.st (fun _ k' => XS.iconst X304.here hx rfl (hb hby at_302) k') ?_
      show Go p e below s _ _ _ (T304.setTop (mkF m 303 #[.val (.int size), .val (.int steps), .val (.int chs), .val (.int (3 : Int32)), .val (.int (1 : Int32)), .val (.ref rr_1), .val (.ref rr_3), .val (.ref rr_7), .val (.ref b238), .val (.ref b264), .val (.int (1 : Int32)), .val (.ref rr_1)] [(.int (3 : Int32)), (.int (1 : Int32))]))
      refine Go.st (fun _ k' => XS.icmpYes X304.here hx rfl (pc0 := 303) (pc' := 360) rfl (hb hby at_303) rfl (XT.ii_lt_t (by decide)) (by decide) (by decide) k') ?_
      show Go p e below s _ _ _ (T304.setTop (mkF m 360 #[.val (.int size), .val (.int steps), .val (.int chs), .val (.int (3 : Int32)), .val (.int (1 : Int32)), .val (.ref rr_1), .val (.ref rr_3), .val (.ref rr_7), .val (.ref b238), .val (.ref b264), .val (.int (1 : Int32)), .val (.ref rr_1)] []))
      refine Go.st (fun _ k' => XS.iload X304.here hx rfl (hb hby at_360) rfl k') ?_
      show Go p e below s _ _ _ (T304.setTop (mkF m 362 #[.val (.int size), .val (.int steps), .val (.int chs), .val (.int (3 : Int32)), .val (.int (1 : Int32)), .val (.ref rr_1), .val (.ref rr_3), .val (.ref rr_7), .val (.ref b238), .val (.ref b264), .val (.int (1 : Int32)), .val (.ref rr_1)] [(.int (1 : Int32))]))
      refine Go.retB X304 hx hlk (t := .boolean) Bd.returns (by simp) (hb hby at_362) (by decide) (by decide) eq304 ?_
      exact ⟨rfl, N304, trivial⟩
    · rw [hi160]
      show Go p e below s _ _ _ (T292.setTop (mkF m 160 #[.val (.int size), .val (.int steps), .val (.int chs), .val (.int (3 : Int32)), .val (.int (2 : Int32)), .val (.ref rr_1), .val (.ref rr_3), .val (.ref rr_7), .val (.ref b238), .val (.ref b264), .val (.int (1 : Int32)), .unset] []))
      refine Go.st (fun _ k' => XS.iload X292.here hx rfl (hb hby at_160) rfl k') ?_
      show Go p e below s _ _ _ (T292.setTop (mkF m 162 #[.val (.int size), .val (.int steps), .val (.int chs), .val (.int (3 : Int32)), .val (.int (2 : Int32)), .val (.ref rr_1), .val (.ref rr_3), .val (.ref rr_7), .val (.ref b238), .val (.ref b264), .val (.int (1 : Int32)), .unset] [(.int (2 : Int32))]))
      refine Go.st (fun _ k' => XS.iconst X292.here hx rfl (hb hby at_162) k') ?_
      show Go p e below s _ _ _ (T292.setTop (mkF m 163 #[.val (.int size), .val (.int steps), .val (.int chs), .val (.int (3 : Int32)), .val (.int (2 : Int32)), .val (.ref rr_1), .val (.ref rr_3), .val (.ref rr_7), .val (.ref b238), .val (.ref b264), .val (.int (1 : Int32)), .unset] [(.int (1 : Int32)), (.int (2 : Int32))]))
      refine Go.st (fun _ k' => XS.icmpNo X292.here hx rfl (hb hby at_163) rfl (XT.ii_lt_f (by decide)) k') ?_
      show Go p e below s _ _ _ (T292.setTop (mkF m 166 #[.val (.int size), .val (.int steps), .val (.int chs), .val (.int (3 : Int32)), .val (.int (2 : Int32)), .val (.ref rr_1), .val (.ref rr_3), .val (.ref rr_7), .val (.ref b238), .val (.ref b264), .val (.int (1 : Int32)), .unset] []))
      refine Go.st (fun _ k' => XS.iloadN X292.here hx rfl (hb hby at_166) rfl k') ?_
      show Go p e below s _ _ _ (T292.setTop (mkF m 167 #[.val (.int size), .val (.int steps), .val (.int chs), .val (.int (3 : Int32)), .val (.int (2 : Int32)), .val (.ref rr_1), .val (.ref rr_3), .val (.ref rr_7), .val (.ref b238), .val (.ref b264), .val (.int (1 : Int32)), .unset] [(.int (3 : Int32))]))
      refine Go.st (fun _ k' => XS.iconst X292.here hx rfl (hb hby at_167) k') ?_
      show Go p e below s _ _ _ (T292.setTop (mkF m 168 #[.val (.int size), .val (.int steps), .val (.int chs), .val (.int (3 : Int32)), .val (.int (2 : Int32)), .val (.ref rr_1), .val (.ref rr_3), .val (.ref rr_7), .val (.ref b238), .val (.ref b264), .val (.int (1 : Int32)), .unset] [(.int (1 : Int32)), (.int (3 : Int32))]))
      refine Go.st (fun _ k' => XS.icmpNo X292.here hx rfl (hb hby at_168) rfl (XT.ii_lt_f (by decide)) k') ?_
      show Go p e below s _ _ _ (T292.setTop (mkF m 171 #[.val (.int size), .val (.int steps), .val (.int chs), .val (.int (3 : Int32)), .val (.int (2 : Int32)), .val (.ref rr_1), .val (.ref rr_3), .val (.ref rr_7), .val (.ref b238), .val (.ref b264), .val (.int (1 : Int32)), .unset] []))
      refine Go.st (fun _ k' => XS.aload X292.here hx rfl (hb hby at_171) rfl rfl k') ?_
      show Go p e below s _ _ _ (T292.setTop (mkF m 173 #[.val (.int size), .val (.int steps), .val (.int chs), .val (.int (3 : Int32)), .val (.int (2 : Int32)), .val (.ref rr_1), .val (.ref rr_3), .val (.ref rr_7), .val (.ref b238), .val (.ref b264), .val (.int (1 : Int32)), .unset] [(.ref b264)]))
      obtain ⟨cq305, kq305, q305a, q305b, q305c⟩ := isOf hZ eq292 f286
      obtain ⟨_, _, ⟨T305, L305, k305, n305⟩, -, X305, ⟨Lc305, hQ305, l305, y305, z305⟩, st305⟩ := X292.virtualBack hx (y := (⟨"com/example/reportwire/reportwire/Arguments", "next", "()Ljava/lang/String;"⟩ : MethodName)) (z := (⟨"com/example/reportwire/reportwire/Arguments", "next", "()Ljava/lang/String;"⟩ : MethodName)) hown (mvT hZ (wdx hw 93 rfl)) (mvT hZ (wdx hw 94 rfl)) (notFace_of_selects (args := #[]) (mvT hZ (wdx hw 96 rfl))) (mvT hZ (wdx hw 96 rfl)) (mvT hZ (wdx hw 95 rfl)) (by decide) (backOf (W := 0) (rm13_3_0 l Z a0 hw [] b264 na_277 kn_277 rr_1 rr_3 rr_7 T277.heap n0 O277 f286 f278 f279 f280 g_b264 ne291) hZ (wdx hw 97 rfl) (wdx hw 30 rfl) (by decide) (by decide)) q305a q305c (g := (mkF m 173 #[.val (.int size), .val (.int steps), .val (.int chs), .val (.int (3 : Int32)), .val (.int (2 : Int32)), .val (.ref rr_1), .val (.ref rr_3), .val (.ref rr_7), .val (.ref b238), .val (.ref b264), .val (.int (1 : Int32)), .unset] [(.ref b264)])) rfl (by rw [hml]; rfl) (Steps.refl _) (argsL := []) (rest := []) (lenOf pd___Ljava_lang_String_ rfl) rfl (by show 2 * 0 + _ ≤ _; exact Nat.le_of_eq rfl) (hb hby at_173) (fun _ _ => ⟨rfl, eq292, (by exact Nat.le_of_ble_eq_true rfl), (by exact Nat.le_of_ble_eq_true rfl)⟩)
      dsimp only [Pt.U, Pt.locs, Pt.cells, Pt.slots] at X305 l305 y305 z305 st305 hQ305
      subst l305 y305 z305
      obtain ⟨rfl, Nq305, Kq305, f306, f307⟩ := hQ305
      have N305 := Fr.app N292 Nq305
      refine Go.tr st305 ?_
      have f308 : Exa Z T305.heap rr_1 "java/lang/String" := f281.keep Kq305
      have f309 : Exa Z T305.heap rr_3 "java/lang/String" := f282.keep Kq305
      have f310 : Exa Z T305.heap rr_7 "java/lang/String" := f283.keep Kq305
      have f311 : Exa Z T305.heap b238 "[Ljava/lang/String;" := f284.keep Kq305
      have f312 : Arv Z T305.heap b238 k238 (.object "java/lang/String") (3 : Int32) [(.ref rr_1), (.ref rr_3), (.ref rr_7)] .null := f285.keep Kq305 (ninS ne268 nin0)
      have f313 : Exa Z T305.heap b264 "com/example/reportwire/reportwire/Arguments" := f286.keep Kq305
      have f314 : Arv Z T305.heap na_277 kn_277 (.object "java/lang/String") (3 : Int32) [(.ref rr_1), (.ref rr_3), (.ref rr_7)] .null := f280.keep Kq305 (ninS (Ne.symm ne291) nin0)
      have O305 : Old Z n0 T305.heap := O277.keep Kq305 (allS g_b264 all0)
      show Go p e below s _ _ _ (T305.setTop (mkF m 176 #[.val (.int size), .val (.int steps), .val (.int chs), .val (.int (3 : Int32)), .val (.int (2 : Int32)), .val (.ref rr_1), .val (.ref rr_3), .val (.ref rr_7), .val (.ref b238), .val (.ref b264), .val (.int (1 : Int32)), .unset] [(.ref rr_1)]))
      refine Go.st (fun _ k' => XS.astore X305.here hx rfl (hb hby at_176) rfl rfl (l' := #[.val (.int size), .val (.int steps), .val (.int chs), .val (.int (3 : Int32)), .val (.int (2 : Int32)), .val (.ref rr_1), .val (.ref rr_3), .val (.ref rr_7), .val (.ref b238), .val (.ref b264), .val (.int (1 : Int32)), .val (.ref rr_1)]) rfl k') ?_
      show Go p e below s _ _ _ (T305.setTop (mkF m 178 #[.val (.int size), .val (.int steps), .val (.int chs), .val (.int (3 : Int32)), .val (.int (2 : Int32)), .val (.ref rr_1), .val (.ref rr_3), .val (.ref rr_7), .val (.ref b238), .val (.ref b264), .val (.int (1 : Int32)), .val (.ref rr_1)] []))
      refine Go.st (fun _ k' => XS.aload X305.here hx rfl (hb hby at_178) rfl rfl k') ?_
      show Go p e below s _ _ _ (T305.setTop (mkF m 180 #[.val (.int size), .val (.int steps), .val (.int chs), .val (.int (3 : Int32)), .val (.int (2 : Int32)), .val (.ref rr_1), .val (.ref rr_3), .val (.ref rr_7), .val (.ref b238), .val (.ref b264), .val (.int (1 : Int32)), .val (.ref rr_1)] [(.ref rr_1)]))
      refine Go.st (fun _ k' => XS.aload X305.here hx rfl (hb hby at_180) rfl rfl k') ?_
      show Go p e below s _ _ _ (T305.setTop (mkF m 182 #[.val (.int size), .val (.int steps), .val (.int chs), .val (.int (3 : Int32)), .val (.int (2 : Int32)), .val (.ref rr_1), .val (.ref rr_3), .val (.ref rr_7), .val (.ref b238), .val (.ref b264), .val (.int (1 : Int32)), .val (.ref rr_1)] [(.ref rr_1), (.ref rr_1)]))
      obtain ⟨cq315, kq315, q315a, q315b, q315c⟩ := isOf hZ rfl f308
      obtain ⟨_, _, ⟨T315, L315, k315, n315⟩, -, X315, ⟨Lc315, hQ315, l315, y315, z315⟩, st315⟩ := X305.virtualBack hx (y := (⟨"java/lang/String", "equals", "(Ljava/lang/Object;)Z"⟩ : MethodName)) (z := (⟨"java/lang/String", "equals", "(Ljava/lang/Object;)Z"⟩ : MethodName)) hown (mvT hZ (wdx hw 104 rfl)) (mvT hZ (wdx hw 105 rfl)) (notFace_of_selects (args := #[]) (mvT hZ (wdx hw 107 rfl))) (mvT hZ (wdx hw 107 rfl)) (mvT hZ (wdx hw 106 rfl)) (by decide) (backOf (W := 0) (rm15 l Z a0 hw [] rr_1 T305.heap n0 O305 ) hZ (wdx hw 108 rfl) (wdx hw 2 rfl) (by decide) (by decide)) q315a q315c (g := (mkF m 182 #[.val (.int size), .val (.int steps), .val (.int chs), .val (.int (3 : Int32)), .val (.int (2 : Int32)), .val (.ref rr_1), .val (.ref rr_3), .val (.ref rr_7), .val (.ref b238), .val (.ref b264), .val (.int (1 : Int32)), .val (.ref rr_1)] [(.ref rr_1), (.ref rr_1)])) rfl (by rw [hml]; rfl) (Steps.refl _) (argsL := [(.ref rr_1)]) (rest := []) (lenOf pd__Ljava_lang_Object__Z rfl) rfl (by show 2 * 0 + _ ≤ _; exact Nat.le_of_eq rfl) (hb hby at_182) (fun _ _ => ⟨rfl, rfl, (by exact Nat.le_of_ble_eq_true rfl), (by exact Nat.le_of_ble_eq_true rfl)⟩)
      dsimp only [Pt.U, Pt.locs, Pt.cells, Pt.slots] at X315 l315 y315 z315 st315 hQ315
      subst l315 y315 z315
      obtain ⟨rfl, Nq315, eq315⟩ := hQ315
      have N315 := Fr.app N305 Nq315
      refine Go.tr st315 ?_
      show Go p e below s _ _ _ (T315.setTop (mkF m 185 #[.val (.int size), .val (.int steps), .val (.int chs), .val (.int (3 : Int32)), .val (.int (2 : Int32)), .val (.ref rr_1), .val (.ref rr_3), .val (.ref rr_7), .val (.ref b238), .val (.ref b264), .val (.int (1 : Int32)), .val (.ref rr_1)] [(.int (1 : Int32))]))
      refine Go.st (fun _ k' => XS.ifNo X315.here hx rfl (hb hby at_185) rfl (XT.i0_eq_f (by decide)) k') ?_
      show Go p e below s _ _ _ (T315.setTop (mkF m 188 #[.val (.int size), .val (.int steps), .val (.int chs), .val (.int (3 : Int32)), .val (.int (2 : Int32)), .val (.ref rr_1), .val (.ref rr_3), .val (.ref rr_7), .val (.ref b238), .val (.ref b264), .val (.int (1 : Int32)), .val (.ref rr_1)] []))
      refine Go.st (fun _ k' => XS.iload X315.here hx rfl (hb hby at_188) rfl k') ?_
      show Go p e below s _ _ _ (T315.setTop (mkF m 190 #[.val (.int size), .val (.int steps), .val (.int chs), .val (.int (3 : Int32)), .val (.int (2 : Int32)), .val (.ref rr_1), .val (.ref rr_3), .val (.ref rr_7), .val (.ref b238), .val (.ref b264), .val (.int (1 : Int32)), .val (.ref rr_1)] [(.int (1 : Int32))]))
      refine Go.st (fun _ k' => XS.ifNo X315.here hx rfl (hb hby at_190) rfl (XT.i0_eq_f (by decide)) k') ?_
      show Go p e below s _ _ _ (T315.setTop (mkF m 193 #[.val (.int size), .val (.int steps), .val (.int chs), .val (.int (3 : Int32)), .val (.int (2 : Int32)), .val (.ref rr_1), .val (.ref rr_3), .val (.ref rr_7), .val (.ref b238), .val (.ref b264), .val (.int (1 : Int32)), .val (.ref rr_1)] []))
      refine Go.st (fun _ k' => XS.iconst X315.here hx rfl (hb hby at_193) k') ?_
      show Go p e below s _ _ _ (T315.setTop (mkF m 194 #[.val (.int size), .val (.int steps), .val (.int chs), .val (.int (3 : Int32)), .val (.int (2 : Int32)), .val (.ref rr_1), .val (.ref rr_3), .val (.ref rr_7), .val (.ref b238), .val (.ref b264), .val (.int (1 : Int32)), .val (.ref rr_1)] [(.int (1 : Int32))]))
      refine Go.st (fun _ k' => XS.goto X315.here hx rfl (pc0 := 194) (pc' := 198) rfl (hb hby at_194) (by decide) (by decide) k') ?_
      show Go p e below s _ _ _ (T315.setTop (mkF m 198 #[.val (.int size), .val (.int steps), .val (.int chs), .val (.int (3 : Int32)), .val (.int (2 : Int32)), .val (.ref rr_1), .val (.ref rr_3), .val (.ref rr_7), .val (.ref b238), .val (.ref b264), .val (.int (1 : Int32)), .val (.ref rr_1)] [(.int (1 : Int32))]))
      refine Go.st (fun _ k' => XS.istore X315.here hx rfl (hb hby at_198) rfl (l' := #[.val (.int size), .val (.int steps), .val (.int chs), .val (.int (3 : Int32)), .val (.int (2 : Int32)), .val (.ref rr_1), .val (.ref rr_3), .val (.ref rr_7), .val (.ref b238), .val (.ref b264), .val (.int (1 : Int32)), .val (.ref rr_1)]) rfl k') ?_
      show Go p e below s _ _ _ (T315.setTop (mkF m 200 #[.val (.int size), .val (.int steps), .val (.int chs), .val (.int (3 : Int32)), .val (.int (2 : Int32)), .val (.ref rr_1), .val (.ref rr_3), .val (.ref rr_7), .val (.ref b238), .val (.ref b264), .val (.int (1 : Int32)), .val (.ref rr_1)] []))
      refine Go.st (fun _ k' => XS.aload X315.here hx rfl (hb hby at_200) rfl rfl k') ?_
      show Go p e below s _ _ _ (T315.setTop (mkF m 202 #[.val (.int size), .val (.int steps), .val (.int chs), .val (.int (3 : Int32)), .val (.int (2 : Int32)), .val (.ref rr_1), .val (.ref rr_3), .val (.ref rr_7), .val (.ref b238), .val (.ref b264), .val (.int (1 : Int32)), .val (.ref rr_1)] [(.ref b264)]))
      obtain ⟨cq316, kq316, q316a, q316b, q316c⟩ := isOf hZ eq315 f313
      obtain ⟨_, _, ⟨T316, L316, k316, n316⟩, -, X316, ⟨Lc316, hQ316, l316, y316, z316⟩, st316⟩ := X315.virtualBack hx (y := (⟨"com/example/reportwire/reportwire/Arguments", "hasNext", "()Z"⟩ : MethodName)) (z := (⟨"com/example/reportwire/reportwire/Arguments", "hasNext", "()Z"⟩ : MethodName)) hown (mvT hZ (wdx hw 86 rfl)) (mvT hZ (wdx hw 87 rfl)) (notFace_of_selects (args := #[]) (mvT hZ (wdx hw 89 rfl))) (mvT hZ (wdx hw 89 rfl)) (mvT hZ (wdx hw 88 rfl)) (by decide) (backOf (W := 0) (rm12_3_1 l Z a0 hw [] b264 na_277 kn_277 rr_1 rr_3 rr_7 T305.heap n0 O305 f306 f307 f314) hZ (wdx hw 90 rfl) (wdx hw 30 rfl) (by decide) (by decide)) q316a q316c (g := (mkF m 202 #[.val (.int size), .val (.int steps), .val (.int chs), .val (.int (3 : Int32)), .val (.int (2 : Int32)), .val (.ref rr_1), .val (.ref rr_3), .val (.ref rr_7), .val (.ref b238), .val (.ref b264), .val (.int (1 : Int32)), .val (.ref rr_1)] [(.ref b264)])) rfl (by rw [hml]; rfl) (Steps.refl _) (argsL := []) (rest := []) (lenOf pd___Z rfl) rfl (by show 2 * 0 + _ ≤ _; exact Nat.le_of_eq rfl) (hb hby at_202) (fun _ _ => ⟨rfl, eq315, (by exact Nat.le_of_ble_eq_true rfl), (by exact Nat.le_of_ble_eq_true rfl)⟩)
      dsimp only [Pt.U, Pt.locs, Pt.cells, Pt.slots] at X316 l316 y316 z316 st316 hQ316
      subst l316 y316 z316
      obtain ⟨rfl, Nq316, eq316⟩ := hQ316
      have N316 := Fr.app N315 Nq316
      refine Go.tr st316 ?_
      show Go p e below s _ _ _ (T316.setTop (mkF m 205 #[.val (.int size), .val (.int steps), .val (.int chs), .val (.int (3 : Int32)), .val (.int (2 : Int32)), .val (.ref rr_1), .val (.ref rr_3), .val (.ref rr_7), .val (.ref b238), .val (.ref b264), .val (.int (1 : Int32)), .val (.ref rr_1)] [(.int (1 : Int32))]))
      refine Go.st (fun _ k' => XS.iloadN X316.here hx rfl (hb hby at_205) rfl k') ?_
      show Go p e below s _ _ _ (T316.setTop (mkF m 206 #[.val (.int size), .val (.int steps), .val (.int chs), .val (.int (3 : Int32)), .val (.int (2 : Int32)), .val (.ref rr_1), .val (.ref rr_3), .val (.ref rr_7), .val (.ref b238), .val (.ref b264), .val (.int (1 : Int32)), .val (.ref rr_1)] [(.int (3 : Int32)), (.int (1 : Int32))]))
      refine Go.st (fun _ k' => XS.iconst X316.here hx rfl (hb hby at_206) k') ?_
      show Go p e below s _ _ _ (T316.setTop (mkF m 207 #[.val (.int size), .val (.int steps), .val (.int chs), .val (.int (3 : Int32)), .val (.int (2 : Int32)), .val (.ref rr_1), .val (.ref rr_3), .val (.ref rr_7), .val (.ref b238), .val (.ref b264), .val (.int (1 : Int32)), .val (.ref rr_1)] [(.int (1 : Int32)), (.int (3 : Int32)), (.int (1 : Int32))]))
      refine Go.st (fun _ k' => XS.icmpNo X316.here hx rfl (hb hby at_207) rfl (XT.ii_le_f (by decide)) k') ?_
      show Go p e below s _ _ _ (T316.setTop (mkF m 210 #[.val (.int size), .val (.int steps), .val (.int chs), .val (.int (3 : Int32)), .val (.int (2 : Int32)), .val (.ref rr_1), .val (.ref rr_3), .val (.ref rr_7), .val (.ref b238), .val (.ref b264), .val (.int (1 : Int32)), .val (.ref rr_1)] [(.int (1 : Int32))]))
      refine Go.st (fun _ k' => XS.iconst X316.here hx rfl (hb hby at_210) k') ?_
      show Go p e below s _ _ _ (T316.setTop (mkF m 211 #[.val (.int size), .val (.int steps), .val (.int chs), .val (.int (3 : Int32)), .val (.int (2 : Int32)), .val (.ref rr_1), .val (.ref rr_3), .val (.ref rr_7), .val (.ref b238), .val (.ref b264), .val (.int (1 : Int32)), .val (.ref rr_1)] [(.int (1 : Int32)), (.int (1 : Int32))]))
      refine Go.st (fun _ k' => XS.goto X316.here hx rfl (pc0 := 211) (pc' := 215) rfl (hb hby at_211) (by decide) (by decide) k') ?_
      show Go p e below s _ _ _ (T316.setTop (mkF m 215 #[.val (.int size), .val (.int steps), .val (.int chs), .val (.int (3 : Int32)), .val (.int (2 : Int32)), .val (.ref rr_1), .val (.ref rr_3), .val (.ref rr_7), .val (.ref b238), .val (.ref b264), .val (.int (1 : Int32)), .val (.ref rr_1)] [(.int (1 : Int32)), (.int (1 : Int32))]))
      refine Go.st (fun _ k' => XS.icmpNo X316.here hx rfl (hb hby at_215) rfl (XT.ii_ne_f (by decide)) k') ?_
      show Go p e below s _ _ _ (T316.setTop (mkF m 218 #[.val (.int size), .val (.int steps), .val (.int chs), .val (.int (3 : Int32)), .val (.int (2 : Int32)), .val (.ref rr_1), .val (.ref rr_3), .val (.ref rr_7), .val (.ref b238), .val (.ref b264), .val (.int (1 : Int32)), .val (.ref rr_1)] []))
      refine Go.st (fun _ k' => XS.iload X316.here hx rfl (hb hby at_218) rfl k') ?_
      show Go p e below s _ _ _ (T316.setTop (mkF m 220 #[.val (.int size), .val (.int steps), .val (.int chs), .val (.int (3 : Int32)), .val (.int (2 : Int32)), .val (.ref rr_1), .val (.ref rr_3), .val (.ref rr_7), .val (.ref b238), .val (.ref b264), .val (.int (1 : Int32)), .val (.ref rr_1)] [(.int (1 : Int32))]))
      refine Go.st (fun _ k' => XS.ifNo X316.here hx rfl (hb hby at_220) rfl (XT.i0_eq_f (by decide)) k') ?_
      show Go p e below s _ _ _ (T316.setTop (mkF m 223 #[.val (.int size), .val (.int steps), .val (.int chs), .val (.int (3 : Int32)), .val (.int (2 : Int32)), .val (.ref rr_1), .val (.ref rr_3), .val (.ref rr_7), .val (.ref b238), .val (.ref b264), .val (.int (1 : Int32)), .val (.ref rr_1)] []))
      refine Go.st (fun _ k' => XS.iconst X316.here hx rfl (hb hby at_223) k') ?_
      show Go p e below s _ _ _ (T316.setTop (mkF m 224 #[.val (.int size), .val (.int steps), .val (.int chs), .val (.int (3 : Int32)), .val (.int (2 : Int32)), .val (.ref rr_1), .val (.ref rr_3), .val (.ref rr_7), .val (.ref b238), .val (.ref b264), .val (.int (1 : Int32)), .val (.ref rr_1)] [(.int (1 : Int32))]))
      refine Go.st (fun _ k' => XS.goto X316.here hx rfl (pc0 := 224) (pc' := 228) rfl (hb hby at_224) (by decide) (by decide) k') ?_
      show Go p e below s _ _ _ (T316.setTop (mkF m 228 #[.val (.int size), .val (.int steps), .val (.int chs), .val (.int (3 : Int32)), .val (.int (2 : Int32)), .val (.ref rr_1), .val (.ref rr_3), .val (.ref rr_7), .val (.ref b238), .val (.ref b264), .val (.int (1 : Int32)), .val (.ref rr_1)] [(.int (1 : Int32))]))
      refine Go.st (fun _ k' => XS.istore X316.here hx rfl (hb hby at_228) rfl (l' := #[.val (.int size), .val (.int steps), .val (.int chs), .val (.int (3 : Int32)), .val (.int (2 : Int32)), .val (.ref rr_1), .val (.ref rr_3), .val (.ref rr_7), .val (.ref b238), .val (.ref b264), .val (.int (1 : Int32)), .val (.ref rr_1)]) rfl k') ?_
      show Go p e below s _ _ _ (T316.setTop (mkF m 230 #[.val (.int size), .val (.int steps), .val (.int chs), .val (.int (3 : Int32)), .val (.int (2 : Int32)), .val (.ref rr_1), .val (.ref rr_3), .val (.ref rr_7), .val (.ref b238), .val (.ref b264), .val (.int (1 : Int32)), .val (.ref rr_1)] []))
      refine Go.st (fun _ k' => XS.iload X316.here hx rfl (hb hby at_230) rfl k') ?_
      show Go p e below s _ _ _ (T316.setTop (mkF m 232 #[.val (.int size), .val (.int steps), .val (.int chs), .val (.int (3 : Int32)), .val (.int (2 : Int32)), .val (.ref rr_1), .val (.ref rr_3), .val (.ref rr_7), .val (.ref b238), .val (.ref b264), .val (.int (1 : Int32)), .val (.ref rr_1)] [(.int (2 : Int32))]))
      refine Go.st (fun _ k' => XS.iconst X316.here hx rfl (hb hby at_232) k') ?_
      show Go p e below s _ _ _ (T316.setTop (mkF m 233 #[.val (.int size), .val (.int steps), .val (.int chs), .val (.int (3 : Int32)), .val (.int (2 : Int32)), .val (.ref rr_1), .val (.ref rr_3), .val (.ref rr_7), .val (.ref b238), .val (.ref b264), .val (.int (1 : Int32)), .val (.ref rr_1)] [(.int (2 : Int32)), (.int (2 : Int32))]))
      refine Go.st (fun _ k' => XS.icmpNo X316.here hx rfl (hb hby at_233) rfl (XT.ii_lt_f (by decide)) k') ?_
      show Go p e below s _ _ _ (T316.setTop (mkF m 236 #[.val (.int size), .val (.int steps), .val (.int chs), .val (.int (3 : Int32)), .val (.int (2 : Int32)), .val (.ref rr_1), .val (.ref rr_3), .val (.ref rr_7), .val (.ref b238), .val (.ref b264), .val (.int (1 : Int32)), .val (.ref rr_1)] []))
      refine Go.st (fun _ k' => XS.iloadN X316.here hx rfl (hb hby at_236) rfl k') ?_
      show Go p e below s _ _ _ (T316.setTop (mkF m 237 #[.val (.int size), .val (.int steps), .val (.int chs), .val (.int (3 : Int32)), .val (.int (2 : Int32)), .val (.ref rr_1), .val (.ref rr_3), .val (.ref rr_7), .val (.ref b238), .val (.ref b264), .val (.int (1 : Int32)), .val (.ref rr_1)] [(.int (3 : Int32))]))
      refine Go.st (fun _ k' => XS.iconst X316.here hx rfl (hb hby at_237) k') ?_
      show Go p e below s _ _ _ (T316.setTop (mkF m 238 #[.val (.int size), .val (.int steps), .val (.int chs), .val (.int (3 : Int32)), .val (.int (2 : Int32)), .val (.ref rr_1), .val (.ref rr_3), .val (.ref rr_7), .val (.ref b238), .val (.ref b264), .val (.int (1 : Int32)), .val (.ref rr_1)] [(.int (2 : Int32)), (.int (3 : Int32))]))
      refine Go.st (fun _ k' => XS.icmpNo X316.here hx rfl (hb hby at_238) rfl (XT.ii_lt_f (by decide)) k') ?_
      show Go p e below s _ _ _ (T316.setTop (mkF m 241 #[.val (.int size), .val (.int steps), .val (.int chs), .val (.int (3 : Int32)), .val (.int (2 : Int32)), .val (.ref rr_1), .val (.ref rr_3), .val (.ref rr_7), .val (.ref b238), .val (.ref b264), .val (.int (1 : Int32)), .val (.ref rr_1)] []))
      refine Go.st (fun _ k' => XS.aload X316.here hx rfl (hb hby at_241) rfl rfl k') ?_
      show Go p e below s _ _ _ (T316.setTop (mkF m 243 #[.val (.int size), .val (.int steps), .val (.int chs), .val (.int (3 : Int32)), .val (.int (2 : Int32)), .val (.ref rr_1), .val (.ref rr_3), .val (.ref rr_7), .val (.ref b238), .val (.ref b264), .val (.int (1 : Int32)), .val (.ref rr_1)] [(.ref b264)]))
      obtain ⟨cq317, kq317, q317a, q317b, q317c⟩ := isOf hZ eq316 f313
      obtain ⟨_, _, ⟨T317, L317, k317, n317⟩, -, X317, ⟨Lc317, hQ317, l317, y317, z317⟩, st317⟩ := X316.virtualBack hx (y := (⟨"com/example/reportwire/reportwire/Arguments", "next", "()Ljava/lang/String;"⟩ : MethodName)) (z := (⟨"com/example/reportwire/reportwire/Arguments", "next", "()Ljava/lang/String;"⟩ : MethodName)) hown (mvT hZ (wdx hw 93 rfl)) (mvT hZ (wdx hw 94 rfl)) (notFace_of_selects (args := #[]) (mvT hZ (wdx hw 96 rfl))) (mvT hZ (wdx hw 96 rfl)) (mvT hZ (wdx hw 95 rfl)) (by decide) (backOf (W := 0) (rm13_3_1 l Z a0 hw [] b264 na_277 kn_277 rr_1 rr_3 rr_7 T305.heap n0 O305 f313 f306 f307 f314 g_b264 ne291) hZ (wdx hw 97 rfl) (wdx hw 30 rfl) (by decide) (by decide)) q317a q317c (g := (mkF m 243 #[.val (.int size), .val (.int steps), .val (.int chs), .val (.int (3 : Int32)), .val (.int (2 : Int32)), .val (.ref rr_1), .val (.ref rr_3), .val (.ref rr_7), .val (.ref b238), .val (.ref b264), .val (.int (1 : Int32)), .val (.ref rr_1)] [(.ref b264)])) rfl (by rw [hml]; rfl) (Steps.refl _) (argsL := []) (rest := []) (lenOf pd___Ljava_lang_String_ rfl) rfl (by show 2 * 0 + _ ≤ _; exact Nat.le_of_eq rfl) (hb hby at_243) (fun _ _ => ⟨rfl, eq316, (by exact Nat.le_of_ble_eq_true rfl), (by exact Nat.le_of_ble_eq_true rfl)⟩)
      dsimp only [Pt.U, Pt.locs, Pt.cells, Pt.slots] at X317 l317 y317 z317 st317 hQ317
      subst l317 y317 z317
      obtain ⟨rfl, Nq317, Kq317, f318, f319⟩ := hQ317
      have N317 := Fr.app N316 Nq317
      refine Go.tr st317 ?_
      have f320 : Exa Z T317.heap rr_1 "java/lang/String" := f308.keep Kq317
      have f321 : Exa Z T317.heap rr_3 "java/lang/String" := f309.keep Kq317
      have f322 : Exa Z T317.heap rr_7 "java/lang/String" := f310.keep Kq317
      have f323 : Exa Z T317.heap b238 "[Ljava/lang/String;" := f311.keep Kq317
      have f324 : Arv Z T317.heap b238 k238 (.object "java/lang/String") (3 : Int32) [(.ref rr_1), (.ref rr_3), (.ref rr_7)] .null := f312.keep Kq317 (ninS ne268 nin0)
      have f325 : Exa Z T317.heap b264 "com/example/reportwire/reportwire/Arguments" := f313.keep Kq317
      have f326 : Arv Z T317.heap na_277 kn_277 (.object "java/lang/String") (3 : Int32) [(.ref rr_1), (.ref rr_3), (.ref rr_7)] .null := f314.keep Kq317 (ninS (Ne.symm ne291) nin0)
      have O317 : Old Z n0 T317.heap := O305.keep Kq317 (allS g_b264 all0)
      show Go p e below s _ _ _ (T317.setTop (mkF m 246 #[.val (.int size), .val (.int steps), .val (.int chs), .val (.int (3 : Int32)), .val (.int (2 : Int32)), .val (.ref rr_1), .val (.ref rr_3), .val (.ref rr_7), .val (.ref b238), .val (.ref b264), .val (.int (1 : Int32)), .val (.ref rr_1)] [(.ref rr_3)]))
      refine Go.st (fun _ k' => XS.astore X317.here hx rfl (hb hby at_246) rfl rfl (l' := #[.val (.int size), .val (.int steps), .val (.int chs), .val (.int (3 : Int32)), .val (.int (2 : Int32)), .val (.ref rr_1), .val (.ref rr_3), .val (.ref rr_7), .val (.ref b238), .val (.ref b264), .val (.int (1 : Int32)), .val (.ref rr_3)]) rfl k') ?_
      show Go p e below s _ _ _ (T317.setTop (mkF m 248 #[.val (.int size), .val (.int steps), .val (.int chs), .val (.int (3 : Int32)), .val (.int (2 : Int32)), .val (.ref rr_1), .val (.ref rr_3), .val (.ref rr_7), .val (.ref b238), .val (.ref b264), .val (.int (1 : Int32)), .val (.ref rr_3)] []))
      refine Go.st (fun _ k' => XS.aload X317.here hx rfl (hb hby at_248) rfl rfl k') ?_
      show Go p e below s _ _ _ (T317.setTop (mkF m 250 #[.val (.int size), .val (.int steps), .val (.int chs), .val (.int (3 : Int32)), .val (.int (2 : Int32)), .val (.ref rr_1), .val (.ref rr_3), .val (.ref rr_7), .val (.ref b238), .val (.ref b264), .val (.int (1 : Int32)), .val (.ref rr_3)] [(.ref rr_3)]))
      refine Go.st (fun _ k' => XS.aload X317.here hx rfl (hb hby at_250) rfl rfl k') ?_
      show Go p e below s _ _ _ (T317.setTop (mkF m 252 #[.val (.int size), .val (.int steps), .val (.int chs), .val (.int (3 : Int32)), .val (.int (2 : Int32)), .val (.ref rr_1), .val (.ref rr_3), .val (.ref rr_7), .val (.ref b238), .val (.ref b264), .val (.int (1 : Int32)), .val (.ref rr_3)] [(.ref rr_3), (.ref rr_3)]))
      obtain ⟨cq327, kq327, q327a, q327b, q327c⟩ := isOf hZ rfl f321
      obtain ⟨_, _, ⟨T327, L327, k327, n327⟩, -, X327, ⟨Lc327, hQ327, l327, y327, z327⟩, st327⟩ := X317.virtualBack hx (y := (⟨"java/lang/String", "equals", "(Ljava/lang/Object;)Z"⟩ : MethodName)) (z := (⟨"java/lang/String", "equals", "(Ljava/lang/Object;)Z"⟩ : MethodName)) hown (mvT hZ (wdx hw 104 rfl)) (mvT hZ (wdx hw 105 rfl)) (notFace_of_selects (args := #[]) (mvT hZ (wdx hw 107 rfl))) (mvT hZ (wdx hw 107 rfl)) (mvT hZ (wdx hw 106 rfl)) (by decide) (backOf (W := 0) (rm15 l Z a0 hw [] rr_3 T317.heap n0 O317 ) hZ (wdx hw 108 rfl) (wdx hw 2 rfl) (by decide) (by decide)) q327a q327c (g := (mkF m 252 #[.val (.int size), .val (.int steps), .val (.int chs), .val (.int (3 : Int32)), .val (.int (2 : Int32)), .val (.ref rr_1), .val (.ref rr_3), .val (.ref rr_7), .val (.ref b238), .val (.ref b264), .val (.int (1 : Int32)), .val (.ref rr_3)] [(.ref rr_3), (.ref rr_3)])) rfl (by rw [hml]; rfl) (Steps.refl _) (argsL := [(.ref rr_3)]) (rest := []) (lenOf pd__Ljava_lang_Object__Z rfl) rfl (by show 2 * 0 + _ ≤ _; exact Nat.le_of_eq rfl) (hb hby at_252) (fun _ _ => ⟨rfl, rfl, (by exact Nat.le_of_ble_eq_true rfl), (by exact Nat.le_of_ble_eq_true rfl)⟩)
      dsimp only [Pt.U, Pt.locs, Pt.cells, Pt.slots] at X327 l327 y327 z327 st327 hQ327
      subst l327 y327 z327
      obtain ⟨rfl, Nq327, eq327⟩ := hQ327
      have N327 := Fr.app N317 Nq327
      refine Go.tr st327 ?_
      show Go p e below s _ _ _ (T327.setTop (mkF m 255 #[.val (.int size), .val (.int steps), .val (.int chs), .val (.int (3 : Int32)), .val (.int (2 : Int32)), .val (.ref rr_1), .val (.ref rr_3), .val (.ref rr_7), .val (.ref b238), .val (.ref b264), .val (.int (1 : Int32)), .val (.ref rr_3)] [(.int (1 : Int32))]))
      refine Go.st (fun _ k' => XS.ifNo X327.here hx rfl (hb hby at_255) rfl (XT.i0_eq_f (by decide)) k') ?_
      show Go p e below s _ _ _ (T327.setTop (mkF m 258 #[.val (.int size), .val (.int steps), .val (.int chs), .val (.int (3 : Int32)), .val (.int (2 : Int32)), .val (.ref rr_1), .val (.ref rr_3), .val (.ref rr_7), .val (.ref b238), .val (.ref b264), .val (.int (1 : Int32)), .val (.ref rr_3)] []))
      refine Go.st (fun _ k' => XS.iload X327.here hx rfl (hb hby at_258) rfl k') ?_
      show Go p e below s _ _ _ (T327.setTop (mkF m 260 #[.val (.int size), .val (.int steps), .val (.int chs), .val (.int (3 : Int32)), .val (.int (2 : Int32)), .val (.ref rr_1), .val (.ref rr_3), .val (.ref rr_7), .val (.ref b238), .val (.ref b264), .val (.int (1 : Int32)), .val (.ref rr_3)] [(.int (1 : Int32))]))
      refine Go.st (fun _ k' => XS.ifNo X327.here hx rfl (hb hby at_260) rfl (XT.i0_eq_f (by decide)) k') ?_
      show Go p e below s _ _ _ (T327.setTop (mkF m 263 #[.val (.int size), .val (.int steps), .val (.int chs), .val (.int (3 : Int32)), .val (.int (2 : Int32)), .val (.ref rr_1), .val (.ref rr_3), .val (.ref rr_7), .val (.ref b238), .val (.ref b264), .val (.int (1 : Int32)), .val (.ref rr_3)] []))
      refine Go.st (fun _ k' => XS.iconst X327.here hx rfl (hb hby at_263) k') ?_
      show Go p e below s _ _ _ (T327.setTop (mkF m 264 #[.val (.int size), .val (.int steps), .val (.int chs), .val (.int (3 : Int32)), .val (.int (2 : Int32)), .val (.ref rr_1), .val (.ref rr_3), .val (.ref rr_7), .val (.ref b238), .val (.ref b264), .val (.int (1 : Int32)), .val (.ref rr_3)] [(.int (1 : Int32))]))
      refine Go.st (fun _ k' => XS.goto X327.here hx rfl (pc0 := 264) (pc' := 268) rfl (hb hby at_264) (by decide) (by decide) k') ?_
      show Go p e below s _ _ _ (T327.setTop (mkF m 268 #[.val (.int size), .val (.int steps), .val (.int chs), .val (.int (3 : Int32)), .val (.int (2 : Int32)), .val (.ref rr_1), .val (.ref rr_3), .val (.ref rr_7), .val (.ref b238), .val (.ref b264), .val (.int (1 : Int32)), .val (.ref rr_3)] [(.int (1 : Int32))]))
      refine Go.st (fun _ k' => XS.istore X327.here hx rfl (hb hby at_268) rfl (l' := #[.val (.int size), .val (.int steps), .val (.int chs), .val (.int (3 : Int32)), .val (.int (2 : Int32)), .val (.ref rr_1), .val (.ref rr_3), .val (.ref rr_7), .val (.ref b238), .val (.ref b264), .val (.int (1 : Int32)), .val (.ref rr_3)]) rfl k') ?_
      show Go p e below s _ _ _ (T327.setTop (mkF m 270 #[.val (.int size), .val (.int steps), .val (.int chs), .val (.int (3 : Int32)), .val (.int (2 : Int32)), .val (.ref rr_1), .val (.ref rr_3), .val (.ref rr_7), .val (.ref b238), .val (.ref b264), .val (.int (1 : Int32)), .val (.ref rr_3)] []))
      refine Go.st (fun _ k' => XS.aload X327.here hx rfl (hb hby at_270) rfl rfl k') ?_
      show Go p e below s _ _ _ (T327.setTop (mkF m 272 #[.val (.int size), .val (.int steps), .val (.int chs), .val (.int (3 : Int32)), .val (.int (2 : Int32)), .val (.ref rr_1), .val (.ref rr_3), .val (.ref rr_7), .val (.ref b238), .val (.ref b264), .val (.int (1 : Int32)), .val (.ref rr_3)] [(.ref b264)]))
      obtain ⟨cq328, kq328, q328a, q328b, q328c⟩ := isOf hZ eq327 f325
      obtain ⟨_, _, ⟨T328, L328, k328, n328⟩, -, X328, ⟨Lc328, hQ328, l328, y328, z328⟩, st328⟩ := X327.virtualBack hx (y := (⟨"com/example/reportwire/reportwire/Arguments", "hasNext", "()Z"⟩ : MethodName)) (z := (⟨"com/example/reportwire/reportwire/Arguments", "hasNext", "()Z"⟩ : MethodName)) hown (mvT hZ (wdx hw 86 rfl)) (mvT hZ (wdx hw 87 rfl)) (notFace_of_selects (args := #[]) (mvT hZ (wdx hw 89 rfl))) (mvT hZ (wdx hw 89 rfl)) (mvT hZ (wdx hw 88 rfl)) (by decide) (backOf (W := 0) (rm12_3_2 l Z a0 hw [] b264 na_277 kn_277 rr_1 rr_3 rr_7 T317.heap n0 O317 f318 f319 f326) hZ (wdx hw 90 rfl) (wdx hw 30 rfl) (by decide) (by decide)) q328a q328c (g := (mkF m 272 #[.val (.int size), .val (.int steps), .val (.int chs), .val (.int (3 : Int32)), .val (.int (2 : Int32)), .val (.ref rr_1), .val (.ref rr_3), .val (.ref rr_7), .val (.ref b238), .val (.ref b264), .val (.int (1 : Int32)), .val (.ref rr_3)] [(.ref b264)])) rfl (by rw [hml]; rfl) (Steps.refl _) (argsL := []) (rest := []) (lenOf pd___Z rfl) rfl (by show 2 * 0 + _ ≤ _; exact Nat.le_of_eq rfl) (hb hby at_272) (fun _ _ => ⟨rfl, eq327, (by exact Nat.le_of_ble_eq_true rfl), (by exact Nat.le_of_ble_eq_true rfl)⟩)
      dsimp only [Pt.U, Pt.locs, Pt.cells, Pt.slots] at X328 l328 y328 z328 st328 hQ328
      subst l328 y328 z328
      obtain ⟨rfl, Nq328, eq328⟩ := hQ328
      have N328 := Fr.app N327 Nq328
      refine Go.tr st328 ?_
      show Go p e below s _ _ _ (T328.setTop (mkF m 275 #[.val (.int size), .val (.int steps), .val (.int chs), .val (.int (3 : Int32)), .val (.int (2 : Int32)), .val (.ref rr_1), .val (.ref rr_3), .val (.ref rr_7), .val (.ref b238), .val (.ref b264), .val (.int (1 : Int32)), .val (.ref rr_3)] [(.int (1 : Int32))]))
      refine Go.st (fun _ k' => XS.iloadN X328.here hx rfl (hb hby at_275) rfl k') ?_
      show Go p e below s _ _ _ (T328.setTop (mkF m 276 #[.val (.int size), .val (.int steps), .val (.int chs), .val (.int (3 : Int32)), .val (.int (2 : Int32)), .val (.ref rr_1), .val (.ref rr_3), .val (.ref rr_7), .val (.ref b238), .val (.ref b264), .val (.int (1 : Int32)), .val (.ref rr_3)] [(.int (3 : Int32)), (.int (1 : Int32))]))
      refine Go.st (fun _ k' => XS.iconst X328.here hx rfl (hb hby at_276) k') ?_
      show Go p e below s _ _ _ (T328.setTop (mkF m 277 #[.val (.int size), .val (.int steps), .val (.int chs), .val (.int (3 : Int32)), .val (.int (2 : Int32)), .val (.ref rr_1), .val (.ref rr_3), .val (.ref rr_7), .val (.ref b238), .val (.ref b264), .val (.int (1 : Int32)), .val (.ref rr_3)] [(.int (2 : Int32)), (.int (3 : Int32)), (.int (1 : Int32))]))
      refine Go.st (fun _ k' => XS.icmpNo X328.here hx rfl (hb hby at_277) rfl (XT.ii_le_f (by decide)) k') ?_
      show Go p e below s _ _ _ (T328.setTop (mkF m 280 #[.val (.int size), .val (.int steps), .val (.int chs), .val (.int (3 : Int32)), .val (.int (2 : Int32)), .val (.ref rr_1), .val (.ref rr_3), .val (.ref rr_7), .val (.ref b238), .val (.ref b264), .val (.int (1 : Int32)), .val (.ref rr_3)] [(.int (1 : Int32))]))
      refine Go.st (fun _ k' => XS.iconst X328.here hx rfl (hb hby at_280) k') ?_
      show Go p e below s _ _ _ (T328.setTop (mkF m 281 #[.val (.int size), .val (.int steps), .val (.int chs), .val (.int (3 : Int32)), .val (.int (2 : Int32)), .val (.ref rr_1), .val (.ref rr_3), .val (.ref rr_7), .val (.ref b238), .val (.ref b264), .val (.int (1 : Int32)), .val (.ref rr_3)] [(.int (1 : Int32)), (.int (1 : Int32))]))
      refine Go.st (fun _ k' => XS.goto X328.here hx rfl (pc0 := 281) (pc' := 285) rfl (hb hby at_281) (by decide) (by decide) k') ?_
      show Go p e below s _ _ _ (T328.setTop (mkF m 285 #[.val (.int size), .val (.int steps), .val (.int chs), .val (.int (3 : Int32)), .val (.int (2 : Int32)), .val (.ref rr_1), .val (.ref rr_3), .val (.ref rr_7), .val (.ref b238), .val (.ref b264), .val (.int (1 : Int32)), .val (.ref rr_3)] [(.int (1 : Int32)), (.int (1 : Int32))]))
      refine Go.st (fun _ k' => XS.icmpNo X328.here hx rfl (hb hby at_285) rfl (XT.ii_ne_f (by decide)) k') ?_
      show Go p e below s _ _ _ (T328.setTop (mkF m 288 #[.val (.int size), .val (.int steps), .val (.int chs), .val (.int (3 : Int32)), .val (.int (2 : Int32)), .val (.ref rr_1), .val (.ref rr_3), .val (.ref rr_7), .val (.ref b238), .val (.ref b264), .val (.int (1 : Int32)), .val (.ref rr_3)] []))
      refine Go.st (fun _ k' => XS.iload X328.here hx rfl (hb hby at_288) rfl k') ?_
      show Go p e below s _ _ _ (T328.setTop (mkF m 290 #[.val (.int size), .val (.int steps), .val (.int chs), .val (.int (3 : Int32)), .val (.int (2 : Int32)), .val (.ref rr_1), .val (.ref rr_3), .val (.ref rr_7), .val (.ref b238), .val (.ref b264), .val (.int (1 : Int32)), .val (.ref rr_3)] [(.int (1 : Int32))]))
      refine Go.st (fun _ k' => XS.ifNo X328.here hx rfl (hb hby at_290) rfl (XT.i0_eq_f (by decide)) k') ?_
      show Go p e below s _ _ _ (T328.setTop (mkF m 293 #[.val (.int size), .val (.int steps), .val (.int chs), .val (.int (3 : Int32)), .val (.int (2 : Int32)), .val (.ref rr_1), .val (.ref rr_3), .val (.ref rr_7), .val (.ref b238), .val (.ref b264), .val (.int (1 : Int32)), .val (.ref rr_3)] []))
      refine Go.st (fun _ k' => XS.iconst X328.here hx rfl (hb hby at_293) k') ?_
      show Go p e below s _ _ _ (T328.setTop (mkF m 294 #[.val (.int size), .val (.int steps), .val (.int chs), .val (.int (3 : Int32)), .val (.int (2 : Int32)), .val (.ref rr_1), .val (.ref rr_3), .val (.ref rr_7), .val (.ref b238), .val (.ref b264), .val (.int (1 : Int32)), .val (.ref rr_3)] [(.int (1 : Int32))]))
      refine Go.st (fun _ k' => XS.goto X328.here hx rfl (pc0 := 294) (pc' := 298) rfl (hb hby at_294) (by decide) (by decide) k') ?_
      show Go p e below s _ _ _ (T328.setTop (mkF m 298 #[.val (.int size), .val (.int steps), .val (.int chs), .val (.int (3 : Int32)), .val (.int (2 : Int32)), .val (.ref rr_1), .val (.ref rr_3), .val (.ref rr_7), .val (.ref b238), .val (.ref b264), .val (.int (1 : Int32)), .val (.ref rr_3)] [(.int (1 : Int32))]))
      refine Go.st (fun _ k' => XS.istore X328.here hx rfl (hb hby at_298) rfl (l' := #[.val (.int size), .val (.int steps), .val (.int chs), .val (.int (3 : Int32)), .val (.int (2 : Int32)), .val (.ref rr_1), .val (.ref rr_3), .val (.ref rr_7), .val (.ref b238), .val (.ref b264), .val (.int (1 : Int32)), .val (.ref rr_3)]) rfl k') ?_
      show Go p e below s _ _ _ (T328.setTop (mkF m 300 #[.val (.int size), .val (.int steps), .val (.int chs), .val (.int (3 : Int32)), .val (.int (2 : Int32)), .val (.ref rr_1), .val (.ref rr_3), .val (.ref rr_7), .val (.ref b238), .val (.ref b264), .val (.int (1 : Int32)), .val (.ref rr_3)] []))
      refine Go.st (fun _ k' => XS.iload X328.here hx rfl (hb hby at_300) rfl k') ?_
      show Go p e below s _ _ _ (T328.setTop (mkF m 302 #[.val (.int size), .val (.int steps), .val (.int chs), .val (.int (3 : Int32)), .val (.int (2 : Int32)), .val (.ref rr_1), .val (.ref rr_3), .val (.ref rr_7), .val (.ref b238), .val (.ref b264), .val (.int (1 : Int32)), .val (.ref rr_3)] [(.int (2 : Int32))]))
      refine Go.st (fun _ k' => XS.iconst X328.here hx rfl (hb hby at_302) k') ?_
      show Go p e below s _ _ _ (T328.setTop (mkF m 303 #[.val (.int size), .val (.int steps), .val (.int chs), .val (.int (3 : Int32)), .val (.int (2 : Int32)), .val (.ref rr_1), .val (.ref rr_3), .val (.ref rr_7), .val (.ref b238), .val (.ref b264), .val (.int (1 : Int32)), .val (.ref rr_3)] [(.int (3 : Int32)), (.int (2 : Int32))]))
      refine Go.st (fun _ k' => XS.icmpYes X328.here hx rfl (pc0 := 303) (pc' := 360) rfl (hb hby at_303) rfl (XT.ii_lt_t (by decide)) (by decide) (by decide) k') ?_
      show Go p e below s _ _ _ (T328.setTop (mkF m 360 #[.val (.int size), .val (.int steps), .val (.int chs), .val (.int (3 : Int32)), .val (.int (2 : Int32)), .val (.ref rr_1), .val (.ref rr_3), .val (.ref rr_7), .val (.ref b238), .val (.ref b264), .val (.int (1 : Int32)), .val (.ref rr_3)] []))
      refine Go.st (fun _ k' => XS.iload X328.here hx rfl (hb hby at_360) rfl k') ?_
      show Go p e below s _ _ _ (T328.setTop (mkF m 362 #[.val (.int size), .val (.int steps), .val (.int chs), .val (.int (3 : Int32)), .val (.int (2 : Int32)), .val (.ref rr_1), .val (.ref rr_3), .val (.ref rr_7), .val (.ref b238), .val (.ref b264), .val (.int (1 : Int32)), .val (.ref rr_3)] [(.int (1 : Int32))]))
      refine Go.retB X328 hx hlk (t := .boolean) Bd.returns (by simp) (hb hby at_362) (by decide) (by decide) eq328 ?_
      exact ⟨rfl, N328, trivial⟩
    · rw [hi160]
      show Go p e below s _ _ _ (T292.setTop (mkF m 160 #[.val (.int size), .val (.int steps), .val (.int chs), .val (.int (3 : Int32)), .val (.int (3 : Int32)), .val (.ref rr_1), .val (.ref rr_3), .val (.ref rr_7), .val (.ref b238), .val (.ref b264), .val (.int (1 : Int32)), .unset] []))
      refine Go.st (fun _ k' => XS.iload X292.here hx rfl (hb hby at_160) rfl k') ?_
      show Go p e below s _ _ _ (T292.setTop (mkF m 162 #[.val (.int size), .val (.int steps), .val (.int chs), .val (.int (3 : Int32)), .val (.int (3 : Int32)), .val (.ref rr_1), .val (.ref rr_3), .val (.ref rr_7), .val (.ref b238), .val (.ref b264), .val (.int (1 : Int32)), .unset] [(.int (3 : Int32))]))
      refine Go.st (fun _ k' => XS.iconst X292.here hx rfl (hb hby at_162) k') ?_
      show Go p e below s _ _ _ (T292.setTop (mkF m 163 #[.val (.int size), .val (.int steps), .val (.int chs), .val (.int (3 : Int32)), .val (.int (3 : Int32)), .val (.ref rr_1), .val (.ref rr_3), .val (.ref rr_7), .val (.ref b238), .val (.ref b264), .val (.int (1 : Int32)), .unset] [(.int (1 : Int32)), (.int (3 : Int32))]))
      refine Go.st (fun _ k' => XS.icmpNo X292.here hx rfl (hb hby at_163) rfl (XT.ii_lt_f (by decide)) k') ?_
      show Go p e below s _ _ _ (T292.setTop (mkF m 166 #[.val (.int size), .val (.int steps), .val (.int chs), .val (.int (3 : Int32)), .val (.int (3 : Int32)), .val (.ref rr_1), .val (.ref rr_3), .val (.ref rr_7), .val (.ref b238), .val (.ref b264), .val (.int (1 : Int32)), .unset] []))
      refine Go.st (fun _ k' => XS.iloadN X292.here hx rfl (hb hby at_166) rfl k') ?_
      show Go p e below s _ _ _ (T292.setTop (mkF m 167 #[.val (.int size), .val (.int steps), .val (.int chs), .val (.int (3 : Int32)), .val (.int (3 : Int32)), .val (.ref rr_1), .val (.ref rr_3), .val (.ref rr_7), .val (.ref b238), .val (.ref b264), .val (.int (1 : Int32)), .unset] [(.int (3 : Int32))]))
      refine Go.st (fun _ k' => XS.iconst X292.here hx rfl (hb hby at_167) k') ?_
      show Go p e below s _ _ _ (T292.setTop (mkF m 168 #[.val (.int size), .val (.int steps), .val (.int chs), .val (.int (3 : Int32)), .val (.int (3 : Int32)), .val (.ref rr_1), .val (.ref rr_3), .val (.ref rr_7), .val (.ref b238), .val (.ref b264), .val (.int (1 : Int32)), .unset] [(.int (1 : Int32)), (.int (3 : Int32))]))
      refine Go.st (fun _ k' => XS.icmpNo X292.here hx rfl (hb hby at_168) rfl (XT.ii_lt_f (by decide)) k') ?_
      show Go p e below s _ _ _ (T292.setTop (mkF m 171 #[.val (.int size), .val (.int steps), .val (.int chs), .val (.int (3 : Int32)), .val (.int (3 : Int32)), .val (.ref rr_1), .val (.ref rr_3), .val (.ref rr_7), .val (.ref b238), .val (.ref b264), .val (.int (1 : Int32)), .unset] []))
      refine Go.st (fun _ k' => XS.aload X292.here hx rfl (hb hby at_171) rfl rfl k') ?_
      show Go p e below s _ _ _ (T292.setTop (mkF m 173 #[.val (.int size), .val (.int steps), .val (.int chs), .val (.int (3 : Int32)), .val (.int (3 : Int32)), .val (.ref rr_1), .val (.ref rr_3), .val (.ref rr_7), .val (.ref b238), .val (.ref b264), .val (.int (1 : Int32)), .unset] [(.ref b264)]))
      obtain ⟨cq329, kq329, q329a, q329b, q329c⟩ := isOf hZ eq292 f286
      obtain ⟨_, _, ⟨T329, L329, k329, n329⟩, -, X329, ⟨Lc329, hQ329, l329, y329, z329⟩, st329⟩ := X292.virtualBack hx (y := (⟨"com/example/reportwire/reportwire/Arguments", "next", "()Ljava/lang/String;"⟩ : MethodName)) (z := (⟨"com/example/reportwire/reportwire/Arguments", "next", "()Ljava/lang/String;"⟩ : MethodName)) hown (mvT hZ (wdx hw 93 rfl)) (mvT hZ (wdx hw 94 rfl)) (notFace_of_selects (args := #[]) (mvT hZ (wdx hw 96 rfl))) (mvT hZ (wdx hw 96 rfl)) (mvT hZ (wdx hw 95 rfl)) (by decide) (backOf (W := 0) (rm13_3_0 l Z a0 hw [] b264 na_277 kn_277 rr_1 rr_3 rr_7 T277.heap n0 O277 f286 f278 f279 f280 g_b264 ne291) hZ (wdx hw 97 rfl) (wdx hw 30 rfl) (by decide) (by decide)) q329a q329c (g := (mkF m 173 #[.val (.int size), .val (.int steps), .val (.int chs), .val (.int (3 : Int32)), .val (.int (3 : Int32)), .val (.ref rr_1), .val (.ref rr_3), .val (.ref rr_7), .val (.ref b238), .val (.ref b264), .val (.int (1 : Int32)), .unset] [(.ref b264)])) rfl (by rw [hml]; rfl) (Steps.refl _) (argsL := []) (rest := []) (lenOf pd___Ljava_lang_String_ rfl) rfl (by show 2 * 0 + _ ≤ _; exact Nat.le_of_eq rfl) (hb hby at_173) (fun _ _ => ⟨rfl, eq292, (by exact Nat.le_of_ble_eq_true rfl), (by exact Nat.le_of_ble_eq_true rfl)⟩)
      dsimp only [Pt.U, Pt.locs, Pt.cells, Pt.slots] at X329 l329 y329 z329 st329 hQ329
      subst l329 y329 z329
      obtain ⟨rfl, Nq329, Kq329, f330, f331⟩ := hQ329
      have N329 := Fr.app N292 Nq329
      refine Go.tr st329 ?_
      have f332 : Exa Z T329.heap rr_1 "java/lang/String" := f281.keep Kq329
      have f333 : Exa Z T329.heap rr_3 "java/lang/String" := f282.keep Kq329
      have f334 : Exa Z T329.heap rr_7 "java/lang/String" := f283.keep Kq329
      have f335 : Exa Z T329.heap b238 "[Ljava/lang/String;" := f284.keep Kq329
      have f336 : Arv Z T329.heap b238 k238 (.object "java/lang/String") (3 : Int32) [(.ref rr_1), (.ref rr_3), (.ref rr_7)] .null := f285.keep Kq329 (ninS ne268 nin0)
      have f337 : Exa Z T329.heap b264 "com/example/reportwire/reportwire/Arguments" := f286.keep Kq329
      have f338 : Arv Z T329.heap na_277 kn_277 (.object "java/lang/String") (3 : Int32) [(.ref rr_1), (.ref rr_3), (.ref rr_7)] .null := f280.keep Kq329 (ninS (Ne.symm ne291) nin0)
      have O329 : Old Z n0 T329.heap := O277.keep Kq329 (allS g_b264 all0)
      show Go p e below s _ _ _ (T329.setTop (mkF m 176 #[.val (.int size), .val (.int steps), .val (.int chs), .val (.int (3 : Int32)), .val (.int (3 : Int32)), .val (.ref rr_1), .val (.ref rr_3), .val (.ref rr_7), .val (.ref b238), .val (.ref b264), .val (.int (1 : Int32)), .unset] [(.ref rr_1)]))
      refine Go.st (fun _ k' => XS.astore X329.here hx rfl (hb hby at_176) rfl rfl (l' := #[.val (.int size), .val (.int steps), .val (.int chs), .val (.int (3 : Int32)), .val (.int (3 : Int32)), .val (.ref rr_1), .val (.ref rr_3), .val (.ref rr_7), .val (.ref b238), .val (.ref b264), .val (.int (1 : Int32)), .val (.ref rr_1)]) rfl k') ?_
      show Go p e below s _ _ _ (T329.setTop (mkF m 178 #[.val (.int size), .val (.int steps), .val (.int chs), .val (.int (3 : Int32)), .val (.int (3 : Int32)), .val (.ref rr_1), .val (.ref rr_3), .val (.ref rr_7), .val (.ref b238), .val (.ref b264), .val (.int (1 : Int32)), .val (.ref rr_1)] []))
      refine Go.st (fun _ k' => XS.aload X329.here hx rfl (hb hby at_178) rfl rfl k') ?_
      show Go p e below s _ _ _ (T329.setTop (mkF m 180 #[.val (.int size), .val (.int steps), .val (.int chs), .val (.int (3 : Int32)), .val (.int (3 : Int32)), .val (.ref rr_1), .val (.ref rr_3), .val (.ref rr_7), .val (.ref b238), .val (.ref b264), .val (.int (1 : Int32)), .val (.ref rr_1)] [(.ref rr_1)]))
      refine Go.st (fun _ k' => XS.aload X329.here hx rfl (hb hby at_180) rfl rfl k') ?_
      show Go p e below s _ _ _ (T329.setTop (mkF m 182 #[.val (.int size), .val (.int steps), .val (.int chs), .val (.int (3 : Int32)), .val (.int (3 : Int32)), .val (.ref rr_1), .val (.ref rr_3), .val (.ref rr_7), .val (.ref b238), .val (.ref b264), .val (.int (1 : Int32)), .val (.ref rr_1)] [(.ref rr_1), (.ref rr_1)]))
      obtain ⟨cq339, kq339, q339a, q339b, q339c⟩ := isOf hZ rfl f332
      obtain ⟨_, _, ⟨T339, L339, k339, n339⟩, -, X339, ⟨Lc339, hQ339, l339, y339, z339⟩, st339⟩ := X329.virtualBack hx (y := (⟨"java/lang/String", "equals", "(Ljava/lang/Object;)Z"⟩ : MethodName)) (z := (⟨"java/lang/String", "equals", "(Ljava/lang/Object;)Z"⟩ : MethodName)) hown (mvT hZ (wdx hw 104 rfl)) (mvT hZ (wdx hw 105 rfl)) (notFace_of_selects (args := #[]) (mvT hZ (wdx hw 107 rfl))) (mvT hZ (wdx hw 107 rfl)) (mvT hZ (wdx hw 106 rfl)) (by decide) (backOf (W := 0) (rm15 l Z a0 hw [] rr_1 T329.heap n0 O329 ) hZ (wdx hw 108 rfl) (wdx hw 2 rfl) (by decide) (by decide)) q339a q339c (g := (mkF m 182 #[.val (.int size), .val (.int steps), .val (.int chs), .val (.int (3 : Int32)), .val (.int (3 : Int32)), .val (.ref rr_1), .val (.ref rr_3), .val (.ref rr_7), .val (.ref b238), .val (.ref b264), .val (.int (1 : Int32)), .val (.ref rr_1)] [(.ref rr_1), (.ref rr_1)])) rfl (by rw [hml]; rfl) (Steps.refl _) (argsL := [(.ref rr_1)]) (rest := []) (lenOf pd__Ljava_lang_Object__Z rfl) rfl (by show 2 * 0 + _ ≤ _; exact Nat.le_of_eq rfl) (hb hby at_182) (fun _ _ => ⟨rfl, rfl, (by exact Nat.le_of_ble_eq_true rfl), (by exact Nat.le_of_ble_eq_true rfl)⟩)
      dsimp only [Pt.U, Pt.locs, Pt.cells, Pt.slots] at X339 l339 y339 z339 st339 hQ339
      subst l339 y339 z339
      obtain ⟨rfl, Nq339, eq339⟩ := hQ339
      have N339 := Fr.app N329 Nq339
      refine Go.tr st339 ?_
      show Go p e below s _ _ _ (T339.setTop (mkF m 185 #[.val (.int size), .val (.int steps), .val (.int chs), .val (.int (3 : Int32)), .val (.int (3 : Int32)), .val (.ref rr_1), .val (.ref rr_3), .val (.ref rr_7), .val (.ref b238), .val (.ref b264), .val (.int (1 : Int32)), .val (.ref rr_1)] [(.int (1 : Int32))]))
      refine Go.st (fun _ k' => XS.ifNo X339.here hx rfl (hb hby at_185) rfl (XT.i0_eq_f (by decide)) k') ?_
      show Go p e below s _ _ _ (T339.setTop (mkF m 188 #[.val (.int size), .val (.int steps), .val (.int chs), .val (.int (3 : Int32)), .val (.int (3 : Int32)), .val (.ref rr_1), .val (.ref rr_3), .val (.ref rr_7), .val (.ref b238), .val (.ref b264), .val (.int (1 : Int32)), .val (.ref rr_1)] []))
      refine Go.st (fun _ k' => XS.iload X339.here hx rfl (hb hby at_188) rfl k') ?_
      show Go p e below s _ _ _ (T339.setTop (mkF m 190 #[.val (.int size), .val (.int steps), .val (.int chs), .val (.int (3 : Int32)), .val (.int (3 : Int32)), .val (.ref rr_1), .val (.ref rr_3), .val (.ref rr_7), .val (.ref b238), .val (.ref b264), .val (.int (1 : Int32)), .val (.ref rr_1)] [(.int (1 : Int32))]))
      refine Go.st (fun _ k' => XS.ifNo X339.here hx rfl (hb hby at_190) rfl (XT.i0_eq_f (by decide)) k') ?_
      show Go p e below s _ _ _ (T339.setTop (mkF m 193 #[.val (.int size), .val (.int steps), .val (.int chs), .val (.int (3 : Int32)), .val (.int (3 : Int32)), .val (.ref rr_1), .val (.ref rr_3), .val (.ref rr_7), .val (.ref b238), .val (.ref b264), .val (.int (1 : Int32)), .val (.ref rr_1)] []))
      refine Go.st (fun _ k' => XS.iconst X339.here hx rfl (hb hby at_193) k') ?_
      show Go p e below s _ _ _ (T339.setTop (mkF m 194 #[.val (.int size), .val (.int steps), .val (.int chs), .val (.int (3 : Int32)), .val (.int (3 : Int32)), .val (.ref rr_1), .val (.ref rr_3), .val (.ref rr_7), .val (.ref b238), .val (.ref b264), .val (.int (1 : Int32)), .val (.ref rr_1)] [(.int (1 : Int32))]))
      refine Go.st (fun _ k' => XS.goto X339.here hx rfl (pc0 := 194) (pc' := 198) rfl (hb hby at_194) (by decide) (by decide) k') ?_
      show Go p e below s _ _ _ (T339.setTop (mkF m 198 #[.val (.int size), .val (.int steps), .val (.int chs), .val (.int (3 : Int32)), .val (.int (3 : Int32)), .val (.ref rr_1), .val (.ref rr_3), .val (.ref rr_7), .val (.ref b238), .val (.ref b264), .val (.int (1 : Int32)), .val (.ref rr_1)] [(.int (1 : Int32))]))
      refine Go.st (fun _ k' => XS.istore X339.here hx rfl (hb hby at_198) rfl (l' := #[.val (.int size), .val (.int steps), .val (.int chs), .val (.int (3 : Int32)), .val (.int (3 : Int32)), .val (.ref rr_1), .val (.ref rr_3), .val (.ref rr_7), .val (.ref b238), .val (.ref b264), .val (.int (1 : Int32)), .val (.ref rr_1)]) rfl k') ?_
      show Go p e below s _ _ _ (T339.setTop (mkF m 200 #[.val (.int size), .val (.int steps), .val (.int chs), .val (.int (3 : Int32)), .val (.int (3 : Int32)), .val (.ref rr_1), .val (.ref rr_3), .val (.ref rr_7), .val (.ref b238), .val (.ref b264), .val (.int (1 : Int32)), .val (.ref rr_1)] []))
      refine Go.st (fun _ k' => XS.aload X339.here hx rfl (hb hby at_200) rfl rfl k') ?_
      show Go p e below s _ _ _ (T339.setTop (mkF m 202 #[.val (.int size), .val (.int steps), .val (.int chs), .val (.int (3 : Int32)), .val (.int (3 : Int32)), .val (.ref rr_1), .val (.ref rr_3), .val (.ref rr_7), .val (.ref b238), .val (.ref b264), .val (.int (1 : Int32)), .val (.ref rr_1)] [(.ref b264)]))
      obtain ⟨cq340, kq340, q340a, q340b, q340c⟩ := isOf hZ eq339 f337
      obtain ⟨_, _, ⟨T340, L340, k340, n340⟩, -, X340, ⟨Lc340, hQ340, l340, y340, z340⟩, st340⟩ := X339.virtualBack hx (y := (⟨"com/example/reportwire/reportwire/Arguments", "hasNext", "()Z"⟩ : MethodName)) (z := (⟨"com/example/reportwire/reportwire/Arguments", "hasNext", "()Z"⟩ : MethodName)) hown (mvT hZ (wdx hw 86 rfl)) (mvT hZ (wdx hw 87 rfl)) (notFace_of_selects (args := #[]) (mvT hZ (wdx hw 89 rfl))) (mvT hZ (wdx hw 89 rfl)) (mvT hZ (wdx hw 88 rfl)) (by decide) (backOf (W := 0) (rm12_3_1 l Z a0 hw [] b264 na_277 kn_277 rr_1 rr_3 rr_7 T329.heap n0 O329 f330 f331 f338) hZ (wdx hw 90 rfl) (wdx hw 30 rfl) (by decide) (by decide)) q340a q340c (g := (mkF m 202 #[.val (.int size), .val (.int steps), .val (.int chs), .val (.int (3 : Int32)), .val (.int (3 : Int32)), .val (.ref rr_1), .val (.ref rr_3), .val (.ref rr_7), .val (.ref b238), .val (.ref b264), .val (.int (1 : Int32)), .val (.ref rr_1)] [(.ref b264)])) rfl (by rw [hml]; rfl) (Steps.refl _) (argsL := []) (rest := []) (lenOf pd___Z rfl) rfl (by show 2 * 0 + _ ≤ _; exact Nat.le_of_eq rfl) (hb hby at_202) (fun _ _ => ⟨rfl, eq339, (by exact Nat.le_of_ble_eq_true rfl), (by exact Nat.le_of_ble_eq_true rfl)⟩)
      dsimp only [Pt.U, Pt.locs, Pt.cells, Pt.slots] at X340 l340 y340 z340 st340 hQ340
      subst l340 y340 z340
      obtain ⟨rfl, Nq340, eq340⟩ := hQ340
      have N340 := Fr.app N339 Nq340
      refine Go.tr st340 ?_
      show Go p e below s _ _ _ (T340.setTop (mkF m 205 #[.val (.int size), .val (.int steps), .val (.int chs), .val (.int (3 : Int32)), .val (.int (3 : Int32)), .val (.ref rr_1), .val (.ref rr_3), .val (.ref rr_7), .val (.ref b238), .val (.ref b264), .val (.int (1 : Int32)), .val (.ref rr_1)] [(.int (1 : Int32))]))
      refine Go.st (fun _ k' => XS.iloadN X340.here hx rfl (hb hby at_205) rfl k') ?_
      show Go p e below s _ _ _ (T340.setTop (mkF m 206 #[.val (.int size), .val (.int steps), .val (.int chs), .val (.int (3 : Int32)), .val (.int (3 : Int32)), .val (.ref rr_1), .val (.ref rr_3), .val (.ref rr_7), .val (.ref b238), .val (.ref b264), .val (.int (1 : Int32)), .val (.ref rr_1)] [(.int (3 : Int32)), (.int (1 : Int32))]))
      refine Go.st (fun _ k' => XS.iconst X340.here hx rfl (hb hby at_206) k') ?_
      show Go p e below s _ _ _ (T340.setTop (mkF m 207 #[.val (.int size), .val (.int steps), .val (.int chs), .val (.int (3 : Int32)), .val (.int (3 : Int32)), .val (.ref rr_1), .val (.ref rr_3), .val (.ref rr_7), .val (.ref b238), .val (.ref b264), .val (.int (1 : Int32)), .val (.ref rr_1)] [(.int (1 : Int32)), (.int (3 : Int32)), (.int (1 : Int32))]))
      refine Go.st (fun _ k' => XS.icmpNo X340.here hx rfl (hb hby at_207) rfl (XT.ii_le_f (by decide)) k') ?_
      show Go p e below s _ _ _ (T340.setTop (mkF m 210 #[.val (.int size), .val (.int steps), .val (.int chs), .val (.int (3 : Int32)), .val (.int (3 : Int32)), .val (.ref rr_1), .val (.ref rr_3), .val (.ref rr_7), .val (.ref b238), .val (.ref b264), .val (.int (1 : Int32)), .val (.ref rr_1)] [(.int (1 : Int32))]))
      refine Go.st (fun _ k' => XS.iconst X340.here hx rfl (hb hby at_210) k') ?_
      show Go p e below s _ _ _ (T340.setTop (mkF m 211 #[.val (.int size), .val (.int steps), .val (.int chs), .val (.int (3 : Int32)), .val (.int (3 : Int32)), .val (.ref rr_1), .val (.ref rr_3), .val (.ref rr_7), .val (.ref b238), .val (.ref b264), .val (.int (1 : Int32)), .val (.ref rr_1)] [(.int (1 : Int32)), (.int (1 : Int32))]))
      refine Go.st (fun _ k' => XS.goto X340.here hx rfl (pc0 := 211) (pc' := 215) rfl (hb hby at_211) (by decide) (by decide) k') ?_
      show Go p e below s _ _ _ (T340.setTop (mkF m 215 #[.val (.int size), .val (.int steps), .val (.int chs), .val (.int (3 : Int32)), .val (.int (3 : Int32)), .val (.ref rr_1), .val (.ref rr_3), .val (.ref rr_7), .val (.ref b238), .val (.ref b264), .val (.int (1 : Int32)), .val (.ref rr_1)] [(.int (1 : Int32)), (.int (1 : Int32))]))
      refine Go.st (fun _ k' => XS.icmpNo X340.here hx rfl (hb hby at_215) rfl (XT.ii_ne_f (by decide)) k') ?_
      show Go p e below s _ _ _ (T340.setTop (mkF m 218 #[.val (.int size), .val (.int steps), .val (.int chs), .val (.int (3 : Int32)), .val (.int (3 : Int32)), .val (.ref rr_1), .val (.ref rr_3), .val (.ref rr_7), .val (.ref b238), .val (.ref b264), .val (.int (1 : Int32)), .val (.ref rr_1)] []))
      refine Go.st (fun _ k' => XS.iload X340.here hx rfl (hb hby at_218) rfl k') ?_
      show Go p e below s _ _ _ (T340.setTop (mkF m 220 #[.val (.int size), .val (.int steps), .val (.int chs), .val (.int (3 : Int32)), .val (.int (3 : Int32)), .val (.ref rr_1), .val (.ref rr_3), .val (.ref rr_7), .val (.ref b238), .val (.ref b264), .val (.int (1 : Int32)), .val (.ref rr_1)] [(.int (1 : Int32))]))
      refine Go.st (fun _ k' => XS.ifNo X340.here hx rfl (hb hby at_220) rfl (XT.i0_eq_f (by decide)) k') ?_
      show Go p e below s _ _ _ (T340.setTop (mkF m 223 #[.val (.int size), .val (.int steps), .val (.int chs), .val (.int (3 : Int32)), .val (.int (3 : Int32)), .val (.ref rr_1), .val (.ref rr_3), .val (.ref rr_7), .val (.ref b238), .val (.ref b264), .val (.int (1 : Int32)), .val (.ref rr_1)] []))
      refine Go.st (fun _ k' => XS.iconst X340.here hx rfl (hb hby at_223) k') ?_
      show Go p e below s _ _ _ (T340.setTop (mkF m 224 #[.val (.int size), .val (.int steps), .val (.int chs), .val (.int (3 : Int32)), .val (.int (3 : Int32)), .val (.ref rr_1), .val (.ref rr_3), .val (.ref rr_7), .val (.ref b238), .val (.ref b264), .val (.int (1 : Int32)), .val (.ref rr_1)] [(.int (1 : Int32))]))
      refine Go.st (fun _ k' => XS.goto X340.here hx rfl (pc0 := 224) (pc' := 228) rfl (hb hby at_224) (by decide) (by decide) k') ?_
      show Go p e below s _ _ _ (T340.setTop (mkF m 228 #[.val (.int size), .val (.int steps), .val (.int chs), .val (.int (3 : Int32)), .val (.int (3 : Int32)), .val (.ref rr_1), .val (.ref rr_3), .val (.ref rr_7), .val (.ref b238), .val (.ref b264), .val (.int (1 : Int32)), .val (.ref rr_1)] [(.int (1 : Int32))]))
      refine Go.st (fun _ k' => XS.istore X340.here hx rfl (hb hby at_228) rfl (l' := #[.val (.int size), .val (.int steps), .val (.int chs), .val (.int (3 : Int32)), .val (.int (3 : Int32)), .val (.ref rr_1), .val (.ref rr_3), .val (.ref rr_7), .val (.ref b238), .val (.ref b264), .val (.int (1 : Int32)), .val (.ref rr_1)]) rfl k') ?_
      show Go p e below s _ _ _ (T340.setTop (mkF m 230 #[.val (.int size), .val (.int steps), .val (.int chs), .val (.int (3 : Int32)), .val (.int (3 : Int32)), .val (.ref rr_1), .val (.ref rr_3), .val (.ref rr_7), .val (.ref b238), .val (.ref b264), .val (.int (1 : Int32)), .val (.ref rr_1)] []))
      refine Go.st (fun _ k' => XS.iload X340.here hx rfl (hb hby at_230) rfl k') ?_
      show Go p e below s _ _ _ (T340.setTop (mkF m 232 #[.val (.int size), .val (.int steps), .val (.int chs), .val (.int (3 : Int32)), .val (.int (3 : Int32)), .val (.ref rr_1), .val (.ref rr_3), .val (.ref rr_7), .val (.ref b238), .val (.ref b264), .val (.int (1 : Int32)), .val (.ref rr_1)] [(.int (3 : Int32))]))
      refine Go.st (fun _ k' => XS.iconst X340.here hx rfl (hb hby at_232) k') ?_
      show Go p e below s _ _ _ (T340.setTop (mkF m 233 #[.val (.int size), .val (.int steps), .val (.int chs), .val (.int (3 : Int32)), .val (.int (3 : Int32)), .val (.ref rr_1), .val (.ref rr_3), .val (.ref rr_7), .val (.ref b238), .val (.ref b264), .val (.int (1 : Int32)), .val (.ref rr_1)] [(.int (2 : Int32)), (.int (3 : Int32))]))
      refine Go.st (fun _ k' => XS.icmpNo X340.here hx rfl (hb hby at_233) rfl (XT.ii_lt_f (by decide)) k') ?_
      show Go p e below s _ _ _ (T340.setTop (mkF m 236 #[.val (.int size), .val (.int steps), .val (.int chs), .val (.int (3 : Int32)), .val (.int (3 : Int32)), .val (.ref rr_1), .val (.ref rr_3), .val (.ref rr_7), .val (.ref b238), .val (.ref b264), .val (.int (1 : Int32)), .val (.ref rr_1)] []))
      refine Go.st (fun _ k' => XS.iloadN X340.here hx rfl (hb hby at_236) rfl k') ?_
      show Go p e below s _ _ _ (T340.setTop (mkF m 237 #[.val (.int size), .val (.int steps), .val (.int chs), .val (.int (3 : Int32)), .val (.int (3 : Int32)), .val (.ref rr_1), .val (.ref rr_3), .val (.ref rr_7), .val (.ref b238), .val (.ref b264), .val (.int (1 : Int32)), .val (.ref rr_1)] [(.int (3 : Int32))]))
      refine Go.st (fun _ k' => XS.iconst X340.here hx rfl (hb hby at_237) k') ?_
      show Go p e below s _ _ _ (T340.setTop (mkF m 238 #[.val (.int size), .val (.int steps), .val (.int chs), .val (.int (3 : Int32)), .val (.int (3 : Int32)), .val (.ref rr_1), .val (.ref rr_3), .val (.ref rr_7), .val (.ref b238), .val (.ref b264), .val (.int (1 : Int32)), .val (.ref rr_1)] [(.int (2 : Int32)), (.int (3 : Int32))]))
      refine Go.st (fun _ k' => XS.icmpNo X340.here hx rfl (hb hby at_238) rfl (XT.ii_lt_f (by decide)) k') ?_
      show Go p e below s _ _ _ (T340.setTop (mkF m 241 #[.val (.int size), .val (.int steps), .val (.int chs), .val (.int (3 : Int32)), .val (.int (3 : Int32)), .val (.ref rr_1), .val (.ref rr_3), .val (.ref rr_7), .val (.ref b238), .val (.ref b264), .val (.int (1 : Int32)), .val (.ref rr_1)] []))
      refine Go.st (fun _ k' => XS.aload X340.here hx rfl (hb hby at_241) rfl rfl k') ?_
      show Go p e below s _ _ _ (T340.setTop (mkF m 243 #[.val (.int size), .val (.int steps), .val (.int chs), .val (.int (3 : Int32)), .val (.int (3 : Int32)), .val (.ref rr_1), .val (.ref rr_3), .val (.ref rr_7), .val (.ref b238), .val (.ref b264), .val (.int (1 : Int32)), .val (.ref rr_1)] [(.ref b264)]))
      obtain ⟨cq341, kq341, q341a, q341b, q341c⟩ := isOf hZ eq340 f337
      obtain ⟨_, _, ⟨T341, L341, k341, n341⟩, -, X341, ⟨Lc341, hQ341, l341, y341, z341⟩, st341⟩ := X340.virtualBack hx (y := (⟨"com/example/reportwire/reportwire/Arguments", "next", "()Ljava/lang/String;"⟩ : MethodName)) (z := (⟨"com/example/reportwire/reportwire/Arguments", "next", "()Ljava/lang/String;"⟩ : MethodName)) hown (mvT hZ (wdx hw 93 rfl)) (mvT hZ (wdx hw 94 rfl)) (notFace_of_selects (args := #[]) (mvT hZ (wdx hw 96 rfl))) (mvT hZ (wdx hw 96 rfl)) (mvT hZ (wdx hw 95 rfl)) (by decide) (backOf (W := 0) (rm13_3_1 l Z a0 hw [] b264 na_277 kn_277 rr_1 rr_3 rr_7 T329.heap n0 O329 f337 f330 f331 f338 g_b264 ne291) hZ (wdx hw 97 rfl) (wdx hw 30 rfl) (by decide) (by decide)) q341a q341c (g := (mkF m 243 #[.val (.int size), .val (.int steps), .val (.int chs), .val (.int (3 : Int32)), .val (.int (3 : Int32)), .val (.ref rr_1), .val (.ref rr_3), .val (.ref rr_7), .val (.ref b238), .val (.ref b264), .val (.int (1 : Int32)), .val (.ref rr_1)] [(.ref b264)])) rfl (by rw [hml]; rfl) (Steps.refl _) (argsL := []) (rest := []) (lenOf pd___Ljava_lang_String_ rfl) rfl (by show 2 * 0 + _ ≤ _; exact Nat.le_of_eq rfl) (hb hby at_243) (fun _ _ => ⟨rfl, eq340, (by exact Nat.le_of_ble_eq_true rfl), (by exact Nat.le_of_ble_eq_true rfl)⟩)
      dsimp only [Pt.U, Pt.locs, Pt.cells, Pt.slots] at X341 l341 y341 z341 st341 hQ341
      subst l341 y341 z341
      obtain ⟨rfl, Nq341, Kq341, f342, f343⟩ := hQ341
      have N341 := Fr.app N340 Nq341
      refine Go.tr st341 ?_
      have f344 : Exa Z T341.heap rr_1 "java/lang/String" := f332.keep Kq341
      have f345 : Exa Z T341.heap rr_3 "java/lang/String" := f333.keep Kq341
      have f346 : Exa Z T341.heap rr_7 "java/lang/String" := f334.keep Kq341
      have f347 : Exa Z T341.heap b238 "[Ljava/lang/String;" := f335.keep Kq341
      have f348 : Arv Z T341.heap b238 k238 (.object "java/lang/String") (3 : Int32) [(.ref rr_1), (.ref rr_3), (.ref rr_7)] .null := f336.keep Kq341 (ninS ne268 nin0)
      have f349 : Exa Z T341.heap b264 "com/example/reportwire/reportwire/Arguments" := f337.keep Kq341
      have f350 : Arv Z T341.heap na_277 kn_277 (.object "java/lang/String") (3 : Int32) [(.ref rr_1), (.ref rr_3), (.ref rr_7)] .null := f338.keep Kq341 (ninS (Ne.symm ne291) nin0)
      have O341 : Old Z n0 T341.heap := O329.keep Kq341 (allS g_b264 all0)
      show Go p e below s _ _ _ (T341.setTop (mkF m 246 #[.val (.int size), .val (.int steps), .val (.int chs), .val (.int (3 : Int32)), .val (.int (3 : Int32)), .val (.ref rr_1), .val (.ref rr_3), .val (.ref rr_7), .val (.ref b238), .val (.ref b264), .val (.int (1 : Int32)), .val (.ref rr_1)] [(.ref rr_3)]))
      refine Go.st (fun _ k' => XS.astore X341.here hx rfl (hb hby at_246) rfl rfl (l' := #[.val (.int size), .val (.int steps), .val (.int chs), .val (.int (3 : Int32)), .val (.int (3 : Int32)), .val (.ref rr_1), .val (.ref rr_3), .val (.ref rr_7), .val (.ref b238), .val (.ref b264), .val (.int (1 : Int32)), .val (.ref rr_3)]) rfl k') ?_
      show Go p e below s _ _ _ (T341.setTop (mkF m 248 #[.val (.int size), .val (.int steps), .val (.int chs), .val (.int (3 : Int32)), .val (.int (3 : Int32)), .val (.ref rr_1), .val (.ref rr_3), .val (.ref rr_7), .val (.ref b238), .val (.ref b264), .val (.int (1 : Int32)), .val (.ref rr_3)] []))
      refine Go.st (fun _ k' => XS.aload X341.here hx rfl (hb hby at_248) rfl rfl k') ?_
      show Go p e below s _ _ _ (T341.setTop (mkF m 250 #[.val (.int size), .val (.int steps), .val (.int chs), .val (.int (3 : Int32)), .val (.int (3 : Int32)), .val (.ref rr_1), .val (.ref rr_3), .val (.ref rr_7), .val (.ref b238), .val (.ref b264), .val (.int (1 : Int32)), .val (.ref rr_3)] [(.ref rr_3)]))
      refine Go.st (fun _ k' => XS.aload X341.here hx rfl (hb hby at_250) rfl rfl k') ?_
      show Go p e below s _ _ _ (T341.setTop (mkF m 252 #[.val (.int size), .val (.int steps), .val (.int chs), .val (.int (3 : Int32)), .val (.int (3 : Int32)), .val (.ref rr_1), .val (.ref rr_3), .val (.ref rr_7), .val (.ref b238), .val (.ref b264), .val (.int (1 : Int32)), .val (.ref rr_3)] [(.ref rr_3), (.ref rr_3)]))
      obtain ⟨cq351, kq351, q351a, q351b, q351c⟩ := isOf hZ rfl f345
      obtain ⟨_, _, ⟨T351, L351, k351, n351⟩, -, X351, ⟨Lc351, hQ351, l351, y351, z351⟩, st351⟩ := X341.virtualBack hx (y := (⟨"java/lang/String", "equals", "(Ljava/lang/Object;)Z"⟩ : MethodName)) (z := (⟨"java/lang/String", "equals", "(Ljava/lang/Object;)Z"⟩ : MethodName)) hown (mvT hZ (wdx hw 104 rfl)) (mvT hZ (wdx hw 105 rfl)) (notFace_of_selects (args := #[]) (mvT hZ (wdx hw 107 rfl))) (mvT hZ (wdx hw 107 rfl)) (mvT hZ (wdx hw 106 rfl)) (by decide) (backOf (W := 0) (rm15 l Z a0 hw [] rr_3 T341.heap n0 O341 ) hZ (wdx hw 108 rfl) (wdx hw 2 rfl) (by decide) (by decide)) q351a q351c (g := (mkF m 252 #[.val (.int size), .val (.int steps), .val (.int chs), .val (.int (3 : Int32)), .val (.int (3 : Int32)), .val (.ref rr_1), .val (.ref rr_3), .val (.ref rr_7), .val (.ref b238), .val (.ref b264), .val (.int (1 : Int32)), .val (.ref rr_3)] [(.ref rr_3), (.ref rr_3)])) rfl (by rw [hml]; rfl) (Steps.refl _) (argsL := [(.ref rr_3)]) (rest := []) (lenOf pd__Ljava_lang_Object__Z rfl) rfl (by show 2 * 0 + _ ≤ _; exact Nat.le_of_eq rfl) (hb hby at_252) (fun _ _ => ⟨rfl, rfl, (by exact Nat.le_of_ble_eq_true rfl), (by exact Nat.le_of_ble_eq_true rfl)⟩)
      dsimp only [Pt.U, Pt.locs, Pt.cells, Pt.slots] at X351 l351 y351 z351 st351 hQ351
      subst l351 y351 z351
      obtain ⟨rfl, Nq351, eq351⟩ := hQ351
      have N351 := Fr.app N341 Nq351
      refine Go.tr st351 ?_
      show Go p e below s _ _ _ (T351.setTop (mkF m 255 #[.val (.int size), .val (.int steps), .val (.int chs), .val (.int (3 : Int32)), .val (.int (3 : Int32)), .val (.ref rr_1), .val (.ref rr_3), .val (.ref rr_7), .val (.ref b238), .val (.ref b264), .val (.int (1 : Int32)), .val (.ref rr_3)] [(.int (1 : Int32))]))
      refine Go.st (fun _ k' => XS.ifNo X351.here hx rfl (hb hby at_255) rfl (XT.i0_eq_f (by decide)) k') ?_
      show Go p e below s _ _ _ (T351.setTop (mkF m 258 #[.val (.int size), .val (.int steps), .val (.int chs), .val (.int (3 : Int32)), .val (.int (3 : Int32)), .val (.ref rr_1), .val (.ref rr_3), .val (.ref rr_7), .val (.ref b238), .val (.ref b264), .val (.int (1 : Int32)), .val (.ref rr_3)] []))
      refine Go.st (fun _ k' => XS.iload X351.here hx rfl (hb hby at_258) rfl k') ?_
      show Go p e below s _ _ _ (T351.setTop (mkF m 260 #[.val (.int size), .val (.int steps), .val (.int chs), .val (.int (3 : Int32)), .val (.int (3 : Int32)), .val (.ref rr_1), .val (.ref rr_3), .val (.ref rr_7), .val (.ref b238), .val (.ref b264), .val (.int (1 : Int32)), .val (.ref rr_3)] [(.int (1 : Int32))]))
      refine Go.st (fun _ k' => XS.ifNo X351.here hx rfl (hb hby at_260) rfl (XT.i0_eq_f (by decide)) k') ?_
      show Go p e below s _ _ _ (T351.setTop (mkF m 263 #[.val (.int size), .val (.int steps), .val (.int chs), .val (.int (3 : Int32)), .val (.int (3 : Int32)), .val (.ref rr_1), .val (.ref rr_3), .val (.ref rr_7), .val (.ref b238), .val (.ref b264), .val (.int (1 : Int32)), .val (.ref rr_3)] []))
      refine Go.st (fun _ k' => XS.iconst X351.here hx rfl (hb hby at_263) k') ?_
      show Go p e below s _ _ _ (T351.setTop (mkF m 264 #[.val (.int size), .val (.int steps), .val (.int chs), .val (.int (3 : Int32)), .val (.int (3 : Int32)), .val (.ref rr_1), .val (.ref rr_3), .val (.ref rr_7), .val (.ref b238), .val (.ref b264), .val (.int (1 : Int32)), .val (.ref rr_3)] [(.int (1 : Int32))]))
      refine Go.st (fun _ k' => XS.goto X351.here hx rfl (pc0 := 264) (pc' := 268) rfl (hb hby at_264) (by decide) (by decide) k') ?_
      show Go p e below s _ _ _ (T351.setTop (mkF m 268 #[.val (.int size), .val (.int steps), .val (.int chs), .val (.int (3 : Int32)), .val (.int (3 : Int32)), .val (.ref rr_1), .val (.ref rr_3), .val (.ref rr_7), .val (.ref b238), .val (.ref b264), .val (.int (1 : Int32)), .val (.ref rr_3)] [(.int (1 : Int32))]))
      refine Go.st (fun _ k' => XS.istore X351.here hx rfl (hb hby at_268) rfl (l' := #[.val (.int size), .val (.int steps), .val (.int chs), .val (.int (3 : Int32)), .val (.int (3 : Int32)), .val (.ref rr_1), .val (.ref rr_3), .val (.ref rr_7), .val (.ref b238), .val (.ref b264), .val (.int (1 : Int32)), .val (.ref rr_3)]) rfl k') ?_
      show Go p e below s _ _ _ (T351.setTop (mkF m 270 #[.val (.int size), .val (.int steps), .val (.int chs), .val (.int (3 : Int32)), .val (.int (3 : Int32)), .val (.ref rr_1), .val (.ref rr_3), .val (.ref rr_7), .val (.ref b238), .val (.ref b264), .val (.int (1 : Int32)), .val (.ref rr_3)] []))
      refine Go.st (fun _ k' => XS.aload X351.here hx rfl (hb hby at_270) rfl rfl k') ?_
      show Go p e below s _ _ _ (T351.setTop (mkF m 272 #[.val (.int size), .val (.int steps), .val (.int chs), .val (.int (3 : Int32)), .val (.int (3 : Int32)), .val (.ref rr_1), .val (.ref rr_3), .val (.ref rr_7), .val (.ref b238), .val (.ref b264), .val (.int (1 : Int32)), .val (.ref rr_3)] [(.ref b264)]))
      obtain ⟨cq352, kq352, q352a, q352b, q352c⟩ := isOf hZ eq351 f349
      obtain ⟨_, _, ⟨T352, L352, k352, n352⟩, -, X352, ⟨Lc352, hQ352, l352, y352, z352⟩, st352⟩ := X351.virtualBack hx (y := (⟨"com/example/reportwire/reportwire/Arguments", "hasNext", "()Z"⟩ : MethodName)) (z := (⟨"com/example/reportwire/reportwire/Arguments", "hasNext", "()Z"⟩ : MethodName)) hown (mvT hZ (wdx hw 86 rfl)) (mvT hZ (wdx hw 87 rfl)) (notFace_of_selects (args := #[]) (mvT hZ (wdx hw 89 rfl))) (mvT hZ (wdx hw 89 rfl)) (mvT hZ (wdx hw 88 rfl)) (by decide) (backOf (W := 0) (rm12_3_2 l Z a0 hw [] b264 na_277 kn_277 rr_1 rr_3 rr_7 T341.heap n0 O341 f342 f343 f350) hZ (wdx hw 90 rfl) (wdx hw 30 rfl) (by decide) (by decide)) q352a q352c (g := (mkF m 272 #[.val (.int size), .val (.int steps), .val (.int chs), .val (.int (3 : Int32)), .val (.int (3 : Int32)), .val (.ref rr_1), .val (.ref rr_3), .val (.ref rr_7), .val (.ref b238), .val (.ref b264), .val (.int (1 : Int32)), .val (.ref rr_3)] [(.ref b264)])) rfl (by rw [hml]; rfl) (Steps.refl _) (argsL := []) (rest := []) (lenOf pd___Z rfl) rfl (by show 2 * 0 + _ ≤ _; exact Nat.le_of_eq rfl) (hb hby at_272) (fun _ _ => ⟨rfl, eq351, (by exact Nat.le_of_ble_eq_true rfl), (by exact Nat.le_of_ble_eq_true rfl)⟩)
      dsimp only [Pt.U, Pt.locs, Pt.cells, Pt.slots] at X352 l352 y352 z352 st352 hQ352
      subst l352 y352 z352
      obtain ⟨rfl, Nq352, eq352⟩ := hQ352
      have N352 := Fr.app N351 Nq352
      refine Go.tr st352 ?_
      show Go p e below s _ _ _ (T352.setTop (mkF m 275 #[.val (.int size), .val (.int steps), .val (.int chs), .val (.int (3 : Int32)), .val (.int (3 : Int32)), .val (.ref rr_1), .val (.ref rr_3), .val (.ref rr_7), .val (.ref b238), .val (.ref b264), .val (.int (1 : Int32)), .val (.ref rr_3)] [(.int (1 : Int32))]))
      refine Go.st (fun _ k' => XS.iloadN X352.here hx rfl (hb hby at_275) rfl k') ?_
      show Go p e below s _ _ _ (T352.setTop (mkF m 276 #[.val (.int size), .val (.int steps), .val (.int chs), .val (.int (3 : Int32)), .val (.int (3 : Int32)), .val (.ref rr_1), .val (.ref rr_3), .val (.ref rr_7), .val (.ref b238), .val (.ref b264), .val (.int (1 : Int32)), .val (.ref rr_3)] [(.int (3 : Int32)), (.int (1 : Int32))]))
      refine Go.st (fun _ k' => XS.iconst X352.here hx rfl (hb hby at_276) k') ?_
      show Go p e below s _ _ _ (T352.setTop (mkF m 277 #[.val (.int size), .val (.int steps), .val (.int chs), .val (.int (3 : Int32)), .val (.int (3 : Int32)), .val (.ref rr_1), .val (.ref rr_3), .val (.ref rr_7), .val (.ref b238), .val (.ref b264), .val (.int (1 : Int32)), .val (.ref rr_3)] [(.int (2 : Int32)), (.int (3 : Int32)), (.int (1 : Int32))]))
      refine Go.st (fun _ k' => XS.icmpNo X352.here hx rfl (hb hby at_277) rfl (XT.ii_le_f (by decide)) k') ?_
      show Go p e below s _ _ _ (T352.setTop (mkF m 280 #[.val (.int size), .val (.int steps), .val (.int chs), .val (.int (3 : Int32)), .val (.int (3 : Int32)), .val (.ref rr_1), .val (.ref rr_3), .val (.ref rr_7), .val (.ref b238), .val (.ref b264), .val (.int (1 : Int32)), .val (.ref rr_3)] [(.int (1 : Int32))]))
      refine Go.st (fun _ k' => XS.iconst X352.here hx rfl (hb hby at_280) k') ?_
      show Go p e below s _ _ _ (T352.setTop (mkF m 281 #[.val (.int size), .val (.int steps), .val (.int chs), .val (.int (3 : Int32)), .val (.int (3 : Int32)), .val (.ref rr_1), .val (.ref rr_3), .val (.ref rr_7), .val (.ref b238), .val (.ref b264), .val (.int (1 : Int32)), .val (.ref rr_3)] [(.int (1 : Int32)), (.int (1 : Int32))]))
      refine Go.st (fun _ k' => XS.goto X352.here hx rfl (pc0 := 281) (pc' := 285) rfl (hb hby at_281) (by decide) (by decide) k') ?_
      show Go p e below s _ _ _ (T352.setTop (mkF m 285 #[.val (.int size), .val (.int steps), .val (.int chs), .val (.int (3 : Int32)), .val (.int (3 : Int32)), .val (.ref rr_1), .val (.ref rr_3), .val (.ref rr_7), .val (.ref b238), .val (.ref b264), .val (.int (1 : Int32)), .val (.ref rr_3)] [(.int (1 : Int32)), (.int (1 : Int32))]))
      refine Go.st (fun _ k' => XS.icmpNo X352.here hx rfl (hb hby at_285) rfl (XT.ii_ne_f (by decide)) k') ?_
      show Go p e below s _ _ _ (T352.setTop (mkF m 288 #[.val (.int size), .val (.int steps), .val (.int chs), .val (.int (3 : Int32)), .val (.int (3 : Int32)), .val (.ref rr_1), .val (.ref rr_3), .val (.ref rr_7), .val (.ref b238), .val (.ref b264), .val (.int (1 : Int32)), .val (.ref rr_3)] []))
      refine Go.st (fun _ k' => XS.iload X352.here hx rfl (hb hby at_288) rfl k') ?_
      show Go p e below s _ _ _ (T352.setTop (mkF m 290 #[.val (.int size), .val (.int steps), .val (.int chs), .val (.int (3 : Int32)), .val (.int (3 : Int32)), .val (.ref rr_1), .val (.ref rr_3), .val (.ref rr_7), .val (.ref b238), .val (.ref b264), .val (.int (1 : Int32)), .val (.ref rr_3)] [(.int (1 : Int32))]))
      refine Go.st (fun _ k' => XS.ifNo X352.here hx rfl (hb hby at_290) rfl (XT.i0_eq_f (by decide)) k') ?_
      show Go p e below s _ _ _ (T352.setTop (mkF m 293 #[.val (.int size), .val (.int steps), .val (.int chs), .val (.int (3 : Int32)), .val (.int (3 : Int32)), .val (.ref rr_1), .val (.ref rr_3), .val (.ref rr_7), .val (.ref b238), .val (.ref b264), .val (.int (1 : Int32)), .val (.ref rr_3)] []))
      refine Go.st (fun _ k' => XS.iconst X352.here hx rfl (hb hby at_293) k') ?_
      show Go p e below s _ _ _ (T352.setTop (mkF m 294 #[.val (.int size), .val (.int steps), .val (.int chs), .val (.int (3 : Int32)), .val (.int (3 : Int32)), .val (.ref rr_1), .val (.ref rr_3), .val (.ref rr_7), .val (.ref b238), .val (.ref b264), .val (.int (1 : Int32)), .val (.ref rr_3)] [(.int (1 : Int32))]))
      refine Go.st (fun _ k' => XS.goto X352.here hx rfl (pc0 := 294) (pc' := 298) rfl (hb hby at_294) (by decide) (by decide) k') ?_
      show Go p e below s _ _ _ (T352.setTop (mkF m 298 #[.val (.int size), .val (.int steps), .val (.int chs), .val (.int (3 : Int32)), .val (.int (3 : Int32)), .val (.ref rr_1), .val (.ref rr_3), .val (.ref rr_7), .val (.ref b238), .val (.ref b264), .val (.int (1 : Int32)), .val (.ref rr_3)] [(.int (1 : Int32))]))
      refine Go.st (fun _ k' => XS.istore X352.here hx rfl (hb hby at_298) rfl (l' := #[.val (.int size), .val (.int steps), .val (.int chs), .val (.int (3 : Int32)), .val (.int (3 : Int32)), .val (.ref rr_1), .val (.ref rr_3), .val (.ref rr_7), .val (.ref b238), .val (.ref b264), .val (.int (1 : Int32)), .val (.ref rr_3)]) rfl k') ?_
      show Go p e below s _ _ _ (T352.setTop (mkF m 300 #[.val (.int size), .val (.int steps), .val (.int chs), .val (.int (3 : Int32)), .val (.int (3 : Int32)), .val (.ref rr_1), .val (.ref rr_3), .val (.ref rr_7), .val (.ref b238), .val (.ref b264), .val (.int (1 : Int32)), .val (.ref rr_3)] []))
      refine Go.st (fun _ k' => XS.iload X352.here hx rfl (hb hby at_300) rfl k') ?_
      show Go p e below s _ _ _ (T352.setTop (mkF m 302 #[.val (.int size), .val (.int steps), .val (.int chs), .val (.int (3 : Int32)), .val (.int (3 : Int32)), .val (.ref rr_1), .val (.ref rr_3), .val (.ref rr_7), .val (.ref b238), .val (.ref b264), .val (.int (1 : Int32)), .val (.ref rr_3)] [(.int (3 : Int32))]))
      refine Go.st (fun _ k' => XS.iconst X352.here hx rfl (hb hby at_302) k') ?_
      show Go p e below s _ _ _ (T352.setTop (mkF m 303 #[.val (.int size), .val (.int steps), .val (.int chs), .val (.int (3 : Int32)), .val (.int (3 : Int32)), .val (.ref rr_1), .val (.ref rr_3), .val (.ref rr_7), .val (.ref b238), .val (.ref b264), .val (.int (1 : Int32)), .val (.ref rr_3)] [(.int (3 : Int32)), (.int (3 : Int32))]))
      refine Go.st (fun _ k' => XS.icmpNo X352.here hx rfl (hb hby at_303) rfl (XT.ii_lt_f (by decide)) k') ?_
      show Go p e below s _ _ _ (T352.setTop (mkF m 306 #[.val (.int size), .val (.int steps), .val (.int chs), .val (.int (3 : Int32)), .val (.int (3 : Int32)), .val (.ref rr_1), .val (.ref rr_3), .val (.ref rr_7), .val (.ref b238), .val (.ref b264), .val (.int (1 : Int32)), .val (.ref rr_3)] []))
      refine Go.st (fun _ k' => XS.iloadN X352.here hx rfl (hb hby at_306) rfl k') ?_
      show Go p e below s _ _ _ (T352.setTop (mkF m 307 #[.val (.int size), .val (.int steps), .val (.int chs), .val (.int (3 : Int32)), .val (.int (3 : Int32)), .val (.ref rr_1), .val (.ref rr_3), .val (.ref rr_7), .val (.ref b238), .val (.ref b264), .val (.int (1 : Int32)), .val (.ref rr_3)] [(.int (3 : Int32))]))
      refine Go.st (fun _ k' => XS.iconst X352.here hx rfl (hb hby at_307) k') ?_
      show Go p e below s _ _ _ (T352.setTop (mkF m 308 #[.val (.int size), .val (.int steps), .val (.int chs), .val (.int (3 : Int32)), .val (.int (3 : Int32)), .val (.ref rr_1), .val (.ref rr_3), .val (.ref rr_7), .val (.ref b238), .val (.ref b264), .val (.int (1 : Int32)), .val (.ref rr_3)] [(.int (3 : Int32)), (.int (3 : Int32))]))
      refine Go.st (fun _ k' => XS.icmpNo X352.here hx rfl (hb hby at_308) rfl (XT.ii_lt_f (by decide)) k') ?_
      show Go p e below s _ _ _ (T352.setTop (mkF m 311 #[.val (.int size), .val (.int steps), .val (.int chs), .val (.int (3 : Int32)), .val (.int (3 : Int32)), .val (.ref rr_1), .val (.ref rr_3), .val (.ref rr_7), .val (.ref b238), .val (.ref b264), .val (.int (1 : Int32)), .val (.ref rr_3)] []))
      refine Go.st (fun _ k' => XS.aload X352.here hx rfl (hb hby at_311) rfl rfl k') ?_
      show Go p e below s _ _ _ (T352.setTop (mkF m 313 #[.val (.int size), .val (.int steps), .val (.int chs), .val (.int (3 : Int32)), .val (.int (3 : Int32)), .val (.ref rr_1), .val (.ref rr_3), .val (.ref rr_7), .val (.ref b238), .val (.ref b264), .val (.int (1 : Int32)), .val (.ref rr_3)] [(.ref b264)]))
      obtain ⟨cq353, kq353, q353a, q353b, q353c⟩ := isOf hZ eq352 f349
      obtain ⟨_, _, ⟨T353, L353, k353, n353⟩, -, X353, ⟨Lc353, hQ353, l353, y353, z353⟩, st353⟩ := X352.virtualBack hx (y := (⟨"com/example/reportwire/reportwire/Arguments", "next", "()Ljava/lang/String;"⟩ : MethodName)) (z := (⟨"com/example/reportwire/reportwire/Arguments", "next", "()Ljava/lang/String;"⟩ : MethodName)) hown (mvT hZ (wdx hw 93 rfl)) (mvT hZ (wdx hw 94 rfl)) (notFace_of_selects (args := #[]) (mvT hZ (wdx hw 96 rfl))) (mvT hZ (wdx hw 96 rfl)) (mvT hZ (wdx hw 95 rfl)) (by decide) (backOf (W := 0) (rm13_3_2 l Z a0 hw [] b264 na_277 kn_277 rr_1 rr_3 rr_7 T341.heap n0 O341 f349 f342 f343 f350 g_b264 ne291) hZ (wdx hw 97 rfl) (wdx hw 30 rfl) (by decide) (by decide)) q353a q353c (g := (mkF m 313 #[.val (.int size), .val (.int steps), .val (.int chs), .val (.int (3 : Int32)), .val (.int (3 : Int32)), .val (.ref rr_1), .val (.ref rr_3), .val (.ref rr_7), .val (.ref b238), .val (.ref b264), .val (.int (1 : Int32)), .val (.ref rr_3)] [(.ref b264)])) rfl (by rw [hml]; rfl) (Steps.refl _) (argsL := []) (rest := []) (lenOf pd___Ljava_lang_String_ rfl) rfl (by show 2 * 0 + _ ≤ _; exact Nat.le_of_eq rfl) (hb hby at_313) (fun _ _ => ⟨rfl, eq352, (by exact Nat.le_of_ble_eq_true rfl), (by exact Nat.le_of_ble_eq_true rfl)⟩)
      dsimp only [Pt.U, Pt.locs, Pt.cells, Pt.slots] at X353 l353 y353 z353 st353 hQ353
      subst l353 y353 z353
      obtain ⟨rfl, Nq353, Kq353, f354, f355⟩ := hQ353
      have N353 := Fr.app N352 Nq353
      refine Go.tr st353 ?_
      have f356 : Exa Z T353.heap rr_1 "java/lang/String" := f344.keep Kq353
      have f357 : Exa Z T353.heap rr_3 "java/lang/String" := f345.keep Kq353
      have f358 : Exa Z T353.heap rr_7 "java/lang/String" := f346.keep Kq353
      have f359 : Exa Z T353.heap b238 "[Ljava/lang/String;" := f347.keep Kq353
      have f360 : Arv Z T353.heap b238 k238 (.object "java/lang/String") (3 : Int32) [(.ref rr_1), (.ref rr_3), (.ref rr_7)] .null := f348.keep Kq353 (ninS ne268 nin0)
      have f361 : Exa Z T353.heap b264 "com/example/reportwire/reportwire/Arguments" := f349.keep Kq353
      have f362 : Arv Z T353.heap na_277 kn_277 (.object "java/lang/String") (3 : Int32) [(.ref rr_1), (.ref rr_3), (.ref rr_7)] .null := f350.keep Kq353 (ninS (Ne.symm ne291) nin0)
      have O353 : Old Z n0 T353.heap := O341.keep Kq353 (allS g_b264 all0)
      show Go p e below s _ _ _ (T353.setTop (mkF m 316 #[.val (.int size), .val (.int steps), .val (.int chs), .val (.int (3 : Int32)), .val (.int (3 : Int32)), .val (.ref rr_1), .val (.ref rr_3), .val (.ref rr_7), .val (.ref b238), .val (.ref b264), .val (.int (1 : Int32)), .val (.ref rr_3)] [(.ref rr_7)]))
      refine Go.st (fun _ k' => XS.astore X353.here hx rfl (hb hby at_316) rfl rfl (l' := #[.val (.int size), .val (.int steps), .val (.int chs), .val (.int (3 : Int32)), .val (.int (3 : Int32)), .val (.ref rr_1), .val (.ref rr_3), .val (.ref rr_7), .val (.ref b238), .val (.ref b264), .val (.int (1 : Int32)), .val (.ref rr_7)]) rfl k') ?_
      show Go p e below s _ _ _ (T353.setTop (mkF m 318 #[.val (.int size), .val (.int steps), .val (.int chs), .val (.int (3 : Int32)), .val (.int (3 : Int32)), .val (.ref rr_1), .val (.ref rr_3), .val (.ref rr_7), .val (.ref b238), .val (.ref b264), .val (.int (1 : Int32)), .val (.ref rr_7)] []))
      refine Go.st (fun _ k' => XS.aload X353.here hx rfl (hb hby at_318) rfl rfl k') ?_
      show Go p e below s _ _ _ (T353.setTop (mkF m 320 #[.val (.int size), .val (.int steps), .val (.int chs), .val (.int (3 : Int32)), .val (.int (3 : Int32)), .val (.ref rr_1), .val (.ref rr_3), .val (.ref rr_7), .val (.ref b238), .val (.ref b264), .val (.int (1 : Int32)), .val (.ref rr_7)] [(.ref rr_7)]))
      refine Go.st (fun _ k' => XS.aload X353.here hx rfl (hb hby at_320) rfl rfl k') ?_
      show Go p e below s _ _ _ (T353.setTop (mkF m 322 #[.val (.int size), .val (.int steps), .val (.int chs), .val (.int (3 : Int32)), .val (.int (3 : Int32)), .val (.ref rr_1), .val (.ref rr_3), .val (.ref rr_7), .val (.ref b238), .val (.ref b264), .val (.int (1 : Int32)), .val (.ref rr_7)] [(.ref rr_7), (.ref rr_7)]))
      obtain ⟨cq363, kq363, q363a, q363b, q363c⟩ := isOf hZ rfl f358
      obtain ⟨_, _, ⟨T363, L363, k363, n363⟩, -, X363, ⟨Lc363, hQ363, l363, y363, z363⟩, st363⟩ := X353.virtualBack hx (y := (⟨"java/lang/String", "equals", "(Ljava/lang/Object;)Z"⟩ : MethodName)) (z := (⟨"java/lang/String", "equals", "(Ljava/lang/Object;)Z"⟩ : MethodName)) hown (mvT hZ (wdx hw 104 rfl)) (mvT hZ (wdx hw 105 rfl)) (notFace_of_selects (args := #[]) (mvT hZ (wdx hw 107 rfl))) (mvT hZ (wdx hw 107 rfl)) (mvT hZ (wdx hw 106 rfl)) (by decide) (backOf (W := 0) (rm15 l Z a0 hw [] rr_7 T353.heap n0 O353 ) hZ (wdx hw 108 rfl) (wdx hw 2 rfl) (by decide) (by decide)) q363a q363c (g := (mkF m 322 #[.val (.int size), .val (.int steps), .val (.int chs), .val (.int (3 : Int32)), .val (.int (3 : Int32)), .val (.ref rr_1), .val (.ref rr_3), .val (.ref rr_7), .val (.ref b238), .val (.ref b264), .val (.int (1 : Int32)), .val (.ref rr_7)] [(.ref rr_7), (.ref rr_7)])) rfl (by rw [hml]; rfl) (Steps.refl _) (argsL := [(.ref rr_7)]) (rest := []) (lenOf pd__Ljava_lang_Object__Z rfl) rfl (by show 2 * 0 + _ ≤ _; exact Nat.le_of_eq rfl) (hb hby at_322) (fun _ _ => ⟨rfl, rfl, (by exact Nat.le_of_ble_eq_true rfl), (by exact Nat.le_of_ble_eq_true rfl)⟩)
      dsimp only [Pt.U, Pt.locs, Pt.cells, Pt.slots] at X363 l363 y363 z363 st363 hQ363
      subst l363 y363 z363
      obtain ⟨rfl, Nq363, eq363⟩ := hQ363
      have N363 := Fr.app N353 Nq363
      refine Go.tr st363 ?_
      show Go p e below s _ _ _ (T363.setTop (mkF m 325 #[.val (.int size), .val (.int steps), .val (.int chs), .val (.int (3 : Int32)), .val (.int (3 : Int32)), .val (.ref rr_1), .val (.ref rr_3), .val (.ref rr_7), .val (.ref b238), .val (.ref b264), .val (.int (1 : Int32)), .val (.ref rr_7)] [(.int (1 : Int32))]))
      refine Go.st (fun _ k' => XS.ifNo X363.here hx rfl (hb hby at_325) rfl (XT.i0_eq_f (by decide)) k') ?_
      show Go p e below s _ _ _ (T363.setTop (mkF m 328 #[.val (.int size), .val (.int steps), .val (.int chs), .val (.int (3 : Int32)), .val (.int (3 : Int32)), .val (.ref rr_1), .val (.ref rr_3), .val (.ref rr_7), .val (.ref b238), .val (.ref b264), .val (.int (1 : Int32)), .val (.ref rr_7)] []))
      refine Go.st (fun _ k' => XS.iload X363.here hx rfl (hb hby at_328) rfl k') ?_
      show Go p e below s _ _ _ (T363.setTop (mkF m 330 #[.val (.int size), .val (.int steps), .val (.int chs), .val (.int (3 : Int32)), .val (.int (3 : Int32)), .val (.ref rr_1), .val (.ref rr_3), .val (.ref rr_7), .val (.ref b238), .val (.ref b264), .val (.int (1 : Int32)), .val (.ref rr_7)] [(.int (1 : Int32))]))
      refine Go.st (fun _ k' => XS.ifNo X363.here hx rfl (hb hby at_330) rfl (XT.i0_eq_f (by decide)) k') ?_
      show Go p e below s _ _ _ (T363.setTop (mkF m 333 #[.val (.int size), .val (.int steps), .val (.int chs), .val (.int (3 : Int32)), .val (.int (3 : Int32)), .val (.ref rr_1), .val (.ref rr_3), .val (.ref rr_7), .val (.ref b238), .val (.ref b264), .val (.int (1 : Int32)), .val (.ref rr_7)] []))
      refine Go.st (fun _ k' => XS.iconst X363.here hx rfl (hb hby at_333) k') ?_
      show Go p e below s _ _ _ (T363.setTop (mkF m 334 #[.val (.int size), .val (.int steps), .val (.int chs), .val (.int (3 : Int32)), .val (.int (3 : Int32)), .val (.ref rr_1), .val (.ref rr_3), .val (.ref rr_7), .val (.ref b238), .val (.ref b264), .val (.int (1 : Int32)), .val (.ref rr_7)] [(.int (1 : Int32))]))
      refine Go.st (fun _ k' => XS.goto X363.here hx rfl (pc0 := 334) (pc' := 338) rfl (hb hby at_334) (by decide) (by decide) k') ?_
      show Go p e below s _ _ _ (T363.setTop (mkF m 338 #[.val (.int size), .val (.int steps), .val (.int chs), .val (.int (3 : Int32)), .val (.int (3 : Int32)), .val (.ref rr_1), .val (.ref rr_3), .val (.ref rr_7), .val (.ref b238), .val (.ref b264), .val (.int (1 : Int32)), .val (.ref rr_7)] [(.int (1 : Int32))]))
      refine Go.st (fun _ k' => XS.istore X363.here hx rfl (hb hby at_338) rfl (l' := #[.val (.int size), .val (.int steps), .val (.int chs), .val (.int (3 : Int32)), .val (.int (3 : Int32)), .val (.ref rr_1), .val (.ref rr_3), .val (.ref rr_7), .val (.ref b238), .val (.ref b264), .val (.int (1 : Int32)), .val (.ref rr_7)]) rfl k') ?_
      show Go p e below s _ _ _ (T363.setTop (mkF m 340 #[.val (.int size), .val (.int steps), .val (.int chs), .val (.int (3 : Int32)), .val (.int (3 : Int32)), .val (.ref rr_1), .val (.ref rr_3), .val (.ref rr_7), .val (.ref b238), .val (.ref b264), .val (.int (1 : Int32)), .val (.ref rr_7)] []))
      refine Go.st (fun _ k' => XS.aload X363.here hx rfl (hb hby at_340) rfl rfl k') ?_
      show Go p e below s _ _ _ (T363.setTop (mkF m 342 #[.val (.int size), .val (.int steps), .val (.int chs), .val (.int (3 : Int32)), .val (.int (3 : Int32)), .val (.ref rr_1), .val (.ref rr_3), .val (.ref rr_7), .val (.ref b238), .val (.ref b264), .val (.int (1 : Int32)), .val (.ref rr_7)] [(.ref b264)]))
      obtain ⟨cq364, kq364, q364a, q364b, q364c⟩ := isOf hZ eq363 f361
      obtain ⟨_, _, ⟨T364, L364, k364, n364⟩, -, X364, ⟨Lc364, hQ364, l364, y364, z364⟩, st364⟩ := X363.virtualBack hx (y := (⟨"com/example/reportwire/reportwire/Arguments", "hasNext", "()Z"⟩ : MethodName)) (z := (⟨"com/example/reportwire/reportwire/Arguments", "hasNext", "()Z"⟩ : MethodName)) hown (mvT hZ (wdx hw 86 rfl)) (mvT hZ (wdx hw 87 rfl)) (notFace_of_selects (args := #[]) (mvT hZ (wdx hw 89 rfl))) (mvT hZ (wdx hw 89 rfl)) (mvT hZ (wdx hw 88 rfl)) (by decide) (backOf (W := 0) (rm12_3_3 l Z a0 hw [] b264 na_277 kn_277 rr_1 rr_3 rr_7 T353.heap n0 O353 f354 f355 f362) hZ (wdx hw 90 rfl) (wdx hw 30 rfl) (by decide) (by decide)) q364a q364c (g := (mkF m 342 #[.val (.int size), .val (.int steps), .val (.int chs), .val (.int (3 : Int32)), .val (.int (3 : Int32)), .val (.ref rr_1), .val (.ref rr_3), .val (.ref rr_7), .val (.ref b238), .val (.ref b264), .val (.int (1 : Int32)), .val (.ref rr_7)] [(.ref b264)])) rfl (by rw [hml]; rfl) (Steps.refl _) (argsL := []) (rest := []) (lenOf pd___Z rfl) rfl (by show 2 * 0 + _ ≤ _; exact Nat.le_of_eq rfl) (hb hby at_342) (fun _ _ => ⟨rfl, eq363, (by exact Nat.le_of_ble_eq_true rfl), (by exact Nat.le_of_ble_eq_true rfl)⟩)
      dsimp only [Pt.U, Pt.locs, Pt.cells, Pt.slots] at X364 l364 y364 z364 st364 hQ364
      subst l364 y364 z364
      obtain ⟨rfl, Nq364, eq364⟩ := hQ364
      have N364 := Fr.app N363 Nq364
      refine Go.tr st364 ?_
      show Go p e below s _ _ _ (T364.setTop (mkF m 345 #[.val (.int size), .val (.int steps), .val (.int chs), .val (.int (3 : Int32)), .val (.int (3 : Int32)), .val (.ref rr_1), .val (.ref rr_3), .val (.ref rr_7), .val (.ref b238), .val (.ref b264), .val (.int (1 : Int32)), .val (.ref rr_7)] [(.int (0 : Int32))]))
      refine Go.st (fun _ k' => XS.ifNo X364.here hx rfl (hb hby at_345) rfl (XT.i0_ne_f (by decide)) k') ?_
      show Go p e below s _ _ _ (T364.setTop (mkF m 348 #[.val (.int size), .val (.int steps), .val (.int chs), .val (.int (3 : Int32)), .val (.int (3 : Int32)), .val (.ref rr_1), .val (.ref rr_3), .val (.ref rr_7), .val (.ref b238), .val (.ref b264), .val (.int (1 : Int32)), .val (.ref rr_7)] []))
      refine Go.st (fun _ k' => XS.iload X364.here hx rfl (hb hby at_348) rfl k') ?_
      show Go p e below s _ _ _ (T364.setTop (mkF m 350 #[.val (.int size), .val (.int steps), .val (.int chs), .val (.int (3 : Int32)), .val (.int (3 : Int32)), .val (.ref rr_1), .val (.ref rr_3), .val (.ref rr_7), .val (.ref b238), .val (.ref b264), .val (.int (1 : Int32)), .val (.ref rr_7)] [(.int (1 : Int32))]))
      refine Go.st (fun _ k' => XS.ifNo X364.here hx rfl (hb hby at_350) rfl (XT.i0_eq_f (by decide)) k') ?_
      show Go p e below s _ _ _ (T364.setTop (mkF m 353 #[.val (.int size), .val (.int steps), .val (.int chs), .val (.int (3 : Int32)), .val (.int (3 : Int32)), .val (.ref rr_1), .val (.ref rr_3), .val (.ref rr_7), .val (.ref b238), .val (.ref b264), .val (.int (1 : Int32)), .val (.ref rr_7)] []))
      refine Go.st (fun _ k' => XS.iconst X364.here hx rfl (hb hby at_353) k') ?_
      show Go p e below s _ _ _ (T364.setTop (mkF m 354 #[.val (.int size), .val (.int steps), .val (.int chs), .val (.int (3 : Int32)), .val (.int (3 : Int32)), .val (.ref rr_1), .val (.ref rr_3), .val (.ref rr_7), .val (.ref b238), .val (.ref b264), .val (.int (1 : Int32)), .val (.ref rr_7)] [(.int (1 : Int32))]))
      refine Go.st (fun _ k' => XS.goto X364.here hx rfl (pc0 := 354) (pc' := 358) rfl (hb hby at_354) (by decide) (by decide) k') ?_
      show Go p e below s _ _ _ (T364.setTop (mkF m 358 #[.val (.int size), .val (.int steps), .val (.int chs), .val (.int (3 : Int32)), .val (.int (3 : Int32)), .val (.ref rr_1), .val (.ref rr_3), .val (.ref rr_7), .val (.ref b238), .val (.ref b264), .val (.int (1 : Int32)), .val (.ref rr_7)] [(.int (1 : Int32))]))
      refine Go.st (fun _ k' => XS.istore X364.here hx rfl (hb hby at_358) rfl (l' := #[.val (.int size), .val (.int steps), .val (.int chs), .val (.int (3 : Int32)), .val (.int (3 : Int32)), .val (.ref rr_1), .val (.ref rr_3), .val (.ref rr_7), .val (.ref b238), .val (.ref b264), .val (.int (1 : Int32)), .val (.ref rr_7)]) rfl k') ?_
      show Go p e below s _ _ _ (T364.setTop (mkF m 360 #[.val (.int size), .val (.int steps), .val (.int chs), .val (.int (3 : Int32)), .val (.int (3 : Int32)), .val (.ref rr_1), .val (.ref rr_3), .val (.ref rr_7), .val (.ref b238), .val (.ref b264), .val (.int (1 : Int32)), .val (.ref rr_7)] []))
      refine Go.st (fun _ k' => XS.iload X364.here hx rfl (hb hby at_360) rfl k') ?_
      show Go p e below s _ _ _ (T364.setTop (mkF m 362 #[.val (.int size), .val (.int steps), .val (.int chs), .val (.int (3 : Int32)), .val (.int (3 : Int32)), .val (.ref rr_1), .val (.ref rr_3), .val (.ref rr_7), .val (.ref b238), .val (.ref b264), .val (.int (1 : Int32)), .val (.ref rr_7)] [(.int (1 : Int32))]))
      refine Go.retB X364 hx hlk (t := .boolean) Bd.returns (by simp) (hb hby at_362) (by decide) (by decide) eq364 ?_
      exact ⟨rfl, N364, trivial⟩
set_option maxRecDepth 65536 in
set_option maxHeartbeats 40000000 in
theorem comes_1 {Post : Tables → Env → Array Value → State → Outcome → State → Prop} (hpost : ∀ tb e args s v u, (limb_1_1.after args s (.returned v) u = true ∧ limb_1_2.after args s (.returned v) u = true ∧ True) → FrameEnd s (.returned v) u (Jvm.fieldLocs frame_1_writes args s ++ Jvm.arrayLocs frame_1_arrays args s ++ Jvm.staticLocs frame_1_statics s) 32 192 → Post tb e args s (.returned v) u) :
    ArmFor flags0 classFile x code maxLocals ret World_1 tables_1 room_1 Calls_1 rest_1 Pre_1 Post := by
  intro l hfl _ _ p e ha hc hk s m args below hf hA hF happ hP
  obtain ⟨hcalls, hrest, hpre⟩ := hP
  obtain ⟨-, -, -, hnamed, -, -, -, hat⟩ := (Spec.applies_iff hf).mp happ
  obtain ⟨hg, hn⟩ := and_e (Cond.before_iff.mp (show (Jvm.Cond.and given_1 narrow_1).before args s = true from hpre))
  obtain ⟨hcnt, hg0⟩ := and_e hg
  obtain ⟨ha0, hg1⟩ := and_e hg0
  obtain ⟨ha1, hg2⟩ := and_e hg1
  have ha2 := hg2
  obtain ⟨w0, w1, w2, rfl⟩ : ∃ w0 w1 w2 : Value, args = #[w0, w1, w2] := by
    have hs : args.size = 3 := by simpa [Cond.value, given_1] using hcnt
    obtain ⟨L⟩ := args
    match L, hs with
    | [w0, w1, w2], _ => exact ⟨w0, w1, w2, rfl⟩
  have hw := fun d (hd : d ∈ tables_1) => atoms_spec (ws := Jvm.Cond.code x code maxLocals ret :: tables_1) hat d (List.mem_cons_of_mem _ hd)
  have hfit : Fit s := fun {y c} hc i hi => by
    obtain ⟨ha, rfl⟩ := Array.getElem?_eq_some_iff.mp hc
    have q := List.all_eq_true.mp ((Array.all_eq_true_iff_forall_mem.mp hF) _ (Array.getElem_mem ha)) i (List.mem_range.mpr hi)
    simpa [Array.getElem?_eq_getElem hi] using q
  obtain ⟨hsets, hown0⟩ := atoms_of _ (rest_1_c_eq ▸ (show rest_1_c.before _ s = true from hrest))
  have hr0 := Cond.before_iff.mp hown0
  obtain ⟨i0, ei0⟩ := is_v ha0
  obtain rfl : w0 = (.int i0) := Option.some.inj ei0
  obtain ⟨i1, ei1⟩ := is_v ha1
  obtain rfl : w1 = (.int i1) := Option.some.inj ei1
  obtain ⟨i2, ei2⟩ := is_v ha2
  obtain rfl : w2 = (.int i2) := Option.some.inj ei2
  obtain ⟨cs, S_cs, q_cs⟩ := own_cs (Cond.before_iff.mp (hsets _ (List.mem_of_getElem? (i := 1) rfl))) (Cond.before_iff.mp (hsets _ (List.mem_of_getElem? (i := 2) rfl))) (hsets _ (List.mem_of_getElem? (i := 0) rfl))
  obtain ⟨n, o, h1, h2, h3, _, L, rfl, ⟨rfl, N, -⟩, hq⟩ := rm0 l s _ hw tables_1 i0 i1 i2 cs s.heap s.heap.size (Old.start s) S_cs q_cs p e ha hc hk s m _ below hf ((Spec.applies_iff_loose hf).mp happ).1 ⟨rfl, State.Warmed39.refl s, rfl⟩ trivial
  refine ⟨n, _, h1, h2, h3, hpost _ _ _ _ _ _ ⟨Cond.after_iff.mpr rfl, Cond.after_iff.mpr (eq_i res_at (Term.int_eval (1)) rfl), trivial⟩ ⟨hq.1, hq.2.1, (hq.2.2.sift fun y hy => Or.inr (N y hy)).mono (by decide) (by decide)⟩⟩
theorem main_1_1 : Claimed_1_1 := comes_1 fun _ _ _ _ _ _ h hF => ⟨h.1, hF⟩
theorem main_1_2 : Claimed_1_2 := comes_1 fun _ _ _ _ _ _ h hF => ⟨h.2.1, hF⟩
end Jvm.Pilot.@@N@@
namespace Jvm.Pilot.@@N@@
open Jvm Jvm.ClassFile Sem Op Lib Jvm.Free Jvm.Stand Jvm.Pilot.@@N@@.Jvm.D
/-! MADE BY PROGRAM (witnessworld.py) out of the Statement's table words and the real class files: 27 classes; the members and pool entries that the words name. The judged class is class 1, her method 1. -/
namespace start1
open Jvm.ClassFile
def u (s : String) : CpInfo := .utf8 (stringToUtf16 s)
/-- a pool by its gaps: so many unusable entries, then the entry; so many at the end -/
def gap : Nat → List CpInfo → List CpInfo
  | 0, r => r
  | n + 1, r => .unusable :: gap n r
def poolList (es : List (Nat × CpInfo)) (last : Nat) : List CpInfo := es.foldr (fun e r => gap e.1 (e.2 :: r)) (gap last [])
def pool (es : List (Nat × CpInfo)) (last : Nat) : Array CpInfo := ⟨poolList es last⟩
def fileOf (pool : Array CpInfo) (this : Nat) (attrs : Array Attribute := #[]) (ms : Array MethodInfo := #[]) (fl : Nat := 33) (sup : Nat := 0) (ifs : Array Nat := #[]) (fds : Array FieldInfo := #[]) : ClassFile where
  minorVersion := 0
  majorVersion := 65
  constantPool := pool
  accessFlags := fl
  thisClass := this
  superClass := sup
  interfaces := ifs
  fields := fds
  methods := ms
  attributes := attrs
def plain (name : String) (sup : Option ClassId) : Class where
  name := name
  kind := .ordinary
  loader := none
  accessFlags := 33
  super := sup
  interfaces := #[]
  cf := none
  fields := #[]
  methods := #[]
  instanceTypes := #[]
  staticTypes := #[]
  resolved := #[]
  callSites := []
  init := .initialized
  statics := none
  mirror := none

def pool0 : Array CpInfo := pool [(5, u "<init>"), (0, u "()V"), (1, .class_ 10), (1, u "java/lang/Object"), (85, u "clone"), (0, u "()Ljava/lang/Object;")] 26

def k0c0 : Code := { maxStack := 0, maxLocals := 1, code := object_method_1_code, exceptionTable := #[], attributes := #[] }
def k0m0 : Method := { name := "<init>", desc := "()V", sig := { parameters := [], returnType := none }, accessFlags := 1, code := some k0c0 }
def k0m1 : Method := { name := "clone", desc := "()Ljava/lang/Object;", sig := { parameters := [], returnType := some (.object "java/lang/Object") }, accessFlags := 260, code := none }
/-- java/lang/Object -/
def k0 : Class := { plain "java/lang/Object" none with
  accessFlags := 33
  interfaces := #[]
  cf := some (fileOf pool0 8 #[] #[{ accessFlags := 1, nameIndex := 5, descriptorIndex := 6, attributes := #[] }, { accessFlags := 260, nameIndex := 96, descriptorIndex := 97, attributes := #[] }] 33 0 #[] #[])
  fields := #[]
  methods := #[k0m0, k0m1]
  instanceTypes := #[]
  staticTypes := #[]
  resolved := Array.replicate 124 none
  statics := none }

def pool1 : Array CpInfo := pool [(2, .class_ 4), (1, u "java/lang/Object"), (0, u "<init>"), (0, u "()V"), (0, .methodref 8 9), (0, .class_ 10), (0, .nameAndType 11 12), (0, u "java/lang/String"), (0, u "valueOf"), (0, u "(C)Ljava/lang/String;"), (0, .class_ 14), (0, u "com/example/reportwire/reportwire/Arguments"), (0, .methodref 13 16), (0, .nameAndType 5 17), (0, u "([Ljava/lang/String;)V"), (0, .methodref 13 19), (0, .nameAndType 20 21), (0, u "hasNext"), (0, u "()Z"), (0, .methodref 13 23), (0, .nameAndType 24 25), (0, u "next"), (0, u "()Ljava/lang/String;"), (0, .methodref 8 27), (0, .nameAndType 28 29), (0, u "equals"), (0, u "(Ljava/lang/Object;)Z"), (0, .class_ 31), (0, u "com/example/reportwire/reportwire/ArgumentsHasNextPinLaw"), (2, u "law"), (0, u "(III)Z")] 5

def k1m0 : Method := { name := "<init>", desc := "()V", sig := { parameters := [], returnType := none }, accessFlags := 2, code := none }
def k1c1 : Code := { maxStack := 4, maxLocals := 12, code := code, exceptionTable := #[], attributes := #[] }
def k1m1 : Method := { name := "law", desc := "(III)Z", sig := { parameters := [.int, .int, .int], returnType := some .boolean }, accessFlags := 9, code := some k1c1 }
/-- com/example/reportwire/reportwire/ArgumentsHasNextPinLaw -/
def k1 : Class := { plain "com/example/reportwire/reportwire/ArgumentsHasNextPinLaw" (some 0) with
  accessFlags := 49
  interfaces := #[]
  cf := some (fileOf pool1 30 #[] #[{ accessFlags := 2, nameIndex := 5, descriptorIndex := 6, attributes := #[] }, { accessFlags := 9, nameIndex := 34, descriptorIndex := 35, attributes := #[] }] 49 2 #[] #[])
  fields := #[]
  methods := #[k1m0, k1m1]
  instanceTypes := #[]
  staticTypes := #[]
  resolved := Array.replicate 41 none
  statics := none }

def pool2 : Array CpInfo := pool [(1, .class_ 2), (0, u "java/io/Serializable"), (0, .class_ 4), (0, u "java/lang/Object")] 2

/-- java/io/Serializable -/
def k2 : Class := { plain "java/io/Serializable" (some 0) with
  accessFlags := 1537
  interfaces := #[]
  cf := some (fileOf pool2 1 #[] #[] 1537 3 #[] #[])
  fields := #[]
  methods := #[]
  instanceTypes := #[]
  staticTypes := #[]
  resolved := Array.replicate 7 none
  statics := none }

def pool3 : Array CpInfo := pool [(1, .class_ 2), (0, u "java/lang/Comparable"), (0, .class_ 4), (0, u "java/lang/Object")] 7

/-- java/lang/Comparable -/
def k3 : Class := { plain "java/lang/Comparable" (some 0) with
  accessFlags := 1537
  interfaces := #[]
  cf := some (fileOf pool3 1 #[] #[] 1537 3 #[] #[])
  fields := #[]
  methods := #[]
  instanceTypes := #[]
  staticTypes := #[]
  resolved := Array.replicate 12 none
  statics := none }

def pool4 : Array CpInfo := pool [(2, .class_ 4), (1, u "java/lang/CharSequence"), (42, .class_ 48), (0, u "java/lang/CharSequence$1CodePointIterator"), (10, .class_ 60), (0, u "java/lang/CharSequence$1CharIterator"), (5, .class_ 67), (0, u "java/lang/Object")] 63

/-- java/lang/CharSequence -/
def k4 : Class := { plain "java/lang/CharSequence" (some 0) with
  accessFlags := 1537
  interfaces := #[]
  cf := some (fileOf pool4 2 #[.nestMembers #[47, 59]] #[] 1537 66 #[] #[])
  fields := #[]
  methods := #[]
  instanceTypes := #[]
  staticTypes := #[]
  resolved := Array.replicate 131 none
  statics := none }

def pool5 : Array CpInfo := pool [(1, .class_ 2), (0, u "java/lang/constant/Constable"), (0, .class_ 4), (0, u "java/lang/Object")] 6

/-- java/lang/constant/Constable -/
def k5 : Class := { plain "java/lang/constant/Constable" (some 0) with
  accessFlags := 1537
  interfaces := #[]
  cf := some (fileOf pool5 1 #[] #[] 1537 3 #[] #[])
  fields := #[]
  methods := #[]
  instanceTypes := #[]
  staticTypes := #[]
  resolved := Array.replicate 11 none
  statics := none }

def pool6 : Array CpInfo := pool [(1, .class_ 2), (0, u "java/lang/constant/ConstantDesc"), (0, .class_ 4), (0, u "java/lang/Object")] 32

/-- java/lang/constant/ConstantDesc -/
def k6 : Class := { plain "java/lang/constant/ConstantDesc" (some 0) with
  accessFlags := 1537
  interfaces := #[]
  cf := some (fileOf pool6 1 #[] #[] 1537 3 #[] #[])
  fields := #[]
  methods := #[]
  instanceTypes := #[]
  staticTypes := #[]
  resolved := Array.replicate 37 none
  statics := none }

def pool7 : Array CpInfo := pool [(1, .methodref 2 3), (0, .class_ 4), (0, .nameAndType 5 6), (0, u "java/lang/Object"), (0, u "<init>"), (0, u "()V"), (2, .fieldref 10 11), (0, .class_ 12), (0, .nameAndType 13 14), (0, u "java/lang/String"), (0, u "value"), (0, u "[B"), (0, .fieldref 10 16), (0, .nameAndType 17 18), (0, u "coder"), (0, u "B"), (2, u "hash"), (0, u "I"), (2, u "hashIsZero"), (0, u "Z"), (11, .fieldref 10 39), (0, .nameAndType 40 26), (0, u "COMPACT_STRINGS"), (12, u "toBytes"), (53, .class_ 109), (1, u "java/lang/StringLatin1"), (99, .methodref 10 210), (0, .nameAndType 5 211), (0, u "([BB)V"), (157, u "(C)Z"), (173, u "equals"), (29, u "(Ljava/lang/Object;)Z"), (1, .class_ 576), (0, u "java/lang/CharSequence"), (22, u "CASE_INSENSITIVE_ORDER"), (0, u "Ljava/util/Comparator;"), (181, u "valueOf"), (0, u "(C)Ljava/lang/String;"), (231, .methodref 107 1016), (0, .nameAndType 1017 369), (0, u "canEncode"), (0, .methodref 107 1019), (0, .nameAndType 53 1020), (0, u "(C)[B"), (80, u "serialPersistentFields"), (0, u "[Ljava/io/ObjectStreamField;"), (0, .class_ 1104), (0, u "java/lang/String$CaseInsensitiveComparator"), (1, .class_ 1107), (0, u "java/io/Serializable"), (0, .class_ 1109), (0, u "java/lang/Comparable"), (0, .class_ 1111), (0, u "java/lang/constant/Constable"), (0, .class_ 1113), (0, u "java/lang/constant/ConstantDesc"), (2, u "serialVersionUID"), (0, u "J"), (3, u "REPL"), (0, u "C"), (2, u "LATIN1"), (1, u "UTF16")] 323

def k7m0 : Method := { name := "<init>", desc := "()V", sig := { parameters := [], returnType := none }, accessFlags := 1, code := none }
def k7c1 : Code := { maxStack := 2, maxLocals := 3, code := jdk_42_method_66_code, exceptionTable := #[], attributes := #[] }
def k7m1 : Method := { name := "equals", desc := "(Ljava/lang/Object;)Z", sig := { parameters := [(.object "java/lang/Object")], returnType := some .boolean }, accessFlags := 1, code := some k7c1 }
def k7c2 : Code := { maxStack := 4, maxLocals := 1, code := jdk_42_method_139_code, exceptionTable := #[], attributes := #[] }
def k7m2 : Method := { name := "valueOf", desc := "(C)Ljava/lang/String;", sig := { parameters := [.char], returnType := some (.object "java/lang/String") }, accessFlags := 9, code := some k7c2 }
def k7c3 : Code := { maxStack := 2, maxLocals := 3, code := jdk_42_method_151_code, exceptionTable := #[], attributes := #[] }
def k7m3 : Method := { name := "<init>", desc := "([BB)V", sig := { parameters := [(.array .byte), .byte], returnType := none }, accessFlags := 0, code := some k7c3 }
/-- java/lang/String -/
def k7 : Class := { plain "java/lang/String" (some 0) with
  accessFlags := 49
  interfaces := #[2, 3, 4, 5, 6]
  cf := some (fileOf pool7 10 #[.nestMembers #[1103]] #[{ accessFlags := 1, nameIndex := 5, descriptorIndex := 6, attributes := #[] }, { accessFlags := 1, nameIndex := 543, descriptorIndex := 573, attributes := #[] }, { accessFlags := 9, nameIndex := 782, descriptorIndex := 783, attributes := #[] }, { accessFlags := 0, nameIndex := 5, descriptorIndex := 211, attributes := #[] }] 49 2 #[1106, 1108, 575, 1110, 1112] #[{ accessFlags := 18, nameIndex := 13, descriptorIndex := 14, attributes := #[] }, { accessFlags := 18, nameIndex := 17, descriptorIndex := 18, attributes := #[] }, { accessFlags := 2, nameIndex := 21, descriptorIndex := 22, attributes := #[] }, { accessFlags := 2, nameIndex := 25, descriptorIndex := 26, attributes := #[] }, { accessFlags := 26, nameIndex := 1116, descriptorIndex := 1117, attributes := #[] }, { accessFlags := 24, nameIndex := 40, descriptorIndex := 26, attributes := #[] }, { accessFlags := 26, nameIndex := 1101, descriptorIndex := 1102, attributes := #[] }, { accessFlags := 26, nameIndex := 1121, descriptorIndex := 1122, attributes := #[] }, { accessFlags := 25, nameIndex := 599, descriptorIndex := 600, attributes := #[] }, { accessFlags := 24, nameIndex := 1125, descriptorIndex := 18, attributes := #[] }, { accessFlags := 24, nameIndex := 1127, descriptorIndex := 18, attributes := #[] }])
  fields := #[{ name := "value", type := (.array .byte), accessFlags := 18, slot := 0, constantValue := 0 }, { name := "coder", type := .byte, accessFlags := 18, slot := 1, constantValue := 0 }, { name := "hash", type := .int, accessFlags := 2, slot := 2, constantValue := 0 }, { name := "hashIsZero", type := .boolean, accessFlags := 2, slot := 3, constantValue := 0 }, { name := "serialVersionUID", type := .long, accessFlags := 26, slot := 0, constantValue := 0 }, { name := "COMPACT_STRINGS", type := .boolean, accessFlags := 24, slot := 1, constantValue := 0 }, { name := "serialPersistentFields", type := (.array (.object "java/io/ObjectStreamField")), accessFlags := 26, slot := 2, constantValue := 0 }, { name := "REPL", type := .char, accessFlags := 26, slot := 3, constantValue := 0 }, { name := "CASE_INSENSITIVE_ORDER", type := (.object "java/util/Comparator"), accessFlags := 25, slot := 4, constantValue := 0 }, { name := "LATIN1", type := .byte, accessFlags := 24, slot := 5, constantValue := 0 }, { name := "UTF16", type := .byte, accessFlags := 24, slot := 6, constantValue := 0 }]
  methods := #[k7m0, k7m1, k7m2, k7m3]
  instanceTypes := #[(.array .byte), .byte, .int, .boolean]
  staticTypes := #[.long, .boolean, (.array (.object "java/io/ObjectStreamField")), .char, (.object "java/util/Comparator"), .byte, .byte]
  resolved := Array.replicate 1451 none
  statics := some 0 }

def pool8 : Array CpInfo := pool [(4, .class_ 6), (1, u "java/lang/Object"), (0, u "<init>"), (0, u "()V"), (5, .class_ 16), (1, u "java/lang/StringLatin1"), (73, u "canEncode"), (14, u "(C)Z"), (15, u "$assertionsDisabled"), (0, u "Z"), (98, .class_ 223), (1, u "java/lang/StringLatin1$LinesSpliterator"), (156, u "toBytes"), (1, u "(C)[B"), (7, .class_ 391), (0, u "java/lang/StringLatin1$CharsSpliterator")] 3

def k8m0 : Method := { name := "<init>", desc := "()V", sig := { parameters := [], returnType := none }, accessFlags := 0, code := none }
def k8c1 : Code := { maxStack := 2, maxLocals := 1, code := jdk_43_method_3_code, exceptionTable := #[], attributes := #[] }
def k8m1 : Method := { name := "canEncode", desc := "(C)Z", sig := { parameters := [.char], returnType := some .boolean }, accessFlags := 9, code := some k8c1 }
def k8c2 : Code := { maxStack := 4, maxLocals := 1, code := jdk_43_method_46_code, exceptionTable := #[], attributes := #[] }
def k8m2 : Method := { name := "toBytes", desc := "(C)[B", sig := { parameters := [.char], returnType := some (.array .byte) }, accessFlags := 9, code := some k8c2 }
/-- java/lang/StringLatin1 -/
def k8 : Class := { plain "java/lang/StringLatin1" (some 0) with
  accessFlags := 48
  interfaces := #[]
  cf := some (fileOf pool8 14 #[.nestMembers #[390, 221]] #[{ accessFlags := 0, nameIndex := 7, descriptorIndex := 8, attributes := #[] }, { accessFlags := 9, nameIndex := 90, descriptorIndex := 105, attributes := #[] }, { accessFlags := 9, nameIndex := 380, descriptorIndex := 382, attributes := #[] }] 48 4 #[] #[{ accessFlags := 4120, nameIndex := 121, descriptorIndex := 122, attributes := #[] }])
  fields := #[{ name := "$assertionsDisabled", type := .boolean, accessFlags := 4120, slot := 0, constantValue := 0 }]
  methods := #[k8m0, k8m1, k8m2]
  instanceTypes := #[]
  staticTypes := #[.boolean]
  resolved := Array.replicate 395 none
  statics := none }

def pool9 : Array CpInfo := pool [(1, .methodref 2 3), (0, .class_ 4), (0, .nameAndType 5 6), (0, u "java/lang/Object"), (0, u "<init>"), (0, u "()V"), (0, .class_ 8), (0, u "java/util/HashSet"), (0, .methodref 7 3), (0, .fieldref 11 12), (0, .class_ 13), (0, .nameAndType 14 15), (0, u "com/example/reportwire/reportwire/Arguments"), (0, u "optionsGiven"), (0, u "Ljava/util/Set;"), (0, .methodref 17 18), (0, .class_ 19), (0, .nameAndType 20 21), (0, u "[Ljava/lang/String;"), (0, u "clone"), (0, u "()Ljava/lang/Object;"), (0, .fieldref 11 23), (0, .nameAndType 24 19), (0, u "args"), (2, u "command"), (0, u "Ljava/lang/String;"), (4, u "()Ljava/lang/String;"), (26, .fieldref 11 61), (0, .nameAndType 62 63), (0, u "next"), (0, u "I"), (6, .methodref 11 71), (0, .nameAndType 72 73), (0, u "hasNext"), (0, u "()Z"), (2, .methodref 11 77), (0, .nameAndType 78 33), (0, u "peek"), (301, u "HELP_OPTION"), (1, u "DATE_TIME_FORM"), (2, u "([Ljava/lang/String;)V")] 134

def k9c0 : Code := { maxStack := 3, maxLocals := 2, code := prog_7_method_1_code, exceptionTable := #[], attributes := #[] }
def k9m0 : Method := { name := "<init>", desc := "([Ljava/lang/String;)V", sig := { parameters := [(.array (.object "java/lang/String"))], returnType := none }, accessFlags := 128, code := some k9c0 }
def k9c1 : Code := { maxStack := 2, maxLocals := 1, code := prog_7_method_7_code, exceptionTable := #[], attributes := #[] }
def k9m1 : Method := { name := "hasNext", desc := "()Z", sig := { parameters := [], returnType := some .boolean }, accessFlags := 0, code := some k9c1 }
def k9c2 : Code := { maxStack := 3, maxLocals := 1, code := prog_7_method_9_code, exceptionTable := #[], attributes := #[] }
def k9m2 : Method := { name := "peek", desc := "()Ljava/lang/String;", sig := { parameters := [], returnType := some (.object "java/lang/String") }, accessFlags := 0, code := some k9c2 }
def k9c3 : Code := { maxStack := 3, maxLocals := 2, code := prog_7_method_10_code, exceptionTable := #[], attributes := #[] }
def k9m3 : Method := { name := "next", desc := "()Ljava/lang/String;", sig := { parameters := [], returnType := some (.object "java/lang/String") }, accessFlags := 0, code := some k9c3 }
/-- com/example/reportwire/reportwire/Arguments -/
def k9 : Class := { plain "com/example/reportwire/reportwire/Arguments" (some 0) with
  accessFlags := 48
  interfaces := #[]
  cf := some (fileOf pool9 11 #[] #[{ accessFlags := 128, nameIndex := 5, descriptorIndex := 385, attributes := #[] }, { accessFlags := 0, nameIndex := 72, descriptorIndex := 73, attributes := #[] }, { accessFlags := 0, nameIndex := 78, descriptorIndex := 33, attributes := #[] }, { accessFlags := 0, nameIndex := 62, descriptorIndex := 33, attributes := #[] }] 48 2 #[] #[{ accessFlags := 24, nameIndex := 380, descriptorIndex := 28, attributes := #[] }, { accessFlags := 24, nameIndex := 382, descriptorIndex := 28, attributes := #[] }, { accessFlags := 18, nameIndex := 24, descriptorIndex := 19, attributes := #[] }, { accessFlags := 18, nameIndex := 14, descriptorIndex := 15, attributes := #[] }, { accessFlags := 2, nameIndex := 62, descriptorIndex := 63, attributes := #[] }, { accessFlags := 2, nameIndex := 27, descriptorIndex := 28, attributes := #[] }])
  fields := #[{ name := "HELP_OPTION", type := (.object "java/lang/String"), accessFlags := 24, slot := 0, constantValue := 0 }, { name := "DATE_TIME_FORM", type := (.object "java/lang/String"), accessFlags := 24, slot := 1, constantValue := 0 }, { name := "args", type := (.array (.object "java/lang/String")), accessFlags := 18, slot := 0, constantValue := 0 }, { name := "optionsGiven", type := (.object "java/util/Set"), accessFlags := 18, slot := 1, constantValue := 0 }, { name := "next", type := .int, accessFlags := 2, slot := 2, constantValue := 0 }, { name := "command", type := (.object "java/lang/String"), accessFlags := 2, slot := 3, constantValue := 0 }]
  methods := #[k9m0, k9m1, k9m2, k9m3]
  instanceTypes := #[(.array (.object "java/lang/String")), (.object "java/util/Set"), .int, (.object "java/lang/String")]
  staticTypes := #[(.object "java/lang/String"), (.object "java/lang/String")]
  resolved := Array.replicate 520 none
  statics := none }

def pool10 : Array CpInfo := pool [(8, .class_ 10), (1, u "java/lang/Iterable"), (24, .class_ 36), (0, u "java/lang/Object")] 25

/-- java/lang/Iterable -/
def k10 : Class := { plain "java/lang/Iterable" (some 0) with
  accessFlags := 1537
  interfaces := #[]
  cf := some (fileOf pool10 8 #[] #[] 1537 35 #[] #[])
  fields := #[]
  methods := #[]
  instanceTypes := #[]
  staticTypes := #[]
  resolved := Array.replicate 62 none
  statics := none }

def pool11 : Array CpInfo := pool [(10, .class_ 12), (1, u "java/util/Collection"), (47, .class_ 61), (0, u "java/lang/Object"), (0, .class_ 63), (0, u "java/lang/Iterable")] 51

/-- java/util/Collection -/
def k11 : Class := { plain "java/util/Collection" (some 0) with
  accessFlags := 1537
  interfaces := #[10]
  cf := some (fileOf pool11 10 #[] #[] 1537 60 #[62] #[])
  fields := #[]
  methods := #[]
  instanceTypes := #[]
  staticTypes := #[]
  resolved := Array.replicate 115 none
  statics := none }

def pool12 : Array CpInfo := pool [(1, .methodref 2 3), (0, .class_ 4), (0, .nameAndType 5 6), (0, u "java/lang/Object"), (0, u "<init>"), (0, u "()V"), (1, .class_ 10), (1, u "java/util/AbstractCollection"), (66, .class_ 78), (0, u "java/util/Collection")] 81

def k12c0 : Code := { maxStack := 1, maxLocals := 1, code := jdk_22_method_1_code, exceptionTable := #[], attributes := #[] }
def k12m0 : Method := { name := "<init>", desc := "()V", sig := { parameters := [], returnType := none }, accessFlags := 4, code := some k12c0 }
/-- java/util/AbstractCollection -/
def k12 : Class := { plain "java/util/AbstractCollection" (some 0) with
  accessFlags := 1057
  interfaces := #[11]
  cf := some (fileOf pool12 8 #[] #[{ accessFlags := 4, nameIndex := 5, descriptorIndex := 6, attributes := #[] }] 1057 2 #[77] #[])
  fields := #[]
  methods := #[k12m0]
  instanceTypes := #[]
  staticTypes := #[]
  resolved := Array.replicate 160 none
  statics := none }

def pool13 : Array CpInfo := pool [(26, .class_ 27), (0, u "java/lang/Object"), (5, .class_ 34), (0, u "java/util/Set"), (1, .class_ 38), (1, u "java/util/Collection")] 105

/-- java/util/Set -/
def k13 : Class := { plain "java/util/Set" (some 0) with
  accessFlags := 1537
  interfaces := #[11]
  cf := some (fileOf pool13 33 #[] #[] 1537 26 #[36] #[])
  fields := #[]
  methods := #[]
  instanceTypes := #[]
  staticTypes := #[]
  resolved := Array.replicate 144 none
  statics := none }

def pool14 : Array CpInfo := pool [(1, .methodref 2 3), (0, .class_ 4), (0, .nameAndType 5 6), (0, u "java/util/AbstractCollection"), (0, u "<init>"), (0, u "()V"), (0, .class_ 8), (0, u "java/util/Set"), (7, .class_ 17), (0, u "java/util/AbstractSet")] 78

def k14c0 : Code := { maxStack := 1, maxLocals := 1, code := jdk_91_method_1_code, exceptionTable := #[], attributes := #[] }
def k14m0 : Method := { name := "<init>", desc := "()V", sig := { parameters := [], returnType := none }, accessFlags := 4, code := some k14c0 }
/-- java/util/AbstractSet -/
def k14 : Class := { plain "java/util/AbstractSet" (some 12) with
  accessFlags := 1057
  interfaces := #[13]
  cf := some (fileOf pool14 16 #[] #[{ accessFlags := 4, nameIndex := 5, descriptorIndex := 6, attributes := #[] }] 1057 2 #[7] #[])
  fields := #[]
  methods := #[k14m0]
  instanceTypes := #[]
  staticTypes := #[]
  resolved := Array.replicate 96 none
  statics := none }

def pool15 : Array CpInfo := pool [(1, .class_ 2), (0, u "java/lang/Cloneable"), (0, .class_ 4), (0, u "java/lang/Object")] 2

/-- java/lang/Cloneable -/
def k15 : Class := { plain "java/lang/Cloneable" (some 0) with
  accessFlags := 1537
  interfaces := #[]
  cf := some (fileOf pool15 1 #[] #[] 1537 3 #[] #[])
  fields := #[]
  methods := #[]
  instanceTypes := #[]
  staticTypes := #[]
  resolved := Array.replicate 7 none
  statics := none }

def pool16 : Array CpInfo := pool [(1, .methodref 2 3), (0, .class_ 4), (0, .nameAndType 5 6), (0, u "java/util/AbstractSet"), (0, u "<init>"), (0, u "()V"), (0, .class_ 8), (0, u "java/util/HashMap"), (0, .methodref 7 3), (0, .fieldref 11 12), (0, .class_ 13), (0, .nameAndType 14 15), (0, u "java/util/HashSet"), (0, u "map"), (0, u "Ljava/util/HashMap;"), (34, .class_ 52), (1, u "java/util/Set"), (13, u "PRESENT"), (0, u "Ljava/lang/Object;"), (158, .class_ 227), (0, u "java/lang/Cloneable"), (0, .class_ 229), (0, u "java/io/Serializable"), (0, u "serialVersionUID"), (0, u "J")] 71

def k16c0 : Code := { maxStack := 3, maxLocals := 1, code := jdk_93_method_1_code, exceptionTable := #[], attributes := #[] }
def k16m0 : Method := { name := "<init>", desc := "()V", sig := { parameters := [], returnType := none }, accessFlags := 1, code := some k16c0 }
/-- java/util/HashSet -/
def k16 : Class := { plain "java/util/HashSet" (some 14) with
  accessFlags := 33
  interfaces := #[13, 15, 2]
  cf := some (fileOf pool16 11 #[] #[{ accessFlags := 1, nameIndex := 5, descriptorIndex := 6, attributes := #[] }] 33 2 #[50, 226, 228] #[{ accessFlags := 24, nameIndex := 230, descriptorIndex := 231, attributes := #[] }, { accessFlags := 128, nameIndex := 14, descriptorIndex := 15, attributes := #[] }, { accessFlags := 24, nameIndex := 66, descriptorIndex := 67, attributes := #[] }])
  fields := #[{ name := "serialVersionUID", type := .long, accessFlags := 24, slot := 0, constantValue := 0 }, { name := "map", type := (.object "java/util/HashMap"), accessFlags := 128, slot := 0, constantValue := 0 }, { name := "PRESENT", type := (.object "java/lang/Object"), accessFlags := 24, slot := 1, constantValue := 0 }]
  methods := #[k16m0]
  instanceTypes := #[(.object "java/util/HashMap")]
  staticTypes := #[.long, (.object "java/lang/Object")]
  resolved := Array.replicate 303 none
  statics := none }

def pool17 : Array CpInfo := pool [(2, .class_ 4), (1, u "java/util/Map"), (31, .class_ 37), (0, u "java/util/Map$Entry"), (55, .class_ 94), (0, u "java/lang/Object")] 168

/-- java/util/Map -/
def k17 : Class := { plain "java/util/Map" (some 0) with
  accessFlags := 1537
  interfaces := #[]
  cf := some (fileOf pool17 2 #[.nestMembers #[36]] #[] 1537 93 #[] #[])
  fields := #[]
  methods := #[]
  instanceTypes := #[]
  staticTypes := #[]
  resolved := Array.replicate 263 none
  statics := none }

def pool18 : Array CpInfo := pool [(1, .methodref 2 3), (0, .class_ 4), (0, .nameAndType 5 6), (0, u "java/lang/Object"), (0, u "<init>"), (0, u "()V"), (1, .class_ 10), (1, u "java/util/AbstractMap"), (42, .class_ 54), (0, u "java/util/Map"), (9, u "keySet"), (0, u "Ljava/util/Set;"), (0, .class_ 67), (0, u "java/util/AbstractMap$1"), (5, u "values"), (0, u "Ljava/util/Collection;"), (0, .class_ 76), (0, u "java/util/AbstractMap$2"), (104, .class_ 182), (0, u "java/util/AbstractMap$ViewCollection"), (0, .class_ 184), (0, u "java/util/AbstractMap$SimpleImmutableEntry"), (0, .class_ 186), (0, u "java/util/AbstractMap$SimpleEntry"), (0, .class_ 188), (0, u "java/util/AbstractMap$2$1"), (0, .class_ 190), (0, u "java/util/AbstractMap$1$1")] 5

def k18c0 : Code := { maxStack := 1, maxLocals := 1, code := jdk_71_method_1_code, exceptionTable := #[], attributes := #[] }
def k18m0 : Method := { name := "<init>", desc := "()V", sig := { parameters := [], returnType := none }, accessFlags := 4, code := some k18c0 }
/-- java/util/AbstractMap -/
def k18 : Class := { plain "java/util/AbstractMap" (some 0) with
  accessFlags := 1057
  interfaces := #[17]
  cf := some (fileOf pool18 8 #[.nestMembers #[181, 183, 185, 75, 187, 66, 189]] #[{ accessFlags := 4, nameIndex := 5, descriptorIndex := 6, attributes := #[] }] 1057 2 #[53] #[{ accessFlags := 128, nameIndex := 64, descriptorIndex := 65, attributes := #[] }, { accessFlags := 128, nameIndex := 73, descriptorIndex := 74, attributes := #[] }])
  fields := #[{ name := "keySet", type := (.object "java/util/Set"), accessFlags := 128, slot := 0, constantValue := 0 }, { name := "values", type := (.object "java/util/Collection"), accessFlags := 128, slot := 1, constantValue := 0 }]
  methods := #[k18m0]
  instanceTypes := #[(.object "java/util/Set"), (.object "java/util/Collection")]
  staticTypes := #[]
  resolved := Array.replicate 196 none
  statics := none }

def pool19 : Array CpInfo := pool [(40, .class_ 41), (0, u "java/util/HashMap"), (1, .methodref 44 45), (0, .class_ 46), (0, .nameAndType 47 48), (0, u "java/util/AbstractMap"), (0, u "<init>"), (0, u "()V"), (32, .fieldref 40 82), (0, .nameAndType 83 84), (0, u "loadFactor"), (0, u "F"), (5, u "threshold"), (0, u "I"), (0, .float 1061158912), (8, .class_ 103), (1, u "java/util/Map"), (0, u "size"), (2, u "table"), (0, u "[Ljava/util/HashMap$Node;"), (14, u "entrySet"), (39, .class_ 165), (1, u "java/util/HashMap$Node"), (14, .class_ 181), (0, u "java/util/HashMap$TreeNode"), (22, u "modCount"), (37, u "Ljava/util/Set;"), (0, .class_ 244), (0, u "java/util/HashMap$KeySet"), (18, .class_ 264), (0, u "java/util/HashMap$Values"), (3, .class_ 269), (0, u "java/util/HashMap$EntrySet"), (76, .class_ 348), (1, u "java/util/HashMap$UnsafeHolder"), (43, .class_ 393), (0, u "java/lang/Cloneable"), (0, .class_ 395), (0, u "java/io/Serializable"), (0, u "serialVersionUID"), (0, u "J"), (3, u "DEFAULT_INITIAL_CAPACITY"), (1, u "MAXIMUM_CAPACITY"), (0, u "DEFAULT_LOAD_FACTOR"), (0, u "TREEIFY_THRESHOLD"), (1, u "UNTREEIFY_THRESHOLD"), (1, u "MIN_TREEIFY_CAPACITY"), (186, .class_ 597), (0, u "java/util/HashMap$EntrySpliterator"), (0, .class_ 599), (0, u "java/util/HashMap$ValueSpliterator"), (0, .class_ 601), (0, u "java/util/HashMap$KeySpliterator"), (0, .class_ 603), (0, u "java/util/HashMap$HashMapSpliterator"), (0, .class_ 605), (0, u "java/util/HashMap$EntryIterator"), (0, .class_ 607), (0, u "java/util/HashMap$ValueIterator"), (0, .class_ 609), (0, u "java/util/HashMap$KeyIterator"), (0, .class_ 611), (0, u "java/util/HashMap$HashIterator")] 17

def k19c0 : Code := { maxStack := 2, maxLocals := 1, code := jdk_69_method_7_code, exceptionTable := #[], attributes := #[] }
def k19m0 : Method := { name := "<init>", desc := "()V", sig := { parameters := [], returnType := none }, accessFlags := 1, code := some k19c0 }
/-- java/util/HashMap -/
def k19 : Class := { plain "java/util/HashMap" (some 18) with
  accessFlags := 33
  interfaces := #[17, 15, 2]
  cf := some (fileOf pool19 40 #[.nestMembers #[180, 596, 598, 600, 602, 604, 606, 608, 610, 346, 268, 263, 243, 163]] #[{ accessFlags := 1, nameIndex := 47, descriptorIndex := 48, attributes := #[] }] 33 44 #[101, 392, 394] #[{ accessFlags := 26, nameIndex := 396, descriptorIndex := 397, attributes := #[] }, { accessFlags := 24, nameIndex := 401, descriptorIndex := 91, attributes := #[] }, { accessFlags := 24, nameIndex := 403, descriptorIndex := 91, attributes := #[] }, { accessFlags := 24, nameIndex := 404, descriptorIndex := 84, attributes := #[] }, { accessFlags := 24, nameIndex := 405, descriptorIndex := 91, attributes := #[] }, { accessFlags := 24, nameIndex := 407, descriptorIndex := 91, attributes := #[] }, { accessFlags := 24, nameIndex := 409, descriptorIndex := 91, attributes := #[] }, { accessFlags := 128, nameIndex := 107, descriptorIndex := 108, attributes := #[] }, { accessFlags := 128, nameIndex := 123, descriptorIndex := 242, attributes := #[] }, { accessFlags := 128, nameIndex := 104, descriptorIndex := 91, attributes := #[] }, { accessFlags := 128, nameIndex := 204, descriptorIndex := 91, attributes := #[] }, { accessFlags := 0, nameIndex := 90, descriptorIndex := 91, attributes := #[] }, { accessFlags := 16, nameIndex := 83, descriptorIndex := 84, attributes := #[] }])
  fields := #[{ name := "serialVersionUID", type := .long, accessFlags := 26, slot := 0, constantValue := 0 }, { name := "DEFAULT_INITIAL_CAPACITY", type := .int, accessFlags := 24, slot := 1, constantValue := 0 }, { name := "MAXIMUM_CAPACITY", type := .int, accessFlags := 24, slot := 2, constantValue := 0 }, { name := "DEFAULT_LOAD_FACTOR", type := .float, accessFlags := 24, slot := 3, constantValue := 0 }, { name := "TREEIFY_THRESHOLD", type := .int, accessFlags := 24, slot := 4, constantValue := 0 }, { name := "UNTREEIFY_THRESHOLD", type := .int, accessFlags := 24, slot := 5, constantValue := 0 }, { name := "MIN_TREEIFY_CAPACITY", type := .int, accessFlags := 24, slot := 6, constantValue := 0 }, { name := "table", type := (.array (.object "java/util/HashMap$Node")), accessFlags := 128, slot := 2, constantValue := 0 }, { name := "entrySet", type := (.object "java/util/Set"), accessFlags := 128, slot := 3, constantValue := 0 }, { name := "size", type := .int, accessFlags := 128, slot := 4, constantValue := 0 }, { name := "modCount", type := .int, accessFlags := 128, slot := 5, constantValue := 0 }, { name := "threshold", type := .int, accessFlags := 0, slot := 6, constantValue := 0 }, { name := "loadFactor", type := .float, accessFlags := 16, slot := 7, constantValue := 0 }]
  methods := #[k19m0]
  instanceTypes := #[(.object "java/util/Set"), (.object "java/util/Collection"), (.array (.object "java/util/HashMap$Node")), (.object "java/util/Set"), .int, .int, .int, .float]
  staticTypes := #[.long, .int, .int, .float, .int, .int, .int]
  resolved := Array.replicate 629 none
  statics := none }

def pool20 : Array CpInfo := pool [(2, .class_ 4), (1, u "java/lang/Object"), (0, u "<init>"), (0, u "()V"), (17, .class_ 26), (1, u "jdk/internal/util/Preconditions"), (28, .class_ 56), (0, u "jdk/internal/util/Preconditions$4"), (57, .class_ 115), (0, u "jdk/internal/util/Preconditions$1"), (7, u "SIOOBE_FORMATTER"), (0, u "Ljava/util/function/BiFunction;"), (0, .class_ 126), (0, u "jdk/internal/util/Preconditions$2"), (3, u "AIOOBE_FORMATTER"), (0, .class_ 132), (0, u "jdk/internal/util/Preconditions$3"), (3, u "IOOBE_FORMATTER")] 57

def k20m0 : Method := { name := "<init>", desc := "()V", sig := { parameters := [], returnType := none }, accessFlags := 1, code := none }
/-- jdk/internal/util/Preconditions -/
def k20 : Class := { plain "jdk/internal/util/Preconditions" (some 0) with
  accessFlags := 33
  interfaces := #[]
  cf := some (fileOf pool20 24 #[.nestMembers #[55, 131, 125, 114]] #[{ accessFlags := 1, nameIndex := 5, descriptorIndex := 6, attributes := #[] }] 33 2 #[] #[{ accessFlags := 25, nameIndex := 123, descriptorIndex := 124, attributes := #[] }, { accessFlags := 25, nameIndex := 130, descriptorIndex := 124, attributes := #[] }, { accessFlags := 25, nameIndex := 136, descriptorIndex := 124, attributes := #[] }])
  fields := #[{ name := "SIOOBE_FORMATTER", type := (.object "java/util/function/BiFunction"), accessFlags := 25, slot := 0, constantValue := 0 }, { name := "AIOOBE_FORMATTER", type := (.object "java/util/function/BiFunction"), accessFlags := 25, slot := 1, constantValue := 0 }, { name := "IOOBE_FORMATTER", type := (.object "java/util/function/BiFunction"), accessFlags := 25, slot := 2, constantValue := 0 }]
  methods := #[k20m0]
  instanceTypes := #[]
  staticTypes := #[(.object "java/util/function/BiFunction"), (.object "java/util/function/BiFunction"), (.object "java/util/function/BiFunction")]
  resolved := Array.replicate 194 none
  statics := some 1 }

def pool21 : Array CpInfo := pool [(9, u "<init>"), (6, .class_ 18), (1, u "java/lang/Object"), (0, u "()V"), (1, .class_ 23), (1, u "jdk/internal/util/ArraysSupport"), (0, u "LOG2_ARRAY_LONG_INDEX_SCALE"), (0, u "I"), (2, u "U"), (0, u "Ljdk/internal/misc/Unsafe;"), (8, u "BIG_ENDIAN"), (0, u "Z"), (8, u "LOG2_BYTE_BIT_SIZE"), (4, u "LOG2_ARRAY_INT_INDEX_SCALE"), (54, u "JLA"), (0, u "Ljdk/internal/access/JavaLangAccess;"), (11, u "LOG2_ARRAY_BOOLEAN_INDEX_SCALE"), (9, u "LOG2_ARRAY_BYTE_INDEX_SCALE"), (5, u "LOG2_ARRAY_CHAR_INDEX_SCALE"), (5, u "LOG2_ARRAY_SHORT_INDEX_SCALE"), (18, u "LOG2_ARRAY_FLOAT_INDEX_SCALE"), (24, u "LOG2_ARRAY_DOUBLE_INDEX_SCALE"), (89, u "T_BOOLEAN"), (2, u "T_CHAR"), (1, u "T_FLOAT"), (1, u "T_DOUBLE"), (1, u "T_BYTE"), (1, u "T_SHORT"), (1, u "T_INT"), (1, u "T_LONG"), (1, u "SOFT_MAX_ARRAY_LENGTH")] 83

def k21m0 : Method := { name := "<init>", desc := "()V", sig := { parameters := [], returnType := none }, accessFlags := 2, code := none }
/-- jdk/internal/util/ArraysSupport -/
def k21 : Class := { plain "jdk/internal/util/ArraysSupport" (some 0) with
  accessFlags := 33
  interfaces := #[]
  cf := some (fileOf pool21 21 #[] #[{ accessFlags := 2, nameIndex := 9, descriptorIndex := 19, attributes := #[] }] 33 16 #[] #[{ accessFlags := 24, nameIndex := 28, descriptorIndex := 29, attributes := #[] }, { accessFlags := 26, nameIndex := 38, descriptorIndex := 39, attributes := #[] }, { accessFlags := 25, nameIndex := 121, descriptorIndex := 25, attributes := #[] }, { accessFlags := 25, nameIndex := 131, descriptorIndex := 25, attributes := #[] }, { accessFlags := 25, nameIndex := 137, descriptorIndex := 25, attributes := #[] }, { accessFlags := 25, nameIndex := 143, descriptorIndex := 25, attributes := #[] }, { accessFlags := 25, nameIndex := 53, descriptorIndex := 25, attributes := #[] }, { accessFlags := 25, nameIndex := 24, descriptorIndex := 25, attributes := #[] }, { accessFlags := 25, nameIndex := 162, descriptorIndex := 25, attributes := #[] }, { accessFlags := 25, nameIndex := 187, descriptorIndex := 25, attributes := #[] }, { accessFlags := 26, nameIndex := 48, descriptorIndex := 25, attributes := #[] }, { accessFlags := 25, nameIndex := 277, descriptorIndex := 25, attributes := #[] }, { accessFlags := 25, nameIndex := 280, descriptorIndex := 25, attributes := #[] }, { accessFlags := 25, nameIndex := 282, descriptorIndex := 25, attributes := #[] }, { accessFlags := 25, nameIndex := 284, descriptorIndex := 25, attributes := #[] }, { accessFlags := 25, nameIndex := 286, descriptorIndex := 25, attributes := #[] }, { accessFlags := 25, nameIndex := 288, descriptorIndex := 25, attributes := #[] }, { accessFlags := 25, nameIndex := 290, descriptorIndex := 25, attributes := #[] }, { accessFlags := 25, nameIndex := 292, descriptorIndex := 25, attributes := #[] }, { accessFlags := 26, nameIndex := 108, descriptorIndex := 109, attributes := #[] }, { accessFlags := 25, nameIndex := 294, descriptorIndex := 25, attributes := #[] }])
  fields := #[{ name := "U", type := (.object "jdk/internal/misc/Unsafe"), accessFlags := 24, slot := 0, constantValue := 0 }, { name := "BIG_ENDIAN", type := .boolean, accessFlags := 26, slot := 1, constantValue := 0 }, { name := "LOG2_ARRAY_BOOLEAN_INDEX_SCALE", type := .int, accessFlags := 25, slot := 2, constantValue := 0 }, { name := "LOG2_ARRAY_BYTE_INDEX_SCALE", type := .int, accessFlags := 25, slot := 3, constantValue := 0 }, { name := "LOG2_ARRAY_CHAR_INDEX_SCALE", type := .int, accessFlags := 25, slot := 4, constantValue := 0 }, { name := "LOG2_ARRAY_SHORT_INDEX_SCALE", type := .int, accessFlags := 25, slot := 5, constantValue := 0 }, { name := "LOG2_ARRAY_INT_INDEX_SCALE", type := .int, accessFlags := 25, slot := 6, constantValue := 0 }, { name := "LOG2_ARRAY_LONG_INDEX_SCALE", type := .int, accessFlags := 25, slot := 7, constantValue := 0 }, { name := "LOG2_ARRAY_FLOAT_INDEX_SCALE", type := .int, accessFlags := 25, slot := 8, constantValue := 0 }, { name := "LOG2_ARRAY_DOUBLE_INDEX_SCALE", type := .int, accessFlags := 25, slot := 9, constantValue := 0 }, { name := "LOG2_BYTE_BIT_SIZE", type := .int, accessFlags := 26, slot := 10, constantValue := 0 }, { name := "T_BOOLEAN", type := .int, accessFlags := 25, slot := 11, constantValue := 0 }, { name := "T_CHAR", type := .int, accessFlags := 25, slot := 12, constantValue := 0 }, { name := "T_FLOAT", type := .int, accessFlags := 25, slot := 13, constantValue := 0 }, { name := "T_DOUBLE", type := .int, accessFlags := 25, slot := 14, constantValue := 0 }, { name := "T_BYTE", type := .int, accessFlags := 25, slot := 15, constantValue := 0 }, { name := "T_SHORT", type := .int, accessFlags := 25, slot := 16, constantValue := 0 }, { name := "T_INT", type := .int, accessFlags := 25, slot := 17, constantValue := 0 }, { name := "T_LONG", type := .int, accessFlags := 25, slot := 18, constantValue := 0 }, { name := "JLA", type := (.object "jdk/internal/access/JavaLangAccess"), accessFlags := 26, slot := 19, constantValue := 0 }, { name := "SOFT_MAX_ARRAY_LENGTH", type := .int, accessFlags := 25, slot := 20, constantValue := 0 }]
  methods := #[k21m0]
  instanceTypes := #[]
  staticTypes := #[(.object "jdk/internal/misc/Unsafe"), .boolean, .int, .int, .int, .int, .int, .int, .int, .int, .int, .int, .int, .int, .int, .int, .int, .int, .int, (.object "jdk/internal/access/JavaLangAccess"), .int]
  resolved := Array.replicate 378 none
  statics := none }

/-- the primitive byte -/
def k22 : Class := { plain "byte" none with kind := .primitive 'B', accessFlags := 0x411 }
/-- [B -/
def k23 : Class := { plain "[B" (some 0) with kind := .array 22 .byte, interfaces := #[15, 2], accessFlags := 1041 }

/-- the primitive int -/
def k24 : Class := { plain "int" none with kind := .primitive 'I', accessFlags := 0x411 }
/-- [I -/
def k25 : Class := { plain "[I" (some 0) with kind := .array 24 .int, interfaces := #[15, 2], accessFlags := 1041 }

/-- [Ljava/lang/String; -/
def k26 : Class := { plain "[Ljava/lang/String;" (some 0) with kind := .array 7 (.object "java/lang/String"), interfaces := #[15, 2], accessFlags := 1041 }

def heap : Heap := #[{ cls := 7, slots := #[.long 0, .int 1, .null, .int 0, .null, .int 0, .int 0], vm := .statics 7 },
  { cls := 20, slots := #[.null, .null, .null], vm := .statics 20 }]
def classes : Array Class := #[k0, k1, k2, k3, k4, k5, k6, k7, k8, k9, k10, k11, k12, k13, k14, k15, k16, k17, k18, k19, k20, k21, k22, k23, k24, k25, k26]
def interned : List (Array UInt16 × Addr) := []
def slotsUsed : Nat := 10
def theMethod : MethodId := ⟨1, 1⟩
def args0 : Array Value := #[.int 5, .int 5, .int 5]
def aboutOver (below : List Frame) : State where
  vm := { classes := classes, interned := interned.toArray }
  heap := heap
  slotsUsed := slotsUsed
  threads := #[{ frames := .invoking theMethod args0 :: below }]
def below0 : List Frame := [.native { method := ⟨0, 0⟩, args := #[] }]
def about1 : State := aboutOver below0
def p0 : Program := .bare "" "" ""
def e0 : Env := launch0.env 0 0 0
theorem w_frames : about1.frames = Frame.invoking theMethod args0 :: below0 := rfl
set_option maxRecDepth 65536 in
theorem w_args : argsFit about1.vm theMethod args0 = true := by decide +kernel
set_option maxRecDepth 65536 in
theorem w_heap : heapFits about1 = true := by decide +kernel
set_option maxRecDepth 65536 in
theorem w_runnable : about1.curStatus? = some .runnable := by decide +kernel
set_option maxRecDepth 65536 in
theorem w_alone : about1.alone = true := by decide +kernel
set_option maxRecDepth 65536 in
theorem w_named : about1.methodNamed? x = some theMethod := by decide +kernel
set_option maxRecDepth 65536 in
theorem w_hears : about1.hears theMethod below0 = true := by decide +kernel
set_option maxRecDepth 65536 in
theorem w_ripe : about1.ripe theMethod args0 below0 = true := by decide +kernel
theorem w_running : about1.status = .running := rfl
set_option maxRecDepth 65536 in
theorem w_room : about1.hasRoom e0.platform room_1 = true :=
  launch0.hasRoom_least _ room_1 (by decide +kernel) (by decide +kernel) (by decide +kernel) (by decide +kernel) (by decide +kernel) (by decide +kernel)
theorem allAtoms_all (ts : List Jvm.Cond) (a : Array Jvm.Value) (st : Jvm.State) : (allAtoms ts).before a st = ts.all (fun c => c.before a st) := by
  induction ts with
  | nil => rfl
  | cons c t ih =>
    show (Jvm.Cond.and c (allAtoms t)).before a st = _
    rw [Jvm.Cond.before_and, ih, List.all_cons]
def words1 : List Jvm.Cond := Jvm.Cond.code x code maxLocals ret :: tables_1
/-- a 'code' word, met by the world's own term for the bytes: nothing is compared byte by byte -/
theorem code_word {y : MethodName} {bytes : ByteArray} {mx : Nat} {rt : Option FieldType} {a : Array Value} {s : State} {m : MethodId} {meth : Method} {c : Code} (h1 : s.methodNamed? y = some m) (h2 : s.vm.method? m = some meth) (h3 : meth.code = some c) (h4 : c.code = bytes)
    (h5 : (c.maxLocals == mx && c.exceptionTable.isEmpty && decide (c.maxStack ≤ mostOperands) && decide (meth.sig.returnType = rt) && !meth.locks && decide (parseMethodDescriptor y.desc = some meth.sig)) = true) : (Jvm.Cond.code y bytes mx rt).before a s = true := by
  simp only [Bool.and_eq_true, beq_iff_eq, Bool.not_eq_true', decide_eq_true_eq] at h5
  obtain ⟨⟨⟨⟨⟨g1, g2⟩, g3⟩, g4⟩, g5⟩, g6⟩ := h5
  simp [Cond.before, Cond.holds, Cond.value, h1, h2, h3, h4, g1, g2, g3, g4, g5, g6]
def isCode : Jvm.Cond → Bool
  | .code _ _ _ _ => true
  | _ => false
theorem all_split {L : List Jvm.Cond} {P : Jvm.Cond → Bool} (h1 : L.all (fun c => isCode c || P c) = true) (h2 : ∀ c ∈ L.filter isCode, P c = true) : L.all P = true := by
  refine List.all_eq_true.mpr fun c hc => ?_
  have h := List.all_eq_true.mp h1 c hc
  rcases Bool.eq_false_or_eq_true (isCode c) with hi | hi
  · exact h2 c (List.mem_filter.mpr ⟨hc, hi⟩)
  · simpa [hi] using h
set_option maxRecDepth 65536 in
theorem w_c0 : (Jvm.Cond.code x code maxLocals ret).before args0 about1 = true := code_word (m := ⟨1, 1⟩) (meth := k1m1) (c := k1c1) (by decide +kernel) rfl rfl rfl (by decide +kernel)
set_option maxRecDepth 65536 in
theorem w_c1 : (Jvm.Cond.code ({ cls := "java/lang/String", name := "valueOf", desc := "(C)Ljava/lang/String;" } : Jvm.MethodName) jdk_42_method_139_code (1 : Nat) (Option.some (Jvm.ClassFile.FieldType.object "java/lang/String"))).before args0 about1 = true := code_word (m := ⟨7, 2⟩) (meth := k7m2) (c := k7c2) (by decide +kernel) rfl rfl rfl (by decide +kernel)
set_option maxRecDepth 65536 in
theorem w_c2 : (Jvm.Cond.code ({ cls := "java/lang/StringLatin1", name := "canEncode", desc := "(C)Z" } : Jvm.MethodName) jdk_43_method_3_code (1 : Nat) (Option.some Jvm.ClassFile.FieldType.boolean)).before args0 about1 = true := code_word (m := ⟨8, 1⟩) (meth := k8m1) (c := k8c1) (by decide +kernel) rfl rfl rfl (by decide +kernel)
set_option maxRecDepth 65536 in
theorem w_c3 : (Jvm.Cond.code ({ cls := "java/lang/StringLatin1", name := "toBytes", desc := "(C)[B" } : Jvm.MethodName) jdk_43_method_46_code (1 : Nat) (Option.some (Jvm.ClassFile.FieldType.array Jvm.ClassFile.FieldType.byte))).before args0 about1 = true := code_word (m := ⟨8, 2⟩) (meth := k8m2) (c := k8c2) (by decide +kernel) rfl rfl rfl (by decide +kernel)
set_option maxRecDepth 65536 in
theorem w_c4 : (Jvm.Cond.code ({ cls := "java/lang/String", name := "<init>", desc := "([BB)V" } : Jvm.MethodName) jdk_42_method_151_code (3 : Nat) (Option.none : Option Jvm.ClassFile.FieldType)).before args0 about1 = true := code_word (m := ⟨7, 3⟩) (meth := k7m3) (c := k7c3) (by decide +kernel) rfl rfl rfl (by decide +kernel)
set_option maxRecDepth 65536 in
theorem w_c5 : (Jvm.Cond.code ({ cls := "java/lang/Object", name := "<init>", desc := "()V" } : Jvm.MethodName) object_method_1_code (1 : Nat) (Option.none : Option Jvm.ClassFile.FieldType)).before args0 about1 = true := code_word (m := ⟨0, 0⟩) (meth := k0m0) (c := k0c0) (by decide +kernel) rfl rfl rfl (by decide +kernel)
set_option maxRecDepth 65536 in
theorem w_c6 : (Jvm.Cond.code ({ cls := "com/example/reportwire/reportwire/Arguments", name := "<init>", desc := "([Ljava/lang/String;)V" } : Jvm.MethodName) prog_7_method_1_code (2 : Nat) (Option.none : Option Jvm.ClassFile.FieldType)).before args0 about1 = true := code_word (m := ⟨9, 0⟩) (meth := k9m0) (c := k9c0) (by decide +kernel) rfl rfl rfl (by decide +kernel)
set_option maxRecDepth 65536 in
theorem w_c7 : (Jvm.Cond.code ({ cls := "java/util/HashSet", name := "<init>", desc := "()V" } : Jvm.MethodName) jdk_93_method_1_code (1 : Nat) (Option.none : Option Jvm.ClassFile.FieldType)).before args0 about1 = true := code_word (m := ⟨16, 0⟩) (meth := k16m0) (c := k16c0) (by decide +kernel) rfl rfl rfl (by decide +kernel)
set_option maxRecDepth 65536 in
theorem w_c8 : (Jvm.Cond.code ({ cls := "java/util/AbstractSet", name := "<init>", desc := "()V" } : Jvm.MethodName) jdk_91_method_1_code (1 : Nat) (Option.none : Option Jvm.ClassFile.FieldType)).before args0 about1 = true := code_word (m := ⟨14, 0⟩) (meth := k14m0) (c := k14c0) (by decide +kernel) rfl rfl rfl (by decide +kernel)
set_option maxRecDepth 65536 in
theorem w_c9 : (Jvm.Cond.code ({ cls := "java/util/AbstractCollection", name := "<init>", desc := "()V" } : Jvm.MethodName) jdk_22_method_1_code (1 : Nat) (Option.none : Option Jvm.ClassFile.FieldType)).before args0 about1 = true := code_word (m := ⟨12, 0⟩) (meth := k12m0) (c := k12c0) (by decide +kernel) rfl rfl rfl (by decide +kernel)
set_option maxRecDepth 65536 in
theorem w_c10 : (Jvm.Cond.code ({ cls := "java/util/HashMap", name := "<init>", desc := "()V" } : Jvm.MethodName) jdk_69_method_7_code (1 : Nat) (Option.none : Option Jvm.ClassFile.FieldType)).before args0 about1 = true := code_word (m := ⟨19, 0⟩) (meth := k19m0) (c := k19c0) (by decide +kernel) rfl rfl rfl (by decide +kernel)
set_option maxRecDepth 65536 in
theorem w_c11 : (Jvm.Cond.code ({ cls := "java/util/AbstractMap", name := "<init>", desc := "()V" } : Jvm.MethodName) jdk_71_method_1_code (1 : Nat) (Option.none : Option Jvm.ClassFile.FieldType)).before args0 about1 = true := code_word (m := ⟨18, 0⟩) (meth := k18m0) (c := k18c0) (by decide +kernel) rfl rfl rfl (by decide +kernel)
set_option maxRecDepth 65536 in
theorem w_c12 : (Jvm.Cond.code ({ cls := "com/example/reportwire/reportwire/Arguments", name := "hasNext", desc := "()Z" } : Jvm.MethodName) prog_7_method_7_code (1 : Nat) (Option.some Jvm.ClassFile.FieldType.boolean)).before args0 about1 = true := code_word (m := ⟨9, 1⟩) (meth := k9m1) (c := k9c1) (by decide +kernel) rfl rfl rfl (by decide +kernel)
set_option maxRecDepth 65536 in
theorem w_c13 : (Jvm.Cond.code ({ cls := "com/example/reportwire/reportwire/Arguments", name := "next", desc := "()Ljava/lang/String;" } : Jvm.MethodName) prog_7_method_10_code (2 : Nat) (Option.some (Jvm.ClassFile.FieldType.object "java/lang/String"))).before args0 about1 = true := code_word (m := ⟨9, 3⟩) (meth := k9m3) (c := k9c3) (by decide +kernel) rfl rfl rfl (by decide +kernel)
set_option maxRecDepth 65536 in
theorem w_c14 : (Jvm.Cond.code ({ cls := "com/example/reportwire/reportwire/Arguments", name := "peek", desc := "()Ljava/lang/String;" } : Jvm.MethodName) prog_7_method_9_code (1 : Nat) (Option.some (Jvm.ClassFile.FieldType.object "java/lang/String"))).before args0 about1 = true := code_word (m := ⟨9, 2⟩) (meth := k9m2) (c := k9c2) (by decide +kernel) rfl rfl rfl (by decide +kernel)
set_option maxRecDepth 65536 in
theorem w_c15 : (Jvm.Cond.code ({ cls := "java/lang/String", name := "equals", desc := "(Ljava/lang/Object;)Z" } : Jvm.MethodName) jdk_42_method_66_code (3 : Nat) (Option.some Jvm.ClassFile.FieldType.boolean)).before args0 about1 = true := code_word (m := ⟨7, 1⟩) (meth := k7m1) (c := k7c1) (by decide +kernel) rfl rfl rfl (by decide +kernel)
def codes1 : List Jvm.Cond := [Jvm.Cond.code x code maxLocals ret, Jvm.Cond.code ({ cls := "java/lang/String", name := "valueOf", desc := "(C)Ljava/lang/String;" } : Jvm.MethodName) jdk_42_method_139_code (1 : Nat) (Option.some (Jvm.ClassFile.FieldType.object "java/lang/String")), Jvm.Cond.code ({ cls := "java/lang/StringLatin1", name := "canEncode", desc := "(C)Z" } : Jvm.MethodName) jdk_43_method_3_code (1 : Nat) (Option.some Jvm.ClassFile.FieldType.boolean), Jvm.Cond.code ({ cls := "java/lang/StringLatin1", name := "toBytes", desc := "(C)[B" } : Jvm.MethodName) jdk_43_method_46_code (1 : Nat) (Option.some (Jvm.ClassFile.FieldType.array Jvm.ClassFile.FieldType.byte)), Jvm.Cond.code ({ cls := "java/lang/String", name := "<init>", desc := "([BB)V" } : Jvm.MethodName) jdk_42_method_151_code (3 : Nat) (Option.none : Option Jvm.ClassFile.FieldType), Jvm.Cond.code ({ cls := "java/lang/Object", name := "<init>", desc := "()V" } : Jvm.MethodName) object_method_1_code (1 : Nat) (Option.none : Option Jvm.ClassFile.FieldType), Jvm.Cond.code ({ cls := "com/example/reportwire/reportwire/Arguments", name := "<init>", desc := "([Ljava/lang/String;)V" } : Jvm.MethodName) prog_7_method_1_code (2 : Nat) (Option.none : Option Jvm.ClassFile.FieldType), Jvm.Cond.code ({ cls := "java/util/HashSet", name := "<init>", desc := "()V" } : Jvm.MethodName) jdk_93_method_1_code (1 : Nat) (Option.none : Option Jvm.ClassFile.FieldType), Jvm.Cond.code ({ cls := "java/util/AbstractSet", name := "<init>", desc := "()V" } : Jvm.MethodName) jdk_91_method_1_code (1 : Nat) (Option.none : Option Jvm.ClassFile.FieldType), Jvm.Cond.code ({ cls := "java/util/AbstractCollection", name := "<init>", desc := "()V" } : Jvm.MethodName) jdk_22_method_1_code (1 : Nat) (Option.none : Option Jvm.ClassFile.FieldType), Jvm.Cond.code ({ cls := "java/util/HashMap", name := "<init>", desc := "()V" } : Jvm.MethodName) jdk_69_method_7_code (1 : Nat) (Option.none : Option Jvm.ClassFile.FieldType), Jvm.Cond.code ({ cls := "java/util/AbstractMap", name := "<init>", desc := "()V" } : Jvm.MethodName) jdk_71_method_1_code (1 : Nat) (Option.none : Option Jvm.ClassFile.FieldType), Jvm.Cond.code ({ cls := "com/example/reportwire/reportwire/Arguments", name := "hasNext", desc := "()Z" } : Jvm.MethodName) prog_7_method_7_code (1 : Nat) (Option.some Jvm.ClassFile.FieldType.boolean), Jvm.Cond.code ({ cls := "com/example/reportwire/reportwire/Arguments", name := "next", desc := "()Ljava/lang/String;" } : Jvm.MethodName) prog_7_method_10_code (2 : Nat) (Option.some (Jvm.ClassFile.FieldType.object "java/lang/String")), Jvm.Cond.code ({ cls := "com/example/reportwire/reportwire/Arguments", name := "peek", desc := "()Ljava/lang/String;" } : Jvm.MethodName) prog_7_method_9_code (1 : Nat) (Option.some (Jvm.ClassFile.FieldType.object "java/lang/String")), Jvm.Cond.code ({ cls := "java/lang/String", name := "equals", desc := "(Ljava/lang/Object;)Z" } : Jvm.MethodName) jdk_42_method_66_code (3 : Nat) (Option.some Jvm.ClassFile.FieldType.boolean)]
set_option maxRecDepth 65536 in
theorem codes_eq : words1.filter isCode = codes1 := rfl
theorem w_codes : ∀ c ∈ words1.filter isCode, c.before args0 about1 = true := by
  rw [codes_eq]
  intro c hc
  simp only [codes1, List.mem_cons, List.not_mem_nil, or_false] at hc
  rcases hc with rfl | rfl | rfl | rfl | rfl | rfl | rfl | rfl | rfl | rfl | rfl | rfl | rfl | rfl | rfl | rfl
  · exact w_c0
  · exact w_c1
  · exact w_c2
  · exact w_c3
  · exact w_c4
  · exact w_c5
  · exact w_c6
  · exact w_c7
  · exact w_c8
  · exact w_c9
  · exact w_c10
  · exact w_c11
  · exact w_c12
  · exact w_c13
  · exact w_c14
  · exact w_c15
set_option maxRecDepth 65536 in
theorem w_t1 : (words1.take 24).all (fun c => isCode c || c.before args0 about1) = true := by decide +kernel
set_option maxRecDepth 65536 in
theorem w_t2 : ((words1.drop 24).take 24).all (fun c => isCode c || c.before args0 about1) = true := by decide +kernel
set_option maxRecDepth 65536 in
theorem w_t3 : (((words1.drop 24).drop 24).take 24).all (fun c => isCode c || c.before args0 about1) = true := by decide +kernel
set_option maxRecDepth 65536 in
theorem w_t4 : ((((words1.drop 24).drop 24).drop 24).take 24).all (fun c => isCode c || c.before args0 about1) = true := by decide +kernel
set_option maxRecDepth 65536 in
theorem w_t5 : ((((words1.drop 24).drop 24).drop 24).drop 24).all (fun c => isCode c || c.before args0 about1) = true := by decide +kernel
theorem w_tables : (allAtoms (Jvm.Cond.code x code maxLocals ret :: tables_1)).before args0 about1 = true := by
  rw [allAtoms_all]
  show words1.all (fun c => c.before args0 about1) = true
  refine all_split ?_ w_codes
  rw [← List.take_append_drop 24 words1, List.all_append, w_t1, ← List.take_append_drop 24 (words1.drop 24), List.all_append, w_t2, ← List.take_append_drop 24 ((words1.drop 24).drop 24), List.all_append, w_t3, ← List.take_append_drop 24 (((words1.drop 24).drop 24).drop 24), List.all_append, w_t4, w_t5]
  rfl
set_option maxRecDepth 65536 in
theorem w_rest : rest_1_c.before args0 about1 = true := by decide +kernel
set_option maxRecDepth 65536 in
theorem w_case : (Jvm.Cond.and given_1 narrow_1).before args0 about1 = true := by decide +kernel
theorem w_applies : (headSpec (Jvm.Cond.code x code maxLocals ret :: tables_1) room_1).applies x e0.platform about1 = true :=
  (Spec.applies_iff w_frames).mpr ⟨w_running, w_runnable, w_alone, w_named, w_hears, w_ripe, w_room, w_tables⟩
theorem atStart : AtStart classFile x code maxLocals ret World_1 tables_1 room_1 Calls_1 rest_1 Pre_1 launch0 p0 e0 about1 theMethod args0 below0 :=
  ⟨lists_1, trivial, launch0.admits_env _ _ _, launch0.least_env, fairChoices_fair.cas, fairChoices_fair.clock, w_frames, w_args, w_heap, w_applies, trivial, w_rest, w_case⟩
end start1
theorem witness_1 : WitnessClaimed_1 := ⟨start1.p0, start1.e0, start1.about1, start1.theMethod, start1.args0, start1.below0, start1.atStart⟩
end Jvm.Pilot.@@N@@
