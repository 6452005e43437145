import JvmDerived
import JvmDerived.Pilot.@@N@@Statement
import JvmDerived.Pilot.@@N@@Code
set_option linter.unusedVariables false
set_option linter.unusedSimpArgs false
namespace Jvm.Pilot.@@N@@
open Jvm Jvm.ClassFile Sem Op Lib Jvm.Free Jvm.Stand Jvm.LawKit Jvm.RoadKit Bundle Jvm.Pilot.@@N@@.Jvm.D
theorem wdx {a0 : Array Value} {Z : State} (hw : ∀ d ∈ tables_1, d.before a0 Z = true) (i : Nat) {d : Jvm.Cond} (h : tables_1[i]? = some d) : d.before a0 Z = true := hw d (List.mem_of_getElem? h)
/-! the walk in one predicate: from S the run comes to an end at which Q holds -/
def Go (p : Program) (e : Env) (below : List Frame) (s : State) (rc rs : Nat) (Q : Option Value → Heap → List Loc → Prop) (S : State) : Prop :=
  ∃ t o, Steps p.tables e below S t ∧ t.status = .running ∧ Ended t below o ∧ ∃ v L, o = .returned v ∧ Q v t.heap L ∧ FrameEnd s o t L rc rs
section Pre
variable {p : Program} {l : Launch} {e : Env} {R : Room} {s : State} {m : MethodId} {args : Array Value} {below : List Frame} {meth : Method} {c : Code} {T : State} {locs : List Loc} {cells slots rc rs : Nat} {Q : Option Value → Heap → List Loc → Prop} {S S' : State} {h : Heap} {Z : State} {n0 : Nat}
theorem Go.st (k : ∀ t, Steps p.tables e below S' t → Steps p.tables e below S t) (g : Go p e below s rc rs Q S') : Go p e below s rc rs Q S := by
  obtain ⟨t, o, h, r⟩ := g; exact ⟨t, o, k t h, r⟩
theorem Go.tr (k : Steps p.tables e below S S') (g : Go p e below s rc rs Q S') : Go p e below s rc rs Q S := by
  obtain ⟨t, o, h, r⟩ := g; exact ⟨t, o, k.trans h, r⟩
theorem Go.ret (X : Stand p l e R s m args below meth c T locs cells slots) (hx : p.tables.exec = Jvm.exec) (hlk : meth.locks = false) {pc : Nat} {Ls : Array Slot} {w : Value} {t : FieldType} {i : Instr} {rest : List Value} (hret : meth.sig.returnType = some t) (hn : narrow t w = w)
    (hi : (i = .ireturn ∧ (t = .int ∨ t = .boolean ∨ t = .byte ∨ t = .char ∨ t = .short) ∧ ∃ z, w = .int z) ∨ (i = .lreturn ∧ t = .long ∧ ∃ z, w = .long z) ∨ (i = .dreturn ∧ t = .double ∧ ∃ z, w = .double z) ∨ (i = .freturn ∧ t = .float ∧ ∃ z, w = .float z) ∨ (i = .areturn ∧ t.isReference = true ∧ w.isRef = true))
    (hd : decode c.code pc = .ok (i, 1)) (hc : cells ≤ rc) (hs : slots ≤ rs) (hh : T.heap = h) (hq : Q (some w) h locs) : Go p e below s rc rs Q (T.setTop (mkF m pc Ls (w :: rest))) := by
  obtain ⟨fs, hr, hrun, hended, hW, hsame⟩ := X.leave (v := some w) (fun h => by rw [hret] at h; cases h) hlk
  subst hh
  exact ⟨_, _, retOut X hx hret hn hi hd hr, hrun, hended, _, _, rfl, hq, ⟨_, rfl⟩, hW, hsame.mono hc hs⟩
theorem Go.retB (X : Stand p l e R s m args below meth c T locs cells slots) (hx : p.tables.exec = Jvm.exec) (hlk : meth.locks = false) {pc : Nat} {Ls : Array Slot} {z : Int32} {t : FieldType} {rest : List Value} (hret : meth.sig.returnType = some t) (ht : t = .boolean ∨ t = .byte ∨ t = .char ∨ t = .short)
    (hd : decode c.code pc = .ok (.ireturn, 1)) (hc : cells ≤ rc) (hs : slots ≤ rs) (hh : T.heap = h) (hq : Q (some (.int (nar t z))) h locs) : Go p e below s rc rs Q (T.setTop (mkF m pc Ls (.int z :: rest))) := by
  obtain ⟨fs, hr, hrun, hended, hW, hsame⟩ := X.leave (v := some (.int (nar t z))) (fun h => by rw [hret] at h; cases h) hlk
  subst hh
  exact ⟨_, _, retN X hx hret ht hd hr, hrun, hended, _, _, rfl, hq, ⟨_, rfl⟩, hW, hsame.mono hc hs⟩
theorem Go.retV (X : Stand p l e R s m args below meth c T locs cells slots) (hx : p.tables.exec = Jvm.exec) (hlk : meth.locks = false) {pc : Nat} {Ls : Array Slot} (hret : meth.sig.returnType = none)
    (hd : decode c.code pc = .ok (.return_, 1)) (hc : cells ≤ rc) (hs : slots ≤ rs) (hh : T.heap = h) (hq : Q none h locs) : Go p e below s rc rs Q (T.setTop (mkF m pc Ls [])) := by
  obtain ⟨fs, hr, hrun, hended, hW, hsame⟩ := X.leave (v := none) (fun _ => rfl) hlk
  subst hh
  exact ⟨_, _, X.returnOut hx hret hd hr, hrun, hended, _, _, rfl, hq, ⟨_, rfl⟩, hW, hsame.mono hc hs⟩
theorem own_le (O : Old Z n0 h) : n0 ≤ h.size := O.1 ▸ O.2.1
theorem own_nb (b : Bool) : nar .boolean (if b then 1 else 0) = if b then 1 else 0 := by cases b <;> rfl
end Pre
theorem own_ch (u : Int32) : ¬ (255 : Int32) < (u &&& (255 : Int32)).toUInt32.toUInt16.toUInt32.toInt32 := by
  rw [i2c_mask, Int32.lt_iff_toInt_lt]
  have := c_mask u 255 8 (by decide) (by decide)
  have e : (255 : Int32).toInt = 255 := rfl
  omega
theorem own_cn (u : Int32) : ¬ (255 : Int32) < nar .char ((u &&& (255 : Int32)).toUInt32.toUInt16.toUInt32.toInt32) := by
  have e : nar .char ((u &&& (255 : Int32)).toUInt32.toUInt16.toUInt32.toInt32) = (u &&& (255 : Int32)).toUInt32.toUInt16.toUInt32.toInt32 := by
    rw [i2c_mask]; exact i2c_mask u
  rw [e]; exact own_ch u
theorem own_cs {s : State} {args : Array Value} {C n d : String} (h1 : (Jvm.Cond.isInt (Term.static C n d)).value args s none s [] = some true) (h2 : (Jvm.Cond.not (Jvm.Cond.eq (Term.static C n d) (Term.int 0))).value args s none s [] = some true) (hi : (Jvm.Cond.initializedFor C n d).before args s = true) : ∃ z : Int32, Sta s s.heap C n d (.int z) ∧ ¬ z = 0 := by
  obtain ⟨z, ev⟩ := is_v h1
  refine ⟨z, Sta.start ev (Or.inl hi), fun q => ?_⟩
  subst q
  have h3 : (Jvm.Cond.eq (Term.static C n d) (Term.int 0)).value args s none s [] = some true := eq_i ev rfl rfl
  rw [Cond.value, h3] at h2
  cases h2
theorem own_c4 (u : Int32) : u &&& (3 : Int32) = 0 ∨ u &&& (3 : Int32) = 1 ∨ u &&& (3 : Int32) = 2 ∨ u &&& (3 : Int32) = 3 := by
  have h := c_mask u 3 2 (by decide) (by decide)
  generalize u &&& (3 : Int32) = y at *
  have : y.toInt = 0 ∨ y.toInt = 1 ∨ y.toInt = 2 ∨ y.toInt = 3 := by omega
  rcases this with h | h | h | h
  · exact Or.inl (Int32.toInt_inj.mp h)
  · exact Or.inr (Or.inl (Int32.toInt_inj.mp h))
  · exact Or.inr (Or.inr (Or.inl (Int32.toInt_inj.mp h)))
  · exact Or.inr (Or.inr (Or.inr (Int32.toInt_inj.mp h)))
theorem own_rr4 (y : Int32) (h0 : 0 ≤ y.toInt) (h1 : y.toInt < 4) : y = 0 ∨ y = 1 ∨ y = 2 ∨ y = 3 := by
  have h : y.toInt = 0 ∨ y.toInt = 1 ∨ y.toInt = 2 ∨ y.toInt = 3 := by omega
  rcases h with h | h | h | h
  · exact Or.inl (Int32.toInt_inj.mp h)
  · exact Or.inr (Or.inl (Int32.toInt_inj.mp h))
  · exact Or.inr (Or.inr (Or.inl (Int32.toInt_inj.mp h)))
  · exact Or.inr (Or.inr (Or.inr ((Int32.toInt_inj.mp h))))
theorem own_k4 (u : Int32) : let y := (u &&& (2147483647 : Int32)) % (4 : Int32); y = 0 ∨ y = 1 ∨ y = 2 ∨ y = 3 := by
  intro y
  have hp : 0 ≤ (u &&& (2147483647 : Int32)).toInt := (c_andS u 2147483647).2.2 (by decide)
  have hm : y.toInt = (u &&& (2147483647 : Int32)).toInt % 4 := (c_irem (u &&& (2147483647 : Int32)) 4 4 rfl).1 hp
  exact own_rr4 y (by omega) (by omega)
theorem d5_0 : decode jdk_52_method_21_code 0 = .ok (.iconst 0, 1) := by decide +kernel
theorem d5_1 : decode jdk_52_method_21_code 1 = .ok (.istore 5, 2) := by decide +kernel
theorem d5_3 : decode jdk_52_method_21_code 3 = .ok (.iload 5, 2) := by decide +kernel
theorem d5_5 : decode jdk_52_method_21_code 5 = .ok (.iload 4, 2) := by decide +kernel
theorem d5_7 : decode jdk_52_method_21_code 7 = .ok (.if_icmp .ge 37, 3) := by decide +kernel
theorem d5_10 : decode jdk_52_method_21_code 10 = .ok (.aload_n 0, 1) := by decide +kernel
theorem d5_11 : decode jdk_52_method_21_code 11 = .ok (.iload_n 1, 1) := by decide +kernel
theorem d5_12 : decode jdk_52_method_21_code 12 = .ok (.caload, 1) := by decide +kernel
theorem d5_13 : decode jdk_52_method_21_code 13 = .ok (.istore 6, 2) := by decide +kernel
theorem d5_15 : decode jdk_52_method_21_code 15 = .ok (.iload 6, 2) := by decide +kernel
theorem d5_17 : decode jdk_52_method_21_code 17 = .ok (.sipush 255, 3) := by decide +kernel
theorem d5_20 : decode jdk_52_method_21_code 20 = .ok (.if_icmp .le 6, 3) := by decide +kernel
theorem d5_26 : decode jdk_52_method_21_code 26 = .ok (.aload_n 2, 1) := by decide +kernel
theorem d5_27 : decode jdk_52_method_21_code 27 = .ok (.iload_n 3, 1) := by decide +kernel
theorem d5_28 : decode jdk_52_method_21_code 28 = .ok (.iload 6, 2) := by decide +kernel
theorem d5_30 : decode jdk_52_method_21_code 30 = .ok (.i2b, 1) := by decide +kernel
theorem d5_31 : decode jdk_52_method_21_code 31 = .ok (.bastore, 1) := by decide +kernel
theorem d5_32 : decode jdk_52_method_21_code 32 = .ok (.iinc 1 1, 3) := by decide +kernel
theorem d5_35 : decode jdk_52_method_21_code 35 = .ok (.iinc 3 1, 3) := by decide +kernel
theorem d5_38 : decode jdk_52_method_21_code 38 = .ok (.iinc 5 1, 3) := by decide +kernel
theorem d5_41 : decode jdk_52_method_21_code 41 = .ok (.goto (-38), 3) := by decide +kernel
theorem d5_44 : decode jdk_52_method_21_code 44 = .ok (.iload 4, 2) := by decide +kernel
theorem d5_46 : decode jdk_52_method_21_code 46 = .ok (.ireturn, 1) := by decide +kernel
theorem pn_java_lang_StringUTF16 : plainName "java/lang/StringUTF16" = true := by first | (simp [plainName, overriddenIn]; done) | decide +kernel
theorem ef_rm5_1 (m : MethodId) (aa : Addr) (bb : Addr) : entryFrame m #[(.ref aa), (.int (0 : Int32)), (.ref bb), (.int (0 : Int32)), (.int (1 : Int32))] 7 = mkF m 0 #[.val (.ref aa), .val (.int (0 : Int32)), .val (.ref bb), .val (.int (0 : Int32)), .val (.int (1 : Int32)), .unset, .unset] [] := by first | (simp [entryFrame, mkF, argsToLocals, Value.category]; done) | rfl
def Q5_1 (Z : State) (aa : Addr) (bb : Addr) (ka : ClassId) (kb : ClassId) (ca : Int32) (h0 : Heap) (n0 : Nat) (v : Option Value) (h : Heap) (L : List Loc) : Prop := v = some (.int (1 : Int32)) ∧ Fr n0 L ∧ Keep h0 h [bb] ∧ Arv Z h bb kb .byte (1 : Int32) [(.int (nar .byte (ca.toInt8.toInt32)))] (.int (0 : Int32))
set_option maxRecDepth 65536 in
set_option maxHeartbeats 40000000 in
theorem rm5_1 (l : Launch) (Z : State) (a0 : Array Value) (hw : ∀ d ∈ tables_1, d.before a0 Z = true) (ws : List Jvm.Cond) (aa : Addr) (bb : Addr) (ka : ClassId) (kb : ClassId) (ca : Int32) (h0 : Heap) (n0 : Nat) (O0 : Old Z n0 h0) (Va : Arv Z h0 aa ka .char (1 : Int32) [(.int ca)] (.int (0 : Int32))) (Vb : Arv Z h0 bb kb .byte (1 : Int32) [(.int (0 : Int32))] (.int (0 : Int32))) (q_ca : ¬ (255 : Int32) < ca) (g_b : n0 ≤ bb) (ne_ab : aa ≠ bb) :
    MetFree l (⟨"java/lang/StringUTF16", "compress", "([CI[BII)I"⟩ : MethodName) (head1 (Jvm.Cond.code (⟨"java/lang/StringUTF16", "compress", "([CI[BII)I"⟩ : MethodName) jdk_52_method_21_code 7 (some .int) :: ws) ({ frames := 0, cells := 0, slots := 0, locals := 0 } : Room)) (fun ay U => ay = #[(.ref aa), (.int (0 : Int32)), (.ref bb), (.int (0 : Int32)), (.int (1 : Int32))] ∧ Z.Warmed39 U.vm ∧ U.heap = h0) (fun _ _ _ _ _ => True) (fun _ U o U' => ∃ v L, o = .returned v ∧ Q5_1 Z aa bb ka kb ca h0 n0 v U'.heap L ∧ FrameEnd U o U' L ({ frames := 0, cells := 0, slots := 0, locals := 0 } : Room).cells ({ frames := 0, cells := 0, slots := 0, locals := 0 } : Room).slots) := by
  refine MetFree.of_bodySF (plainFor_of_name pn_java_lang_StringUTF16) hisR ?_
  intro p e s m args below meth c s₁ Bd hml0 hP hK
  obtain ⟨rfl, hZ, hh⟩ := hP
  have hx := Bd.exec
  have hby := Bd.bytes
  have hlk : meth.locks = false := BodyLoose.notSynchronized Bd
  have hml : c.maxLocals = 7 := hml0
  have hown : s.vm.findClass "java/lang/StringUTF16" = some m.cls := findClass_of_methodNamed Bd.named
  have hnm := (name_of_methodNamed Bd.named Bd.method).1
  have X0 : Stand p l e ({ frames := 0, cells := 0, slots := 0, locals := 0 } : Room) s m #[(.ref aa), (.int (0 : Int32)), (.ref bb), (.int (0 : Int32)), (.int (1 : Int32))] below meth c s₁ [] 0 0 := Stand.of_body Bd
  have e0 : s₁.heap = h0 := by rw [← hh, Bd.state]; rfl
  have N0 := Fr.nil n0
  suffices hgo : Go p e below s 0 0 (Q5_1 Z aa bb ka kb ca h0 n0) (s₁.setTop (mkF m 0 #[.val (.ref aa), .val (.int (0 : Int32)), .val (.ref bb), .val (.int (0 : Int32)), .val (.int (1 : Int32)), .unset, .unset] [])) by
    obtain ⟨t, o, h1, h2⟩ := hgo; exact ⟨t, o, castTop (ef_rm5_1 m aa bb) h1, h2⟩
  show Go p e below s _ _ _ (s₁.setTop (mkF m 0 #[.val (.ref aa), .val (.int (0 : Int32)), .val (.ref bb), .val (.int (0 : Int32)), .val (.int (1 : Int32)), .unset, .unset] []))
  refine Go.st (fun _ k' => XS.iconst X0.here hx rfl (hb hby d5_0) k') ?_
  show Go p e below s _ _ _ (s₁.setTop (mkF m 1 #[.val (.ref aa), .val (.int (0 : Int32)), .val (.ref bb), .val (.int (0 : Int32)), .val (.int (1 : Int32)), .unset, .unset] [(.int (0 : Int32))]))
  refine Go.st (fun _ k' => XS.istore X0.here hx rfl (hb hby d5_1) rfl (l' := #[.val (.ref aa), .val (.int (0 : Int32)), .val (.ref bb), .val (.int (0 : Int32)), .val (.int (1 : Int32)), .val (.int (0 : Int32)), .unset]) rfl k') ?_
  show Go p e below s _ _ _ (s₁.setTop (mkF m 3 #[.val (.ref aa), .val (.int (0 : Int32)), .val (.ref bb), .val (.int (0 : Int32)), .val (.int (1 : Int32)), .val (.int (0 : Int32)), .unset] []))
  refine Go.st (fun _ k' => XS.iload X0.here hx rfl (hb hby d5_3) rfl k') ?_
  show Go p e below s _ _ _ (s₁.setTop (mkF m 5 #[.val (.ref aa), .val (.int (0 : Int32)), .val (.ref bb), .val (.int (0 : Int32)), .val (.int (1 : Int32)), .val (.int (0 : Int32)), .unset] [(.int (0 : Int32))]))
  refine Go.st (fun _ k' => XS.iload X0.here hx rfl (hb hby d5_5) rfl k') ?_
  show Go p e below s _ _ _ (s₁.setTop (mkF m 7 #[.val (.ref aa), .val (.int (0 : Int32)), .val (.ref bb), .val (.int (0 : Int32)), .val (.int (1 : Int32)), .val (.int (0 : Int32)), .unset] [(.int (1 : Int32)), (.int (0 : Int32))]))
  refine Go.st (fun _ k' => XS.icmpNo X0.here hx rfl (hb hby d5_7) rfl (XT.ii_ge_f (by decide)) k') ?_
  show Go p e below s _ _ _ (s₁.setTop (mkF m 10 #[.val (.ref aa), .val (.int (0 : Int32)), .val (.ref bb), .val (.int (0 : Int32)), .val (.int (1 : Int32)), .val (.int (0 : Int32)), .unset] []))
  refine Go.st (fun _ k' => XS.aloadN X0.here hx rfl (hb hby d5_10) rfl rfl k') ?_
  show Go p e below s _ _ _ (s₁.setTop (mkF m 11 #[.val (.ref aa), .val (.int (0 : Int32)), .val (.ref bb), .val (.int (0 : Int32)), .val (.int (1 : Int32)), .val (.int (0 : Int32)), .unset] [(.ref aa)]))
  refine Go.st (fun _ k' => XS.iloadN X0.here hx rfl (hb hby d5_11) rfl k') ?_
  show Go p e below s _ _ _ (s₁.setTop (mkF m 12 #[.val (.ref aa), .val (.int (0 : Int32)), .val (.ref bb), .val (.int (0 : Int32)), .val (.int (1 : Int32)), .val (.int (0 : Int32)), .unset] [(.int (0 : Int32)), (.ref aa)]))
  obtain ⟨cl1, Ar1, qc1, Sz1, Nn1, Ha1, Gf1⟩ := id Va
  refine Go.st (fun _ k' => X0.caload hx (j := (0 : Int32)) (v := (.int ca)) (by rw [e0]; exact Ar1.1) (State.isArrayOf_alike hZ.alike Ar1.2.1) Ar1.2.2 (inb_of Sz1 ⟨by decide, by decide⟩) (Ha1.at (inb_of Sz1 ⟨by decide, by decide⟩) rfl) (g := (mkF m 12 #[.val (.ref aa), .val (.int (0 : Int32)), .val (.ref bb), .val (.int (0 : Int32)), .val (.int (1 : Int32)), .val (.int (0 : Int32)), .unset] [(.int (0 : Int32)), (.ref aa)])) rfl rfl (hb hby d5_12) _ k') ?_
  show Go p e below s _ _ _ (s₁.setTop (mkF m 13 #[.val (.ref aa), .val (.int (0 : Int32)), .val (.ref bb), .val (.int (0 : Int32)), .val (.int (1 : Int32)), .val (.int (0 : Int32)), .unset] [(.int ca)]))
  refine Go.st (fun _ k' => XS.istore X0.here hx rfl (hb hby d5_13) rfl (l' := #[.val (.ref aa), .val (.int (0 : Int32)), .val (.ref bb), .val (.int (0 : Int32)), .val (.int (1 : Int32)), .val (.int (0 : Int32)), .val (.int ca)]) rfl k') ?_
  show Go p e below s _ _ _ (s₁.setTop (mkF m 15 #[.val (.ref aa), .val (.int (0 : Int32)), .val (.ref bb), .val (.int (0 : Int32)), .val (.int (1 : Int32)), .val (.int (0 : Int32)), .val (.int ca)] []))
  refine Go.st (fun _ k' => XS.iload X0.here hx rfl (hb hby d5_15) rfl k') ?_
  show Go p e below s _ _ _ (s₁.setTop (mkF m 17 #[.val (.ref aa), .val (.int (0 : Int32)), .val (.ref bb), .val (.int (0 : Int32)), .val (.int (1 : Int32)), .val (.int (0 : Int32)), .val (.int ca)] [(.int ca)]))
  refine Go.st (fun _ k' => XS.sipush X0.here hx rfl (hb hby d5_17) k') ?_
  show Go p e below s _ _ _ (s₁.setTop (mkF m 20 #[.val (.ref aa), .val (.int (0 : Int32)), .val (.ref bb), .val (.int (0 : Int32)), .val (.int (1 : Int32)), .val (.int (0 : Int32)), .val (.int ca)] [(.int (255 : Int32)), (.int ca)]))
  refine Go.st (fun _ k' => XS.icmpYes X0.here hx rfl (pc0 := 20) (pc' := 26) rfl (hb hby d5_20) rfl (XT.ii_le_t q_ca) (by decide) (by decide) k') ?_
  show Go p e below s _ _ _ (s₁.setTop (mkF m 26 #[.val (.ref aa), .val (.int (0 : Int32)), .val (.ref bb), .val (.int (0 : Int32)), .val (.int (1 : Int32)), .val (.int (0 : Int32)), .val (.int ca)] []))
  refine Go.st (fun _ k' => XS.aloadN X0.here hx rfl (hb hby d5_26) rfl rfl k') ?_
  show Go p e below s _ _ _ (s₁.setTop (mkF m 27 #[.val (.ref aa), .val (.int (0 : Int32)), .val (.ref bb), .val (.int (0 : Int32)), .val (.int (1 : Int32)), .val (.int (0 : Int32)), .val (.int ca)] [(.ref bb)]))
  refine Go.st (fun _ k' => XS.iloadN X0.here hx rfl (hb hby d5_27) rfl k') ?_
  show Go p e below s _ _ _ (s₁.setTop (mkF m 28 #[.val (.ref aa), .val (.int (0 : Int32)), .val (.ref bb), .val (.int (0 : Int32)), .val (.int (1 : Int32)), .val (.int (0 : Int32)), .val (.int ca)] [(.int (0 : Int32)), (.ref bb)]))
  refine Go.st (fun _ k' => XS.iload X0.here hx rfl (hb hby d5_28) rfl k') ?_
  show Go p e below s _ _ _ (s₁.setTop (mkF m 30 #[.val (.ref aa), .val (.int (0 : Int32)), .val (.ref bb), .val (.int (0 : Int32)), .val (.int (1 : Int32)), .val (.int (0 : Int32)), .val (.int ca)] [(.int ca), (.int (0 : Int32)), (.ref bb)]))
  refine Go.st (fun _ k' => XS.i2b X0.here hx rfl (hb hby d5_30) rfl k') ?_
  show Go p e below s _ _ _ (s₁.setTop (mkF m 31 #[.val (.ref aa), .val (.int (0 : Int32)), .val (.ref bb), .val (.int (0 : Int32)), .val (.int (1 : Int32)), .val (.int (0 : Int32)), .val (.int ca)] [(.int (ca.toInt8.toInt32)), (.int (0 : Int32)), (.ref bb)]))
  obtain ⟨cl2, Ar2, qc2, Sz2, Nn2, Ha2, Gf2⟩ := id Vb
  obtain ⟨T2, h2, X2, e2, W2, st2⟩ := stB X0 hx hZ e0 Ar2 (j := (0 : Int32)) (inb_of Sz2 ⟨by decide, by decide⟩) (g := (mkF m 31 #[.val (.ref aa), .val (.int (0 : Int32)), .val (.ref bb), .val (.int (0 : Int32)), .val (.int (1 : Int32)), .val (.int (0 : Int32)), .val (.int ca)] [(.int (ca.toInt8.toInt32)), (.int (0 : Int32)), (.ref bb)])) rfl rfl (hb hby d5_31)
  refine Go.st st2 ?_
  have f4 : Arv Z h2 aa ka .char (1 : Int32) [(.int ca)] (.int (0 : Int32)) := Va.other W2 ne_ab
  have O2 : Old Z n0 h2 := O0.wr W2 g_b
  have N2 := Fr.snoc X2 N0 g_b
  have K2 : Keep h0 h2 [bb] := (Keep.refl h0 [bb]).wr W2 (Or.inl (by simp))
  have f3 : Arv Z h2 bb kb .byte (1 : Int32) [(.int (nar .byte (ca.toInt8.toInt32)))] (.int (0 : Int32)) := Arv.set Ar2 qc2 Sz2 Nn2 Ha2 Gf2 (fits_nar_byte _) W2 0 rfl (Nat.le_of_ble_eq_true rfl)
  show Go p e below s _ _ _ (T2.setTop (mkF m 32 #[.val (.ref aa), .val (.int (0 : Int32)), .val (.ref bb), .val (.int (0 : Int32)), .val (.int (1 : Int32)), .val (.int (0 : Int32)), .val (.int ca)] []))
  refine Go.st (fun _ k' => XS.iinc X2.here hx rfl (hb hby d5_32) rfl (l' := #[.val (.ref aa), .val (.int (1 : Int32)), .val (.ref bb), .val (.int (0 : Int32)), .val (.int (1 : Int32)), .val (.int (0 : Int32)), .val (.int ca)]) rfl k') ?_
  show Go p e below s _ _ _ (T2.setTop (mkF m 35 #[.val (.ref aa), .val (.int (1 : Int32)), .val (.ref bb), .val (.int (0 : Int32)), .val (.int (1 : Int32)), .val (.int (0 : Int32)), .val (.int ca)] []))
  refine Go.st (fun _ k' => XS.iinc X2.here hx rfl (hb hby d5_35) rfl (l' := #[.val (.ref aa), .val (.int (1 : Int32)), .val (.ref bb), .val (.int (1 : Int32)), .val (.int (1 : Int32)), .val (.int (0 : Int32)), .val (.int ca)]) rfl k') ?_
  show Go p e below s _ _ _ (T2.setTop (mkF m 38 #[.val (.ref aa), .val (.int (1 : Int32)), .val (.ref bb), .val (.int (1 : Int32)), .val (.int (1 : Int32)), .val (.int (0 : Int32)), .val (.int ca)] []))
  refine Go.st (fun _ k' => XS.iinc X2.here hx rfl (hb hby d5_38) rfl (l' := #[.val (.ref aa), .val (.int (1 : Int32)), .val (.ref bb), .val (.int (1 : Int32)), .val (.int (1 : Int32)), .val (.int (1 : Int32)), .val (.int ca)]) rfl k') ?_
  show Go p e below s _ _ _ (T2.setTop (mkF m 41 #[.val (.ref aa), .val (.int (1 : Int32)), .val (.ref bb), .val (.int (1 : Int32)), .val (.int (1 : Int32)), .val (.int (1 : Int32)), .val (.int ca)] []))
  refine Go.st (fun _ k' => XS.goto X2.here hx rfl (pc0 := 41) (pc' := 3) rfl (hb hby d5_41) (by decide) (by decide) k') ?_
  show Go p e below s _ _ _ (T2.setTop (mkF m 3 #[.val (.ref aa), .val (.int (1 : Int32)), .val (.ref bb), .val (.int (1 : Int32)), .val (.int (1 : Int32)), .val (.int (1 : Int32)), .val (.int ca)] []))
  refine Go.st (fun _ k' => XS.iload X2.here hx rfl (hb hby d5_3) rfl k') ?_
  show Go p e below s _ _ _ (T2.setTop (mkF m 5 #[.val (.ref aa), .val (.int (1 : Int32)), .val (.ref bb), .val (.int (1 : Int32)), .val (.int (1 : Int32)), .val (.int (1 : Int32)), .val (.int ca)] [(.int (1 : Int32))]))
  refine Go.st (fun _ k' => XS.iload X2.here hx rfl (hb hby d5_5) rfl k') ?_
  show Go p e below s _ _ _ (T2.setTop (mkF m 7 #[.val (.ref aa), .val (.int (1 : Int32)), .val (.ref bb), .val (.int (1 : Int32)), .val (.int (1 : Int32)), .val (.int (1 : Int32)), .val (.int ca)] [(.int (1 : Int32)), (.int (1 : Int32))]))
  refine Go.st (fun _ k' => XS.icmpYes X2.here hx rfl (pc0 := 7) (pc' := 44) rfl (hb hby d5_7) rfl (XT.ii_ge_t (by decide)) (by decide) (by decide) k') ?_
  show Go p e below s _ _ _ (T2.setTop (mkF m 44 #[.val (.ref aa), .val (.int (1 : Int32)), .val (.ref bb), .val (.int (1 : Int32)), .val (.int (1 : Int32)), .val (.int (1 : Int32)), .val (.int ca)] []))
  refine Go.st (fun _ k' => XS.iload X2.here hx rfl (hb hby d5_44) rfl k') ?_
  show Go p e below s _ _ _ (T2.setTop (mkF m 46 #[.val (.ref aa), .val (.int (1 : Int32)), .val (.ref bb), .val (.int (1 : Int32)), .val (.int (1 : Int32)), .val (.int (1 : Int32)), .val (.int ca)] [(.int (1 : Int32))]))
  refine Go.ret X2 hx hlk (t := .int) Bd.returns rfl (Or.inl ⟨rfl, Or.inl rfl, _, rfl⟩) (hb hby d5_46) (by decide) (by decide) e2 ?_
  exact ⟨rfl, N2, K2, f3⟩
theorem d4_0 : decode jdk_52_method_16_code 0 = .ok (.iload_n 2, 1) := by decide +kernel
theorem d4_1 : decode jdk_52_method_16_code 1 = .ok (.newarray .byte, 2) := by decide +kernel
theorem d4_3 : decode jdk_52_method_16_code 3 = .ok (.astore_n 3, 1) := by decide +kernel
theorem d4_4 : decode jdk_52_method_16_code 4 = .ok (.aload_n 0, 1) := by decide +kernel
theorem d4_5 : decode jdk_52_method_16_code 5 = .ok (.iload_n 1, 1) := by decide +kernel
theorem d4_6 : decode jdk_52_method_16_code 6 = .ok (.aload_n 3, 1) := by decide +kernel
theorem d4_7 : decode jdk_52_method_16_code 7 = .ok (.iconst 0, 1) := by decide +kernel
theorem d4_8 : decode jdk_52_method_16_code 8 = .ok (.iload_n 2, 1) := by decide +kernel
theorem pd___CI_BII_I : parseMethodDescriptor "([CI[BII)I" = some ⟨[(.array .char), .int, (.array .byte), .int, .int], some .int⟩ := by decide +kernel
theorem d4_9 : decode jdk_52_method_16_code 9 = .ok (.invokestatic 115, 3) := by decide +kernel
theorem d4_12 : decode jdk_52_method_16_code 12 = .ok (.istore 4, 2) := by decide +kernel
theorem d4_14 : decode jdk_52_method_16_code 14 = .ok (.iload 4, 2) := by decide +kernel
theorem d4_16 : decode jdk_52_method_16_code 16 = .ok (.iload_n 2, 1) := by decide +kernel
theorem d4_17 : decode jdk_52_method_16_code 17 = .ok (.if_icmp .eq 40, 3) := by decide +kernel
theorem d4_57 : decode jdk_52_method_16_code 57 = .ok (.aload_n 3, 1) := by decide +kernel
theorem d4_58 : decode jdk_52_method_16_code 58 = .ok (.areturn, 1) := by decide +kernel
theorem ef_rm4_1 (m : MethodId) (aa : Addr) : entryFrame m #[(.ref aa), (.int (0 : Int32)), (.int (1 : Int32))] 6 = mkF m 0 #[.val (.ref aa), .val (.int (0 : Int32)), .val (.int (1 : Int32)), .unset, .unset, .unset] [] := by first | (simp [entryFrame, mkF, argsToLocals, Value.category]; done) | rfl
def Q4_1 (Z : State) (aa : Addr) (ka : ClassId) (ca : Int32) (h0 : Heap) (n0 : Nat) (v : Option Value) (h : Heap) (L : List Loc) : Prop := ∃ (rr : Addr) (kr : ClassId), v = some (.ref rr) ∧ Fr n0 L ∧ Keep h0 h [] ∧ Arv Z h rr kr .byte (1 : Int32) [(.int (nar .byte (ca.toInt8.toInt32)))] (.int (0 : Int32)) ∧ h0.size ≤ rr
set_option maxRecDepth 65536 in
set_option maxHeartbeats 40000000 in
theorem rm4_1 (l : Launch) (Z : State) (a0 : Array Value) (hw : ∀ d ∈ tables_1, d.before a0 Z = true) (ws : List Jvm.Cond) (aa : Addr) (ka : ClassId) (ca : Int32) (h0 : Heap) (n0 : Nat) (O0 : Old Z n0 h0) (Va : Arv Z h0 aa ka .char (1 : Int32) [(.int ca)] (.int (0 : Int32))) (q_ca : ¬ (255 : Int32) < ca) :
    MetFree l (⟨"java/lang/StringUTF16", "compress", "([CII)[B"⟩ : MethodName) (head1 (Jvm.Cond.code (⟨"java/lang/StringUTF16", "compress", "([CII)[B"⟩ : MethodName) jdk_52_method_16_code 6 (some (.array .byte)) :: ws) ({ frames := 1, cells := 1, slots := 1, locals := 18 } : Room)) (fun ay U => ay = #[(.ref aa), (.int (0 : Int32)), (.int (1 : Int32))] ∧ Z.Warmed39 U.vm ∧ U.heap = h0) (fun _ _ _ _ _ => True) (fun _ U o U' => ∃ v L, o = .returned v ∧ Q4_1 Z aa ka ca h0 n0 v U'.heap L ∧ FrameEnd U o U' L ({ frames := 1, cells := 1, slots := 1, locals := 18 } : Room).cells ({ frames := 1, cells := 1, slots := 1, locals := 18 } : Room).slots) := by
  refine MetFree.of_bodySF (plainFor_of_name pn_java_lang_StringUTF16) hisR ?_
  intro p e s m args below meth c s₁ Bd hml0 hP hK
  obtain ⟨rfl, hZ, hh⟩ := hP
  have hx := Bd.exec
  have hby := Bd.bytes
  have hlk : meth.locks = false := BodyLoose.notSynchronized Bd
  have hml : c.maxLocals = 6 := hml0
  have hown : s.vm.findClass "java/lang/StringUTF16" = some m.cls := findClass_of_methodNamed Bd.named
  have hnm := (name_of_methodNamed Bd.named Bd.method).1
  have X0 : Stand p l e ({ frames := 1, cells := 1, slots := 1, locals := 18 } : Room) s m #[(.ref aa), (.int (0 : Int32)), (.int (1 : Int32))] below meth c s₁ [] 0 0 := Stand.of_body Bd
  have e0 : s₁.heap = h0 := by rw [← hh, Bd.state]; rfl
  have N0 := Fr.nil n0
  suffices hgo : Go p e below s 1 1 (Q4_1 Z aa ka ca h0 n0) (s₁.setTop (mkF m 0 #[.val (.ref aa), .val (.int (0 : Int32)), .val (.int (1 : Int32)), .unset, .unset, .unset] [])) by
    obtain ⟨t, o, h1, h2⟩ := hgo; exact ⟨t, o, castTop (ef_rm4_1 m aa) h1, h2⟩
  show Go p e below s _ _ _ (s₁.setTop (mkF m 0 #[.val (.ref aa), .val (.int (0 : Int32)), .val (.int (1 : Int32)), .unset, .unset, .unset] []))
  refine Go.st (fun _ k' => XS.iloadN X0.here hx rfl (hb hby d4_0) rfl k') ?_
  show Go p e below s _ _ _ (s₁.setTop (mkF m 1 #[.val (.ref aa), .val (.int (0 : Int32)), .val (.int (1 : Int32)), .unset, .unset, .unset] [(.int (1 : Int32))]))
  obtain ⟨T1, h1, k1, X1, e1, E1, A1, st1⟩ := newP X0 hx hZ (wdx hw 19 rfl) e0 (g := (mkF m 1 #[.val (.ref aa), .val (.int (0 : Int32)), .val (.int (1 : Int32)), .unset, .unset, .unset] [(.int (1 : Int32))])) rfl (hb hby d4_1) rfl (by decide) (cap := 1) (by decide) (by decide) (by decide) (by decide)
  obtain ⟨b1, g1⟩ : ∃ z, z = h0.size := ⟨_, rfl⟩
  rw [← g1] at A1 st1
  refine Go.st st1 ?_
  have g_b1 : n0 ≤ b1 := Nat.le_trans (own_le O0) (Nat.le_of_eq g1.symm)
  have z_b1 : h0.size ≤ b1 := Nat.le_of_eq g1.symm
  have ne2 : aa ≠ b1 := Nat.ne_of_lt (Nat.lt_of_lt_of_le Va.lt (Nat.le_of_eq g1.symm))
  have f3 : Arv Z h1 aa ka .char (1 : Int32) [(.int ca)] (.int (0 : Int32)) := Va.ext E1
  have O1 : Old Z n0 h1 := O0.ext E1
  have K1 : Keep h0 h1 [] := (Keep.refl h0 []).ext E1
  have f4 : Arv Z h1 b1 k1 .byte (1 : Int32) [(.int (0 : Int32))] (.int (0 : Int32)) := (Arv.new A1 (by decide)).pad (pad_rep [] (.int (0 : Int32)) 1)
  show Go p e below s _ _ _ (T1.setTop (mkF m 3 #[.val (.ref aa), .val (.int (0 : Int32)), .val (.int (1 : Int32)), .unset, .unset, .unset] [(.ref b1)]))
  refine Go.st (fun _ k' => XS.astoreN X1.here hx rfl (hb hby d4_3) rfl rfl (l' := #[.val (.ref aa), .val (.int (0 : Int32)), .val (.int (1 : Int32)), .val (.ref b1), .unset, .unset]) rfl k') ?_
  show Go p e below s _ _ _ (T1.setTop (mkF m 4 #[.val (.ref aa), .val (.int (0 : Int32)), .val (.int (1 : Int32)), .val (.ref b1), .unset, .unset] []))
  refine Go.st (fun _ k' => XS.aloadN X1.here hx rfl (hb hby d4_4) rfl rfl k') ?_
  show Go p e below s _ _ _ (T1.setTop (mkF m 5 #[.val (.ref aa), .val (.int (0 : Int32)), .val (.int (1 : Int32)), .val (.ref b1), .unset, .unset] [(.ref aa)]))
  refine Go.st (fun _ k' => XS.iloadN X1.here hx rfl (hb hby d4_5) rfl k') ?_
  show Go p e below s _ _ _ (T1.setTop (mkF m 6 #[.val (.ref aa), .val (.int (0 : Int32)), .val (.int (1 : Int32)), .val (.ref b1), .unset, .unset] [(.int (0 : Int32)), (.ref aa)]))
  refine Go.st (fun _ k' => XS.aloadN X1.here hx rfl (hb hby d4_6) rfl rfl k') ?_
  show Go p e below s _ _ _ (T1.setTop (mkF m 7 #[.val (.ref aa), .val (.int (0 : Int32)), .val (.int (1 : Int32)), .val (.ref b1), .unset, .unset] [(.ref b1), (.int (0 : Int32)), (.ref aa)]))
  refine Go.st (fun _ k' => XS.iconst X1.here hx rfl (hb hby d4_7) k') ?_
  show Go p e below s _ _ _ (T1.setTop (mkF m 8 #[.val (.ref aa), .val (.int (0 : Int32)), .val (.int (1 : Int32)), .val (.ref b1), .unset, .unset] [(.int (0 : Int32)), (.ref b1), (.int (0 : Int32)), (.ref aa)]))
  refine Go.st (fun _ k' => XS.iloadN X1.here hx rfl (hb hby d4_8) rfl k') ?_
  show Go p e below s _ _ _ (T1.setTop (mkF m 9 #[.val (.ref aa), .val (.int (0 : Int32)), .val (.int (1 : Int32)), .val (.ref b1), .unset, .unset] [(.int (1 : Int32)), (.int (0 : Int32)), (.ref b1), (.int (0 : Int32)), (.ref aa)]))
  obtain ⟨_, _, ⟨T5, L5, k5, n5⟩, -, X5, ⟨Lc5, hQ5, l5, y5, z5⟩, st5⟩ := Jvm.LawKit.callS X1 hx (y := (⟨"java/lang/StringUTF16", "compress", "([CI[BII)I"⟩ : MethodName)) hown (mvT hZ (wdx hw 20 rfl)) (mvT hZ (wdx hw 21 rfl)) (mvT hZ (wdx hw 17 rfl)) (mvT hZ (wdx hw 22 rfl)) (by decide) (backOf (W := 0) (rm5_1 l Z a0 hw [] aa b1 ka k1 ca h1 n0 O1 f3 f4 q_ca g_b1 ne2) hZ (wdx hw 22 rfl) (wdx hw 17 rfl) (by decide) (by decide)) (g := (mkF m 9 #[.val (.ref aa), .val (.int (0 : Int32)), .val (.int (1 : Int32)), .val (.ref b1), .unset, .unset] [(.int (1 : Int32)), (.int (0 : Int32)), (.ref b1), (.int (0 : Int32)), (.ref aa)])) rfl (by rw [hml]; rfl) (argsL := [(.ref aa), (.int (0 : Int32)), (.ref b1), (.int (0 : Int32)), (.int (1 : Int32))]) (rest := []) (lenOf pd___CI_BII_I rfl) rfl (by show 2 * 0 + _ ≤ _; exact Nat.le_of_eq rfl) (hb hby d4_9) (fun _ _ => ⟨rfl, e1, (by exact Nat.le_of_ble_eq_true rfl), (by exact Nat.le_of_ble_eq_true rfl)⟩)
  dsimp only [Pt.U, Pt.locs, Pt.cells, Pt.slots] at X5 l5 y5 z5 st5 hQ5
  subst l5 y5 z5
  obtain ⟨rfl, Nq5, Kq5, f6⟩ := hQ5
  have N5 := Fr.app N0 Nq5
  refine Go.st st5 ?_
  have f7 : Arv Z T5.heap aa ka .char (1 : Int32) [(.int ca)] (.int (0 : Int32)) := f3.keep Kq5 (ninS ne2 nin0)
  have O5 : Old Z n0 T5.heap := O1.keep Kq5 (allS g_b1 all0)
  have K5 : Keep h0 T5.heap [] := K1.trans Kq5 (allS (Or.inr z_b1) all0)
  show Go p e below s _ _ _ (T5.setTop (mkF m 12 #[.val (.ref aa), .val (.int (0 : Int32)), .val (.int (1 : Int32)), .val (.ref b1), .unset, .unset] [(.int (1 : Int32))]))
  refine Go.st (fun _ k' => XS.istore X5.here hx rfl (hb hby d4_12) rfl (l' := #[.val (.ref aa), .val (.int (0 : Int32)), .val (.int (1 : Int32)), .val (.ref b1), .val (.int (1 : Int32)), .unset]) rfl k') ?_
  show Go p e below s _ _ _ (T5.setTop (mkF m 14 #[.val (.ref aa), .val (.int (0 : Int32)), .val (.int (1 : Int32)), .val (.ref b1), .val (.int (1 : Int32)), .unset] []))
  refine Go.st (fun _ k' => XS.iload X5.here hx rfl (hb hby d4_14) rfl k') ?_
  show Go p e below s _ _ _ (T5.setTop (mkF m 16 #[.val (.ref aa), .val (.int (0 : Int32)), .val (.int (1 : Int32)), .val (.ref b1), .val (.int (1 : Int32)), .unset] [(.int (1 : Int32))]))
  refine Go.st (fun _ k' => XS.iloadN X5.here hx rfl (hb hby d4_16) rfl k') ?_
  show Go p e below s _ _ _ (T5.setTop (mkF m 17 #[.val (.ref aa), .val (.int (0 : Int32)), .val (.int (1 : Int32)), .val (.ref b1), .val (.int (1 : Int32)), .unset] [(.int (1 : Int32)), (.int (1 : Int32))]))
  refine Go.st (fun _ k' => XS.icmpYes X5.here hx rfl (pc0 := 17) (pc' := 57) rfl (hb hby d4_17) rfl (XT.ii_eq_t (by decide)) (by decide) (by decide) k') ?_
  show Go p e below s _ _ _ (T5.setTop (mkF m 57 #[.val (.ref aa), .val (.int (0 : Int32)), .val (.int (1 : Int32)), .val (.ref b1), .val (.int (1 : Int32)), .unset] []))
  refine Go.st (fun _ k' => XS.aloadN X5.here hx rfl (hb hby d4_57) rfl rfl k') ?_
  show Go p e below s _ _ _ (T5.setTop (mkF m 58 #[.val (.ref aa), .val (.int (0 : Int32)), .val (.int (1 : Int32)), .val (.ref b1), .val (.int (1 : Int32)), .unset] [(.ref b1)]))
  refine Go.ret X5 hx hlk (t := (.array .byte)) Bd.returns rfl (Or.inr (Or.inr (Or.inr (Or.inr ⟨rfl, rfl, rfl⟩)))) (hb hby d4_58) (by decide) (by decide) rfl ?_
  exact ⟨b1, k1, rfl, N5, K5, f6, z_b1⟩
theorem d6_0 : decode jdk_52_method_15_code 0 = .ok (.iload_n 1, 1) := by decide +kernel
theorem d6_1 : decode jdk_52_method_15_code 1 = .ok (.aload_n 0, 1) := by decide +kernel
theorem d6_2 : decode jdk_52_method_15_code 2 = .ok (.arraylength, 1) := by decide +kernel
theorem d6_3 : decode jdk_52_method_15_code 3 = .ok (.isub, 1) := by decide +kernel
theorem d6_4 : decode jdk_52_method_15_code 4 = .ok (.bipush 31, 2) := by decide +kernel
theorem d6_6 : decode jdk_52_method_15_code 6 = .ok (.iushr, 1) := by decide +kernel
theorem d6_7 : decode jdk_52_method_15_code 7 = .ok (.i2b, 1) := by decide +kernel
theorem d6_8 : decode jdk_52_method_15_code 8 = .ok (.ireturn, 1) := by decide +kernel
theorem ef_rm6_1 (m : MethodId) (bb : Addr) : entryFrame m #[(.ref bb), (.int (1 : Int32))] 2 = mkF m 0 #[.val (.ref bb), .val (.int (1 : Int32))] [] := by first | (simp [entryFrame, mkF, argsToLocals, Value.category]; done) | rfl
def Q6_1 (Z : State) (bb : Addr) (kb : ClassId) (ca : Int32) (h0 : Heap) (n0 : Nat) (v : Option Value) (h : Heap) (L : List Loc) : Prop := v = some (.int (0 : Int32)) ∧ Fr n0 L ∧ h = h0
set_option maxRecDepth 65536 in
set_option maxHeartbeats 40000000 in
theorem rm6_1 (l : Launch) (Z : State) (a0 : Array Value) (hw : ∀ d ∈ tables_1, d.before a0 Z = true) (ws : List Jvm.Cond) (bb : Addr) (kb : ClassId) (ca : Int32) (h0 : Heap) (n0 : Nat) (O0 : Old Z n0 h0) (Vb : Arv Z h0 bb kb .byte (1 : Int32) [(.int ca)] (.int (0 : Int32))) :
    MetFree l (⟨"java/lang/StringUTF16", "coderFromArrayLen", "([BI)B"⟩ : MethodName) (head1 (Jvm.Cond.code (⟨"java/lang/StringUTF16", "coderFromArrayLen", "([BI)B"⟩ : MethodName) jdk_52_method_15_code 2 (some .byte) :: ws) ({ frames := 0, cells := 0, slots := 0, locals := 0 } : Room)) (fun ay U => ay = #[(.ref bb), (.int (1 : Int32))] ∧ Z.Warmed39 U.vm ∧ U.heap = h0) (fun _ _ _ _ _ => True) (fun _ U o U' => ∃ v L, o = .returned v ∧ Q6_1 Z bb kb ca h0 n0 v U'.heap L ∧ FrameEnd U o U' L ({ frames := 0, cells := 0, slots := 0, locals := 0 } : Room).cells ({ frames := 0, cells := 0, slots := 0, locals := 0 } : Room).slots) := by
  refine MetFree.of_bodySF (plainFor_of_name pn_java_lang_StringUTF16) hisR ?_
  intro p e s m args below meth c s₁ Bd hml0 hP hK
  obtain ⟨rfl, hZ, hh⟩ := hP
  have hx := Bd.exec
  have hby := Bd.bytes
  have hlk : meth.locks = false := BodyLoose.notSynchronized Bd
  have hml : c.maxLocals = 2 := hml0
  have hown : s.vm.findClass "java/lang/StringUTF16" = some m.cls := findClass_of_methodNamed Bd.named
  have hnm := (name_of_methodNamed Bd.named Bd.method).1
  have X0 : Stand p l e ({ frames := 0, cells := 0, slots := 0, locals := 0 } : Room) s m #[(.ref bb), (.int (1 : Int32))] below meth c s₁ [] 0 0 := Stand.of_body Bd
  have e0 : s₁.heap = h0 := by rw [← hh, Bd.state]; rfl
  have N0 := Fr.nil n0
  suffices hgo : Go p e below s 0 0 (Q6_1 Z bb kb ca h0 n0) (s₁.setTop (mkF m 0 #[.val (.ref bb), .val (.int (1 : Int32))] [])) by
    obtain ⟨t, o, h1, h2⟩ := hgo; exact ⟨t, o, castTop (ef_rm6_1 m bb) h1, h2⟩
  show Go p e below s _ _ _ (s₁.setTop (mkF m 0 #[.val (.ref bb), .val (.int (1 : Int32))] []))
  refine Go.st (fun _ k' => XS.iloadN X0.here hx rfl (hb hby d6_0) rfl k') ?_
  show Go p e below s _ _ _ (s₁.setTop (mkF m 1 #[.val (.ref bb), .val (.int (1 : Int32))] [(.int (1 : Int32))]))
  refine Go.st (fun _ k' => XS.aloadN X0.here hx rfl (hb hby d6_1) rfl rfl k') ?_
  show Go p e below s _ _ _ (s₁.setTop (mkF m 2 #[.val (.ref bb), .val (.int (1 : Int32))] [(.ref bb), (.int (1 : Int32))]))
  obtain ⟨cl1, Ar1, qc1, Sz1, Nn1, Ha1, Gf1⟩ := id Vb
  refine Go.st (fun _ k' => X0.arraylength hx (by rw [e0]; exact Ar1.1) (State.isArrayOf_alike hZ.alike Ar1.2.1) (g := (mkF m 2 #[.val (.ref bb), .val (.int (1 : Int32))] [(.ref bb), (.int (1 : Int32))])) rfl rfl (hb hby d6_2) _ k') ?_
  rw [len_of Sz1 Nn1]
  show Go p e below s _ _ _ (s₁.setTop (mkF m 3 #[.val (.ref bb), .val (.int (1 : Int32))] [(.int (1 : Int32)), (.int (1 : Int32))]))
  refine Go.st (fun _ k' => XS.isub X0.here hx rfl (hb hby d6_3) rfl k') ?_
  show Go p e below s _ _ _ (s₁.setTop (mkF m 4 #[.val (.ref bb), .val (.int (1 : Int32))] [(.int (0 : Int32))]))
  refine Go.st (fun _ k' => XS.bipush X0.here hx rfl (hb hby d6_4) k') ?_
  show Go p e below s _ _ _ (s₁.setTop (mkF m 6 #[.val (.ref bb), .val (.int (1 : Int32))] [(.int (31 : Int32)), (.int (0 : Int32))]))
  refine Go.st (fun _ k' => XS.iushr X0.here hx rfl (hb hby d6_6) rfl k') ?_
  show Go p e below s _ _ _ (s₁.setTop (mkF m 7 #[.val (.ref bb), .val (.int (1 : Int32))] [(.int (((0 : Int32).toUInt32 >>> ((31 : Int32) &&& 31).toUInt32).toInt32))]))
  refine Go.st (fun _ k' => XS.i2b X0.here hx rfl (hb hby d6_7) rfl k') ?_
  show Go p e below s _ _ _ (s₁.setTop (mkF m 8 #[.val (.ref bb), .val (.int (1 : Int32))] [(.int ((((0 : Int32).toUInt32 >>> ((31 : Int32) &&& 31).toUInt32).toInt32).toInt8.toInt32))]))
  refine Go.retB X0 hx hlk (t := .byte) Bd.returns (by simp) (hb hby d6_8) (by decide) (by decide) e0 ?_
  exact ⟨rfl, N0, rfl⟩
theorem d2_0 : decode jdk_42_method_149_code 0 = .ok (.aload_n 0, 1) := by decide +kernel
theorem d2_1 : decode jdk_42_method_149_code 1 = .ok (.invokespecial 1, 3) := by decide +kernel
theorem d2_4 : decode jdk_42_method_149_code 4 = .ok (.iload_n 3, 1) := by decide +kernel
theorem d2_5 : decode jdk_42_method_149_code 5 = .ok (.ifCond .ne 22, 3) := by decide +kernel
theorem d2_27 : decode jdk_42_method_149_code 27 = .ok (.getstatic 38, 3) := by decide +kernel
theorem d2_30 : decode jdk_42_method_149_code 30 = .ok (.ifCond .eq 28, 3) := by decide +kernel
theorem d2_33 : decode jdk_42_method_149_code 33 = .ok (.aload_n 1, 1) := by decide +kernel
theorem d2_34 : decode jdk_42_method_149_code 34 = .ok (.iload_n 2, 1) := by decide +kernel
theorem d2_35 : decode jdk_42_method_149_code 35 = .ok (.iload_n 3, 1) := by decide +kernel
theorem pd___CII__B : parseMethodDescriptor "([CII)[B" = some ⟨[(.array .char), .int, .int], some (.array .byte)⟩ := by decide +kernel
theorem d2_36 : decode jdk_42_method_149_code 36 = .ok (.invokestatic 177, 3) := by decide +kernel
theorem d2_39 : decode jdk_42_method_149_code 39 = .ok (.astore 5, 2) := by decide +kernel
theorem d2_41 : decode jdk_42_method_149_code 41 = .ok (.aload_n 0, 1) := by decide +kernel
theorem d2_42 : decode jdk_42_method_149_code 42 = .ok (.aload 5, 2) := by decide +kernel
theorem d2_44 : decode jdk_42_method_149_code 44 = .ok (.iload_n 3, 1) := by decide +kernel
theorem pd___BI_B : parseMethodDescriptor "([BI)B" = some ⟨[(.array .byte), .int], some .byte⟩ := by decide +kernel
theorem d2_45 : decode jdk_42_method_149_code 45 = .ok (.invokestatic 47, 3) := by decide +kernel
theorem d2_48 : decode jdk_42_method_149_code 48 = .ok (.putfield 15, 3) := by decide +kernel
theorem d2_51 : decode jdk_42_method_149_code 51 = .ok (.aload_n 0, 1) := by decide +kernel
theorem d2_52 : decode jdk_42_method_149_code 52 = .ok (.aload 5, 2) := by decide +kernel
theorem d2_54 : decode jdk_42_method_149_code 54 = .ok (.putfield 9, 3) := by decide +kernel
theorem d2_57 : decode jdk_42_method_149_code 57 = .ok (.return_, 1) := by decide +kernel
theorem pn_java_lang_String : plainName "java/lang/String" = true := by first | (simp [plainName, overriddenIn]; done) | decide +kernel
theorem ef_rm2_1 (m : MethodId) (ob : Addr) (aa : Addr) : entryFrame m #[(.ref ob), (.ref aa), (.int (0 : Int32)), (.int (1 : Int32)), .null] 6 = mkF m 0 #[.val (.ref ob), .val (.ref aa), .val (.int (0 : Int32)), .val (.int (1 : Int32)), .val .null, .unset] [] := by first | (simp [entryFrame, mkF, argsToLocals, Value.category]; done) | rfl
def Q2_1 (Z : State) (ob : Addr) (aa : Addr) (ka : ClassId) (cs : Int32) (ca : Int32) (h0 : Heap) (n0 : Nat) (v : Option Value) (h : Heap) (L : List Loc) : Prop := v = none ∧ Fr n0 L ∧ Keep h0 h [ob]
set_option maxRecDepth 65536 in
set_option maxHeartbeats 40000000 in
theorem rm2_1 (l : Launch) (Z : State) (a0 : Array Value) (hw : ∀ d ∈ tables_1, d.before a0 Z = true) (ws : List Jvm.Cond) (ob : Addr) (aa : Addr) (ka : ClassId) (cs : Int32) (ca : Int32) (h0 : Heap) (n0 : Nat) (O0 : Old Z n0 h0) (E_o : Exa Z h0 ob "java/lang/String") (Fv : Fld Z h0 ob "java/lang/String" "value" "[B" .null) (Fc : Fld Z h0 ob "java/lang/String" "coder" "B" (.int (0 : Int32))) (Va : Arv Z h0 aa ka .char (1 : Int32) [(.int ca)] (.int (0 : Int32))) (S_cs : Sta Z Z.heap "java/lang/String" "COMPACT_STRINGS" "Z" (.int cs)) (q_cs : ¬ cs = (0 : Int32)) (q_ca : ¬ (255 : Int32) < ca) (g_o : n0 ≤ ob) (ne_oa : ob ≠ aa) :
    MetFree l (⟨"java/lang/String", "<init>", "([CIILjava/lang/Void;)V"⟩ : MethodName) (head1 (Jvm.Cond.code (⟨"java/lang/String", "<init>", "([CIILjava/lang/Void;)V"⟩ : MethodName) jdk_42_method_149_code 6 none :: ws) ({ frames := 2, cells := 1, slots := 1, locals := 35 } : Room)) (fun ay U => ay = #[(.ref ob), (.ref aa), (.int (0 : Int32)), (.int (1 : Int32)), .null] ∧ Z.Warmed39 U.vm ∧ U.heap = h0) (fun _ _ _ _ _ => True) (fun _ U o U' => ∃ v L, o = .returned v ∧ Q2_1 Z ob aa ka cs ca h0 n0 v U'.heap L ∧ FrameEnd U o U' L ({ frames := 2, cells := 1, slots := 1, locals := 35 } : Room).cells ({ frames := 2, cells := 1, slots := 1, locals := 35 } : Room).slots) := by
  refine MetFree.of_bodySF (plainFor_of_name pn_java_lang_String) hisR ?_
  intro p e s m args below meth c s₁ Bd hml0 hP hK
  obtain ⟨rfl, hZ, hh⟩ := hP
  have hx := Bd.exec
  have hby := Bd.bytes
  have hlk : meth.locks = false := BodyLoose.notSynchronized Bd
  have hml : c.maxLocals = 6 := hml0
  have hown : s.vm.findClass "java/lang/String" = some m.cls := findClass_of_methodNamed Bd.named
  have hnm := (name_of_methodNamed Bd.named Bd.method).1
  have X0 : Stand p l e ({ frames := 2, cells := 1, slots := 1, locals := 35 } : Room) s m #[(.ref ob), (.ref aa), (.int (0 : Int32)), (.int (1 : Int32)), .null] below meth c s₁ [] 0 0 := Stand.of_body Bd
  have e0 : s₁.heap = h0 := by rw [← hh, Bd.state]; rfl
  have N0 := Fr.nil n0
  suffices hgo : Go p e below s 1 1 (Q2_1 Z ob aa ka cs ca h0 n0) (s₁.setTop (mkF m 0 #[.val (.ref ob), .val (.ref aa), .val (.int (0 : Int32)), .val (.int (1 : Int32)), .val .null, .unset] [])) by
    obtain ⟨t, o, h1, h2⟩ := hgo; exact ⟨t, o, castTop (ef_rm2_1 m ob aa) h1, h2⟩
  show Go p e below s _ _ _ (s₁.setTop (mkF m 0 #[.val (.ref ob), .val (.ref aa), .val (.int (0 : Int32)), .val (.int (1 : Int32)), .val .null, .unset] []))
  refine Go.st (fun _ k' => XS.aloadN X0.here hx rfl (hb hby d2_0) rfl rfl k') ?_
  show Go p e below s _ _ _ (s₁.setTop (mkF m 1 #[.val (.ref ob), .val (.ref aa), .val (.int (0 : Int32)), .val (.int (1 : Int32)), .val .null, .unset] [(.ref ob)]))
  obtain ⟨T1, X1, e1, st1⟩ := initO X0 hx hZ hown (wdx hw 11 rfl) (wdx hw 12 rfl) (wdx hw 13 rfl) e0 (g := (mkF m 1 #[.val (.ref ob), .val (.ref aa), .val (.int (0 : Int32)), .val (.int (1 : Int32)), .val .null, .unset] [(.ref ob)])) rfl (by rw [hml]; rfl) rfl (hb hby d2_1) (by decide) (W := 0) (by show 2 * 0 + _ ≤ _; exact Nat.le_of_eq rfl) (by decide)
  refine Go.st st1 ?_
  show Go p e below s _ _ _ (T1.setTop (mkF m 4 #[.val (.ref ob), .val (.ref aa), .val (.int (0 : Int32)), .val (.int (1 : Int32)), .val .null, .unset] []))
  refine Go.st (fun _ k' => XS.iloadN X1.here hx rfl (hb hby d2_4) rfl k') ?_
  show Go p e below s _ _ _ (T1.setTop (mkF m 5 #[.val (.ref ob), .val (.ref aa), .val (.int (0 : Int32)), .val (.int (1 : Int32)), .val .null, .unset] [(.int (1 : Int32))]))
  refine Go.st (fun _ k' => XS.ifYes X1.here hx rfl (pc0 := 5) (pc' := 27) rfl (hb hby d2_5) rfl (XT.i0_ne_t (by decide)) (by decide) (by decide) k') ?_
  show Go p e below s _ _ _ (T1.setTop (mkF m 27 #[.val (.ref ob), .val (.ref aa), .val (.int (0 : Int32)), .val (.int (1 : Int32)), .val .null, .unset] []))
  obtain ⟨T2, X2, e2, st2⟩ := getS2 X1 hx hZ hown (host := "") (Or.inl (wdx hw 14 rfl)) Via.refl e1 (S_cs.ext O0.2) (g := (mkF m 27 #[.val (.ref ob), .val (.ref aa), .val (.int (0 : Int32)), .val (.int (1 : Int32)), .val .null, .unset] [])) rfl (hb hby d2_27)
  refine Go.st st2 ?_
  show Go p e below s _ _ _ (T2.setTop (mkF m 30 #[.val (.ref ob), .val (.ref aa), .val (.int (0 : Int32)), .val (.int (1 : Int32)), .val .null, .unset] [(.int cs)]))
  refine Go.st (fun _ k' => XS.ifNo X2.here hx rfl (hb hby d2_30) rfl (XT.i0_eq_f q_cs) k') ?_
  show Go p e below s _ _ _ (T2.setTop (mkF m 33 #[.val (.ref ob), .val (.ref aa), .val (.int (0 : Int32)), .val (.int (1 : Int32)), .val .null, .unset] []))
  refine Go.st (fun _ k' => XS.aloadN X2.here hx rfl (hb hby d2_33) rfl rfl k') ?_
  show Go p e below s _ _ _ (T2.setTop (mkF m 34 #[.val (.ref ob), .val (.ref aa), .val (.int (0 : Int32)), .val (.int (1 : Int32)), .val .null, .unset] [(.ref aa)]))
  refine Go.st (fun _ k' => XS.iloadN X2.here hx rfl (hb hby d2_34) rfl k') ?_
  show Go p e below s _ _ _ (T2.setTop (mkF m 35 #[.val (.ref ob), .val (.ref aa), .val (.int (0 : Int32)), .val (.int (1 : Int32)), .val .null, .unset] [(.int (0 : Int32)), (.ref aa)]))
  refine Go.st (fun _ k' => XS.iloadN X2.here hx rfl (hb hby d2_35) rfl k') ?_
  show Go p e below s _ _ _ (T2.setTop (mkF m 36 #[.val (.ref ob), .val (.ref aa), .val (.int (0 : Int32)), .val (.int (1 : Int32)), .val .null, .unset] [(.int (1 : Int32)), (.int (0 : Int32)), (.ref aa)]))
  obtain ⟨_, _, ⟨T3, L3, k3, n3⟩, -, X3, ⟨Lc3, hQ3, l3, y3, z3⟩, st3⟩ := Jvm.LawKit.callS X2 hx (y := (⟨"java/lang/StringUTF16", "compress", "([CII)[B"⟩ : MethodName)) hown (mvT hZ (wdx hw 15 rfl)) (mvT hZ (wdx hw 16 rfl)) (mvT hZ (wdx hw 17 rfl)) (mvT hZ (wdx hw 18 rfl)) (by decide) (backOf (W := 0) (rm4_1 l Z a0 hw [] aa ka ca h0 n0 O0 Va q_ca) hZ (wdx hw 18 rfl) (wdx hw 17 rfl) (by decide) (by decide)) (g := (mkF m 36 #[.val (.ref ob), .val (.ref aa), .val (.int (0 : Int32)), .val (.int (1 : Int32)), .val .null, .unset] [(.int (1 : Int32)), (.int (0 : Int32)), (.ref aa)])) rfl (by rw [hml]; rfl) (argsL := [(.ref aa), (.int (0 : Int32)), (.int (1 : Int32))]) (rest := []) (lenOf pd___CII__B rfl) rfl (by show 2 * 0 + _ ≤ _; exact Nat.le_of_eq rfl) (hb hby d2_36) (fun _ _ => ⟨rfl, e2, (by exact Nat.le_of_ble_eq_true rfl), (by exact Nat.le_of_ble_eq_true rfl)⟩)
  dsimp only [Pt.U, Pt.locs, Pt.cells, Pt.slots] at X3 l3 y3 z3 st3 hQ3
  subst l3 y3 z3
  obtain ⟨rr_3, kr_3, rfl, Nq3, Kq3, f4, szr_3⟩ := hQ3
  have N3 := Fr.app N0 Nq3
  refine Go.st st3 ?_
  have f5 : Exa Z T3.heap ob "java/lang/String" := E_o.keep Kq3
  have f6 : Fld Z T3.heap ob "java/lang/String" "value" "[B" .null := Fv.keep Kq3 nin0
  have f7 : Fld Z T3.heap ob "java/lang/String" "coder" "B" (.int (0 : Int32)) := Fc.keep Kq3 nin0
  have f8 : Arv Z T3.heap aa ka .char (1 : Int32) [(.int ca)] (.int (0 : Int32)) := Va.keep Kq3 nin0
  have O3 : Old Z n0 T3.heap := O0.keep Kq3 all0
  have K3 : Keep h0 T3.heap [ob] := (Keep.refl h0 [ob]).trans Kq3 all0
  have g_rr_3 : n0 ≤ rr_3 := Nat.le_trans (own_le O0) szr_3
  have z_rr_3 : h0.size ≤ rr_3 := szr_3
  have ne9 : ob ≠ rr_3 := Nat.ne_of_lt (Nat.lt_of_lt_of_le E_o.lt szr_3)
  have ne10 : aa ≠ rr_3 := Nat.ne_of_lt (Nat.lt_of_lt_of_le Va.lt szr_3)
  show Go p e below s _ _ _ (T3.setTop (mkF m 39 #[.val (.ref ob), .val (.ref aa), .val (.int (0 : Int32)), .val (.int (1 : Int32)), .val .null, .unset] [(.ref rr_3)]))
  refine Go.st (fun _ k' => XS.astore X3.here hx rfl (hb hby d2_39) rfl rfl (l' := #[.val (.ref ob), .val (.ref aa), .val (.int (0 : Int32)), .val (.int (1 : Int32)), .val .null, .val (.ref rr_3)]) rfl k') ?_
  show Go p e below s _ _ _ (T3.setTop (mkF m 41 #[.val (.ref ob), .val (.ref aa), .val (.int (0 : Int32)), .val (.int (1 : Int32)), .val .null, .val (.ref rr_3)] []))
  refine Go.st (fun _ k' => XS.aloadN X3.here hx rfl (hb hby d2_41) rfl rfl k') ?_
  show Go p e below s _ _ _ (T3.setTop (mkF m 42 #[.val (.ref ob), .val (.ref aa), .val (.int (0 : Int32)), .val (.int (1 : Int32)), .val .null, .val (.ref rr_3)] [(.ref ob)]))
  refine Go.st (fun _ k' => XS.aload X3.here hx rfl (hb hby d2_42) rfl rfl k') ?_
  show Go p e below s _ _ _ (T3.setTop (mkF m 44 #[.val (.ref ob), .val (.ref aa), .val (.int (0 : Int32)), .val (.int (1 : Int32)), .val .null, .val (.ref rr_3)] [(.ref rr_3), (.ref ob)]))
  refine Go.st (fun _ k' => XS.iloadN X3.here hx rfl (hb hby d2_44) rfl k') ?_
  show Go p e below s _ _ _ (T3.setTop (mkF m 45 #[.val (.ref ob), .val (.ref aa), .val (.int (0 : Int32)), .val (.int (1 : Int32)), .val .null, .val (.ref rr_3)] [(.int (1 : Int32)), (.ref rr_3), (.ref ob)]))
  obtain ⟨_, _, ⟨T11, L11, k11, n11⟩, -, X11, ⟨Lc11, hQ11, l11, y11, z11⟩, st11⟩ := Jvm.LawKit.callS X3 hx (y := (⟨"java/lang/StringUTF16", "coderFromArrayLen", "([BI)B"⟩ : MethodName)) hown (mvT hZ (wdx hw 23 rfl)) (mvT hZ (wdx hw 24 rfl)) (mvT hZ (wdx hw 17 rfl)) (mvT hZ (wdx hw 25 rfl)) (by decide) (backOf (W := 1) (rm6_1 l Z a0 hw [] rr_3 kr_3 (nar .byte (ca.toInt8.toInt32)) T3.heap n0 O3 f4) hZ (wdx hw 25 rfl) (wdx hw 17 rfl) (by decide) (by decide)) (g := (mkF m 45 #[.val (.ref ob), .val (.ref aa), .val (.int (0 : Int32)), .val (.int (1 : Int32)), .val .null, .val (.ref rr_3)] [(.int (1 : Int32)), (.ref rr_3), (.ref ob)])) rfl (by rw [hml]; rfl) (argsL := [(.ref rr_3), (.int (1 : Int32))]) (rest := [(.ref ob)]) (lenOf pd___BI_B rfl) rfl (by show 2 * 0 + _ ≤ _; exact Nat.le_of_eq rfl) (hb hby d2_45) (fun _ _ => ⟨rfl, rfl, (by exact Nat.le_of_ble_eq_true rfl), (by exact Nat.le_of_ble_eq_true rfl)⟩)
  dsimp only [Pt.U, Pt.locs, Pt.cells, Pt.slots] at X11 l11 y11 z11 st11 hQ11
  subst l11 y11 z11
  obtain ⟨rfl, Nq11, eq11⟩ := hQ11
  have N11 := Fr.app N3 Nq11
  refine Go.st st11 ?_
  show Go p e below s _ _ _ (T11.setTop (mkF m 48 #[.val (.ref ob), .val (.ref aa), .val (.int (0 : Int32)), .val (.int (1 : Int32)), .val .null, .val (.ref rr_3)] [(.int (0 : Int32)), (.ref ob)]))
  obtain ⟨T12, h12, X12, e12, W12, st12⟩ := putFN X11 hx hZ hown (wdx hw 26 rfl) Via.refl eq11 f7 f5 (Or.inr ⟨(wdx hw 27 rfl), rfl, hnm⟩) (wdx hw 1 rfl) (ty := .byte) (v' := (.int (0 : Int32))) (by decide) rfl rfl (g := (mkF m 48 #[.val (.ref ob), .val (.ref aa), .val (.int (0 : Int32)), .val (.int (1 : Int32)), .val .null, .val (.ref rr_3)] [(.int (0 : Int32)), (.ref ob)])) rfl rfl (hb hby d2_48)
  refine Go.st st12 ?_
  have f13 : Exa Z h12 ob "java/lang/String" := f5.wr W12
  have f14 : Fld Z h12 ob "java/lang/String" "value" "[B" .null := f6.other W12 (Or.inr (slot_ne (Or.inr (wdx hw 29 rfl)) (Or.inr (wdx hw 27 rfl)) (by decide) (t := (.array .byte)) (t' := .byte) (by decide) (by decide)))
  have f15 : Fld Z h12 ob "java/lang/String" "coder" "B" (.int (0 : Int32)) := f7.same W12
  have f16 : Arv Z h12 aa ka .char (1 : Int32) [(.int ca)] (.int (0 : Int32)) := f8.other W12 (Ne.symm ne_oa)
  have f17 : Arv Z h12 rr_3 kr_3 .byte (1 : Int32) [(.int (nar .byte (ca.toInt8.toInt32)))] (.int (0 : Int32)) := f4.other W12 (Ne.symm ne9)
  have O12 : Old Z n0 h12 := O3.wr W12 g_o
  have N12 := Fr.snoc X12 N11 g_o
  have K12 : Keep h0 h12 [ob] := K3.wr W12 (Or.inl (by simp))
  show Go p e below s _ _ _ (T12.setTop (mkF m 51 #[.val (.ref ob), .val (.ref aa), .val (.int (0 : Int32)), .val (.int (1 : Int32)), .val .null, .val (.ref rr_3)] []))
  refine Go.st (fun _ k' => XS.aloadN X12.here hx rfl (hb hby d2_51) rfl rfl k') ?_
  show Go p e below s _ _ _ (T12.setTop (mkF m 52 #[.val (.ref ob), .val (.ref aa), .val (.int (0 : Int32)), .val (.int (1 : Int32)), .val .null, .val (.ref rr_3)] [(.ref ob)]))
  refine Go.st (fun _ k' => XS.aload X12.here hx rfl (hb hby d2_52) rfl rfl k') ?_
  show Go p e below s _ _ _ (T12.setTop (mkF m 54 #[.val (.ref ob), .val (.ref aa), .val (.int (0 : Int32)), .val (.int (1 : Int32)), .val .null, .val (.ref rr_3)] [(.ref rr_3), (.ref ob)]))
  obtain ⟨T18, h18, X18, e18, W18, st18⟩ := putF X12 hx hZ hown (host := "") (Or.inl (wdx hw 28 rfl)) Via.refl e12 f14 f13 (Or.inr ⟨(wdx hw 29 rfl), rfl, hnm⟩) (wdx hw 1 rfl) (ty := (.array .byte)) (by decide) rfl rfl (g := (mkF m 54 #[.val (.ref ob), .val (.ref aa), .val (.int (0 : Int32)), .val (.int (1 : Int32)), .val .null, .val (.ref rr_3)] [(.ref rr_3), (.ref ob)])) rfl rfl (hb hby d2_54)
  refine Go.st st18 ?_
  have f19 : Exa Z h18 ob "java/lang/String" := f13.wr W18
  have f20 : Fld Z h18 ob "java/lang/String" "value" "[B" (.ref rr_3) := f14.same W18
  have f21 : Fld Z h18 ob "java/lang/String" "coder" "B" (.int (0 : Int32)) := f15.other W18 (Or.inr (slot_ne (Or.inr (wdx hw 27 rfl)) (Or.inr (wdx hw 29 rfl)) (by decide) (t := .byte) (t' := (.array .byte)) (by decide) (by decide)))
  have f22 : Arv Z h18 aa ka .char (1 : Int32) [(.int ca)] (.int (0 : Int32)) := f16.other W18 (Ne.symm ne_oa)
  have f23 : Arv Z h18 rr_3 kr_3 .byte (1 : Int32) [(.int (nar .byte (ca.toInt8.toInt32)))] (.int (0 : Int32)) := f17.other W18 (Ne.symm ne9)
  have O18 : Old Z n0 h18 := O12.wr W18 g_o
  have N18 := Fr.snoc X18 N12 g_o
  have K18 : Keep h0 h18 [ob] := K12.wr W18 (Or.inl (by simp))
  show Go p e below s _ _ _ (T18.setTop (mkF m 57 #[.val (.ref ob), .val (.ref aa), .val (.int (0 : Int32)), .val (.int (1 : Int32)), .val .null, .val (.ref rr_3)] []))
  refine Go.retV X18 hx hlk Bd.returns (hb hby d2_57) (by decide) (by decide) e18 ?_
  exact ⟨rfl, N18, K18⟩
theorem d1_0 : decode jdk_42_method_3_code 0 = .ok (.aload_n 0, 1) := by decide +kernel
theorem d1_1 : decode jdk_42_method_3_code 1 = .ok (.aload_n 1, 1) := by decide +kernel
theorem d1_2 : decode jdk_42_method_3_code 2 = .ok (.iconst 0, 1) := by decide +kernel
theorem d1_3 : decode jdk_42_method_3_code 3 = .ok (.aload_n 1, 1) := by decide +kernel
theorem d1_4 : decode jdk_42_method_3_code 4 = .ok (.arraylength, 1) := by decide +kernel
theorem d1_5 : decode jdk_42_method_3_code 5 = .ok (.aconst_null, 1) := by decide +kernel
theorem pd___CIILjava_lang_Void__V : parseMethodDescriptor "([CIILjava/lang/Void;)V" = some ⟨[(.array .char), .int, .int, (.object "java/lang/Void")], none⟩ := by decide +kernel
theorem d1_6 : decode jdk_42_method_3_code 6 = .ok (.invokespecial 27, 3) := by decide +kernel
theorem d1_9 : decode jdk_42_method_3_code 9 = .ok (.return_, 1) := by decide +kernel
theorem ef_rm1_1 (m : MethodId) (ob : Addr) (aa : Addr) : entryFrame m #[(.ref ob), (.ref aa)] 2 = mkF m 0 #[.val (.ref ob), .val (.ref aa)] [] := by first | (simp [entryFrame, mkF, argsToLocals, Value.category]; done) | rfl
def Q1_1 (Z : State) (ob : Addr) (aa : Addr) (ka : ClassId) (cs : Int32) (ca : Int32) (h0 : Heap) (n0 : Nat) (v : Option Value) (h : Heap) (L : List Loc) : Prop := v = none ∧ Fr n0 L ∧ Keep h0 h [ob]
set_option maxRecDepth 65536 in
set_option maxHeartbeats 40000000 in
theorem rm1_1 (l : Launch) (Z : State) (a0 : Array Value) (hw : ∀ d ∈ tables_1, d.before a0 Z = true) (ws : List Jvm.Cond) (ob : Addr) (aa : Addr) (ka : ClassId) (cs : Int32) (ca : Int32) (h0 : Heap) (n0 : Nat) (O0 : Old Z n0 h0) (E_o : Exa Z h0 ob "java/lang/String") (Fv : Fld Z h0 ob "java/lang/String" "value" "[B" .null) (Fc : Fld Z h0 ob "java/lang/String" "coder" "B" (.int (0 : Int32))) (Va : Arv Z h0 aa ka .char (1 : Int32) [(.int ca)] (.int (0 : Int32))) (S_cs : Sta Z Z.heap "java/lang/String" "COMPACT_STRINGS" "Z" (.int cs)) (q_cs : ¬ cs = (0 : Int32)) (q_ca : ¬ (255 : Int32) < ca) (g_o : n0 ≤ ob) (ne_oa : ob ≠ aa) :
    MetFree l (⟨"java/lang/String", "<init>", "([C)V"⟩ : MethodName) (head1 (Jvm.Cond.code (⟨"java/lang/String", "<init>", "([C)V"⟩ : MethodName) jdk_42_method_3_code 2 none :: ws) ({ frames := 3, cells := 1, slots := 1, locals := 52 } : Room)) (fun ay U => ay = #[(.ref ob), (.ref aa)] ∧ Z.Warmed39 U.vm ∧ U.heap = h0) (fun _ _ _ _ _ => True) (fun _ U o U' => ∃ v L, o = .returned v ∧ Q1_1 Z ob aa ka cs ca h0 n0 v U'.heap L ∧ FrameEnd U o U' L ({ frames := 3, cells := 1, slots := 1, locals := 52 } : Room).cells ({ frames := 3, cells := 1, slots := 1, locals := 52 } : Room).slots) := by
  refine MetFree.of_bodySF (plainFor_of_name pn_java_lang_String) hisR ?_
  intro p e s m args below meth c s₁ Bd hml0 hP hK
  obtain ⟨rfl, hZ, hh⟩ := hP
  have hx := Bd.exec
  have hby := Bd.bytes
  have hlk : meth.locks = false := BodyLoose.notSynchronized Bd
  have hml : c.maxLocals = 2 := hml0
  have hown : s.vm.findClass "java/lang/String" = some m.cls := findClass_of_methodNamed Bd.named
  have hnm := (name_of_methodNamed Bd.named Bd.method).1
  have X0 : Stand p l e ({ frames := 3, cells := 1, slots := 1, locals := 52 } : Room) s m #[(.ref ob), (.ref aa)] below meth c s₁ [] 0 0 := Stand.of_body Bd
  have e0 : s₁.heap = h0 := by rw [← hh, Bd.state]; rfl
  have N0 := Fr.nil n0
  suffices hgo : Go p e below s 1 1 (Q1_1 Z ob aa ka cs ca h0 n0) (s₁.setTop (mkF m 0 #[.val (.ref ob), .val (.ref aa)] [])) by
    obtain ⟨t, o, h1, h2⟩ := hgo; exact ⟨t, o, castTop (ef_rm1_1 m ob aa) h1, h2⟩
  show Go p e below s _ _ _ (s₁.setTop (mkF m 0 #[.val (.ref ob), .val (.ref aa)] []))
  refine Go.st (fun _ k' => XS.aloadN X0.here hx rfl (hb hby d1_0) rfl rfl k') ?_
  show Go p e below s _ _ _ (s₁.setTop (mkF m 1 #[.val (.ref ob), .val (.ref aa)] [(.ref ob)]))
  refine Go.st (fun _ k' => XS.aloadN X0.here hx rfl (hb hby d1_1) rfl rfl k') ?_
  show Go p e below s _ _ _ (s₁.setTop (mkF m 2 #[.val (.ref ob), .val (.ref aa)] [(.ref aa), (.ref ob)]))
  refine Go.st (fun _ k' => XS.iconst X0.here hx rfl (hb hby d1_2) k') ?_
  show Go p e below s _ _ _ (s₁.setTop (mkF m 3 #[.val (.ref ob), .val (.ref aa)] [(.int (0 : Int32)), (.ref aa), (.ref ob)]))
  refine Go.st (fun _ k' => XS.aloadN X0.here hx rfl (hb hby d1_3) rfl rfl k') ?_
  show Go p e below s _ _ _ (s₁.setTop (mkF m 4 #[.val (.ref ob), .val (.ref aa)] [(.ref aa), (.int (0 : Int32)), (.ref aa), (.ref ob)]))
  obtain ⟨cl1, Ar1, qc1, Sz1, Nn1, Ha1, Gf1⟩ := id Va
  refine Go.st (fun _ k' => X0.arraylength hx (by rw [e0]; exact Ar1.1) (State.isArrayOf_alike hZ.alike Ar1.2.1) (g := (mkF m 4 #[.val (.ref ob), .val (.ref aa)] [(.ref aa), (.int (0 : Int32)), (.ref aa), (.ref ob)])) rfl rfl (hb hby d1_4) _ k') ?_
  rw [len_of Sz1 Nn1]
  show Go p e below s _ _ _ (s₁.setTop (mkF m 5 #[.val (.ref ob), .val (.ref aa)] [(.int (1 : Int32)), (.int (0 : Int32)), (.ref aa), (.ref ob)]))
  refine Go.st (fun _ k' => XS.aconstNull X0.here hx rfl (hb hby d1_5) k') ?_
  show Go p e below s _ _ _ (s₁.setTop (mkF m 6 #[.val (.ref ob), .val (.ref aa)] [.null, (.int (1 : Int32)), (.int (0 : Int32)), (.ref aa), (.ref ob)]))
  obtain ⟨_, _, ⟨T2, L2, k2, n2⟩, -, X2, ⟨Lc2, hQ2, l2, y2, z2⟩, st2⟩ := X0.specialBack hx (y := (⟨"java/lang/String", "<init>", "([CIILjava/lang/Void;)V"⟩ : MethodName)) rfl hown (mvT hZ (wdx hw 7 rfl)) (mvT hZ (wdx hw 8 rfl)) (mvT hZ (wdx hw 10 rfl)) (by decide) (backOf (W := 0) (rm2_1 l Z a0 hw [] ob aa ka cs ca h0 n0 O0 E_o Fv Fc Va S_cs q_cs q_ca g_o ne_oa) hZ (wdx hw 10 rfl) (wdx hw 2 rfl) (by decide) (by decide)) (g := (mkF m 6 #[.val (.ref ob), .val (.ref aa)] [.null, (.int (1 : Int32)), (.int (0 : Int32)), (.ref aa), (.ref ob)])) rfl (by rw [hml]; rfl) (Steps.refl _) (a := ob) (argsL := [(.ref aa), (.int (0 : Int32)), (.int (1 : Int32)), .null]) (rest := []) (lenOf pd___CIILjava_lang_Void__V rfl) rfl (by show 2 * 0 + _ ≤ _; exact Nat.le_of_eq rfl) (hb hby d1_6) (fun _ _ => ⟨rfl, e0, (by exact Nat.le_of_ble_eq_true rfl), (by exact Nat.le_of_ble_eq_true rfl)⟩)
  dsimp only [Pt.U, Pt.locs, Pt.cells, Pt.slots] at X2 l2 y2 z2 st2 hQ2
  subst l2 y2 z2
  obtain ⟨rfl, Nq2, Kq2⟩ := hQ2
  have N2 := Fr.app N0 Nq2
  refine Go.tr st2 ?_
  have f3 : Exa Z T2.heap ob "java/lang/String" := E_o.keep Kq2
  have f4 : Arv Z T2.heap aa ka .char (1 : Int32) [(.int ca)] (.int (0 : Int32)) := Va.keep Kq2 (ninS (Ne.symm ne_oa) nin0)
  have O2 : Old Z n0 T2.heap := O0.keep Kq2 (allS g_o all0)
  have K2 : Keep h0 T2.heap [ob] := (Keep.refl h0 [ob]).trans Kq2 (allS (Or.inl (by simp)) all0)
  show Go p e below s _ _ _ (T2.setTop (mkF m 9 #[.val (.ref ob), .val (.ref aa)] []))
  refine Go.retV X2 hx hlk Bd.returns (hb hby d1_9) (by decide) (by decide) rfl ?_
  exact ⟨rfl, N2, K2⟩
theorem ef_rm5_2 (m : MethodId) (aa : Addr) (bb : Addr) : entryFrame m #[(.ref aa), (.int (0 : Int32)), (.ref bb), (.int (0 : Int32)), (.int (2 : Int32))] 7 = mkF m 0 #[.val (.ref aa), .val (.int (0 : Int32)), .val (.ref bb), .val (.int (0 : Int32)), .val (.int (2 : Int32)), .unset, .unset] [] := by first | (simp [entryFrame, mkF, argsToLocals, Value.category]; done) | rfl
def Q5_2 (Z : State) (aa : Addr) (bb : Addr) (ka : ClassId) (kb : ClassId) (ca : Int32) (cb : Int32) (h0 : Heap) (n0 : Nat) (v : Option Value) (h : Heap) (L : List Loc) : Prop := v = some (.int (2 : Int32)) ∧ Fr n0 L ∧ Keep h0 h [bb] ∧ Arv Z h bb kb .byte (2 : Int32) [(.int (nar .byte (ca.toInt8.toInt32))), (.int (nar .byte (cb.toInt8.toInt32)))] (.int (0 : Int32))
set_option maxRecDepth 65536 in
set_option maxHeartbeats 40000000 in
theorem rm5_2 (l : Launch) (Z : State) (a0 : Array Value) (hw : ∀ d ∈ tables_1, d.before a0 Z = true) (ws : List Jvm.Cond) (aa : Addr) (bb : Addr) (ka : ClassId) (kb : ClassId) (ca : Int32) (cb : Int32) (h0 : Heap) (n0 : Nat) (O0 : Old Z n0 h0) (Va : Arv Z h0 aa ka .char (2 : Int32) [(.int ca), (.int cb)] (.int (0 : Int32))) (Vb : Arv Z h0 bb kb .byte (2 : Int32) [(.int (0 : Int32)), (.int (0 : Int32))] (.int (0 : Int32))) (q_ca : ¬ (255 : Int32) < ca) (q_cb : ¬ (255 : Int32) < cb) (g_b : n0 ≤ bb) (ne_ab : aa ≠ bb) :
    MetFree l (⟨"java/lang/StringUTF16", "compress", "([CI[BII)I"⟩ : MethodName) (head1 (Jvm.Cond.code (⟨"java/lang/StringUTF16", "compress", "([CI[BII)I"⟩ : MethodName) jdk_52_method_21_code 7 (some .int) :: ws) ({ frames := 0, cells := 0, slots := 0, locals := 0 } : Room)) (fun ay U => ay = #[(.ref aa), (.int (0 : Int32)), (.ref bb), (.int (0 : Int32)), (.int (2 : Int32))] ∧ Z.Warmed39 U.vm ∧ U.heap = h0) (fun _ _ _ _ _ => True) (fun _ U o U' => ∃ v L, o = .returned v ∧ Q5_2 Z aa bb ka kb ca cb h0 n0 v U'.heap L ∧ FrameEnd U o U' L ({ frames := 0, cells := 0, slots := 0, locals := 0 } : Room).cells ({ frames := 0, cells := 0, slots := 0, locals := 0 } : Room).slots) := by
  refine MetFree.of_bodySF (plainFor_of_name pn_java_lang_StringUTF16) hisR ?_
  intro p e s m args below meth c s₁ Bd hml0 hP hK
  obtain ⟨rfl, hZ, hh⟩ := hP
  have hx := Bd.exec
  have hby := Bd.bytes
  have hlk : meth.locks = false := BodyLoose.notSynchronized Bd
  have hml : c.maxLocals = 7 := hml0
  have hown : s.vm.findClass "java/lang/StringUTF16" = some m.cls := findClass_of_methodNamed Bd.named
  have hnm := (name_of_methodNamed Bd.named Bd.method).1
  have X0 : Stand p l e ({ frames := 0, cells := 0, slots := 0, locals := 0 } : Room) s m #[(.ref aa), (.int (0 : Int32)), (.ref bb), (.int (0 : Int32)), (.int (2 : Int32))] below meth c s₁ [] 0 0 := Stand.of_body Bd
  have e0 : s₁.heap = h0 := by rw [← hh, Bd.state]; rfl
  have N0 := Fr.nil n0
  suffices hgo : Go p e below s 0 0 (Q5_2 Z aa bb ka kb ca cb h0 n0) (s₁.setTop (mkF m 0 #[.val (.ref aa), .val (.int (0 : Int32)), .val (.ref bb), .val (.int (0 : Int32)), .val (.int (2 : Int32)), .unset, .unset] [])) by
    obtain ⟨t, o, h1, h2⟩ := hgo; exact ⟨t, o, castTop (ef_rm5_2 m aa bb) h1, h2⟩
  show Go p e below s _ _ _ (s₁.setTop (mkF m 0 #[.val (.ref aa), .val (.int (0 : Int32)), .val (.ref bb), .val (.int (0 : Int32)), .val (.int (2 : Int32)), .unset, .unset] []))
  refine Go.st (fun _ k' => XS.iconst X0.here hx rfl (hb hby d5_0) k') ?_
  show Go p e below s _ _ _ (s₁.setTop (mkF m 1 #[.val (.ref aa), .val (.int (0 : Int32)), .val (.ref bb), .val (.int (0 : Int32)), .val (.int (2 : Int32)), .unset, .unset] [(.int (0 : Int32))]))
  refine Go.st (fun _ k' => XS.istore X0.here hx rfl (hb hby d5_1) rfl (l' := #[.val (.ref aa), .val (.int (0 : Int32)), .val (.ref bb), .val (.int (0 : Int32)), .val (.int (2 : Int32)), .val (.int (0 : Int32)), .unset]) rfl k') ?_
  show Go p e below s _ _ _ (s₁.setTop (mkF m 3 #[.val (.ref aa), .val (.int (0 : Int32)), .val (.ref bb), .val (.int (0 : Int32)), .val (.int (2 : Int32)), .val (.int (0 : Int32)), .unset] []))
  refine Go.st (fun _ k' => XS.iload X0.here hx rfl (hb hby d5_3) rfl k') ?_
  show Go p e below s _ _ _ (s₁.setTop (mkF m 5 #[.val (.ref aa), .val (.int (0 : Int32)), .val (.ref bb), .val (.int (0 : Int32)), .val (.int (2 : Int32)), .val (.int (0 : Int32)), .unset] [(.int (0 : Int32))]))
  refine Go.st (fun _ k' => XS.iload X0.here hx rfl (hb hby d5_5) rfl k') ?_
  show Go p e below s _ _ _ (s₁.setTop (mkF m 7 #[.val (.ref aa), .val (.int (0 : Int32)), .val (.ref bb), .val (.int (0 : Int32)), .val (.int (2 : Int32)), .val (.int (0 : Int32)), .unset] [(.int (2 : Int32)), (.int (0 : Int32))]))
  refine Go.st (fun _ k' => XS.icmpNo X0.here hx rfl (hb hby d5_7) rfl (XT.ii_ge_f (by decide)) k') ?_
  show Go p e below s _ _ _ (s₁.setTop (mkF m 10 #[.val (.ref aa), .val (.int (0 : Int32)), .val (.ref bb), .val (.int (0 : Int32)), .val (.int (2 : Int32)), .val (.int (0 : Int32)), .unset] []))
  refine Go.st (fun _ k' => XS.aloadN X0.here hx rfl (hb hby d5_10) rfl rfl k') ?_
  show Go p e below s _ _ _ (s₁.setTop (mkF m 11 #[.val (.ref aa), .val (.int (0 : Int32)), .val (.ref bb), .val (.int (0 : Int32)), .val (.int (2 : Int32)), .val (.int (0 : Int32)), .unset] [(.ref aa)]))
  refine Go.st (fun _ k' => XS.iloadN X0.here hx rfl (hb hby d5_11) rfl k') ?_
  show Go p e below s _ _ _ (s₁.setTop (mkF m 12 #[.val (.ref aa), .val (.int (0 : Int32)), .val (.ref bb), .val (.int (0 : Int32)), .val (.int (2 : Int32)), .val (.int (0 : Int32)), .unset] [(.int (0 : Int32)), (.ref aa)]))
  obtain ⟨cl1, Ar1, qc1, Sz1, Nn1, Ha1, Gf1⟩ := id Va
  refine Go.st (fun _ k' => X0.caload hx (j := (0 : Int32)) (v := (.int ca)) (by rw [e0]; exact Ar1.1) (State.isArrayOf_alike hZ.alike Ar1.2.1) Ar1.2.2 (inb_of Sz1 ⟨by decide, by decide⟩) (Ha1.at (inb_of Sz1 ⟨by decide, by decide⟩) rfl) (g := (mkF m 12 #[.val (.ref aa), .val (.int (0 : Int32)), .val (.ref bb), .val (.int (0 : Int32)), .val (.int (2 : Int32)), .val (.int (0 : Int32)), .unset] [(.int (0 : Int32)), (.ref aa)])) rfl rfl (hb hby d5_12) _ k') ?_
  show Go p e below s _ _ _ (s₁.setTop (mkF m 13 #[.val (.ref aa), .val (.int (0 : Int32)), .val (.ref bb), .val (.int (0 : Int32)), .val (.int (2 : Int32)), .val (.int (0 : Int32)), .unset] [(.int ca)]))
  refine Go.st (fun _ k' => XS.istore X0.here hx rfl (hb hby d5_13) rfl (l' := #[.val (.ref aa), .val (.int (0 : Int32)), .val (.ref bb), .val (.int (0 : Int32)), .val (.int (2 : Int32)), .val (.int (0 : Int32)), .val (.int ca)]) rfl k') ?_
  show Go p e below s _ _ _ (s₁.setTop (mkF m 15 #[.val (.ref aa), .val (.int (0 : Int32)), .val (.ref bb), .val (.int (0 : Int32)), .val (.int (2 : Int32)), .val (.int (0 : Int32)), .val (.int ca)] []))
  refine Go.st (fun _ k' => XS.iload X0.here hx rfl (hb hby d5_15) rfl k') ?_
  show Go p e below s _ _ _ (s₁.setTop (mkF m 17 #[.val (.ref aa), .val (.int (0 : Int32)), .val (.ref bb), .val (.int (0 : Int32)), .val (.int (2 : Int32)), .val (.int (0 : Int32)), .val (.int ca)] [(.int ca)]))
  refine Go.st (fun _ k' => XS.sipush X0.here hx rfl (hb hby d5_17) k') ?_
  show Go p e below s _ _ _ (s₁.setTop (mkF m 20 #[.val (.ref aa), .val (.int (0 : Int32)), .val (.ref bb), .val (.int (0 : Int32)), .val (.int (2 : Int32)), .val (.int (0 : Int32)), .val (.int ca)] [(.int (255 : Int32)), (.int ca)]))
  refine Go.st (fun _ k' => XS.icmpYes X0.here hx rfl (pc0 := 20) (pc' := 26) rfl (hb hby d5_20) rfl (XT.ii_le_t q_ca) (by decide) (by decide) k') ?_
  show Go p e below s _ _ _ (s₁.setTop (mkF m 26 #[.val (.ref aa), .val (.int (0 : Int32)), .val (.ref bb), .val (.int (0 : Int32)), .val (.int (2 : Int32)), .val (.int (0 : Int32)), .val (.int ca)] []))
  refine Go.st (fun _ k' => XS.aloadN X0.here hx rfl (hb hby d5_26) rfl rfl k') ?_
  show Go p e below s _ _ _ (s₁.setTop (mkF m 27 #[.val (.ref aa), .val (.int (0 : Int32)), .val (.ref bb), .val (.int (0 : Int32)), .val (.int (2 : Int32)), .val (.int (0 : Int32)), .val (.int ca)] [(.ref bb)]))
  refine Go.st (fun _ k' => XS.iloadN X0.here hx rfl (hb hby d5_27) rfl k') ?_
  show Go p e below s _ _ _ (s₁.setTop (mkF m 28 #[.val (.ref aa), .val (.int (0 : Int32)), .val (.ref bb), .val (.int (0 : Int32)), .val (.int (2 : Int32)), .val (.int (0 : Int32)), .val (.int ca)] [(.int (0 : Int32)), (.ref bb)]))
  refine Go.st (fun _ k' => XS.iload X0.here hx rfl (hb hby d5_28) rfl k') ?_
  show Go p e below s _ _ _ (s₁.setTop (mkF m 30 #[.val (.ref aa), .val (.int (0 : Int32)), .val (.ref bb), .val (.int (0 : Int32)), .val (.int (2 : Int32)), .val (.int (0 : Int32)), .val (.int ca)] [(.int ca), (.int (0 : Int32)), (.ref bb)]))
  refine Go.st (fun _ k' => XS.i2b X0.here hx rfl (hb hby d5_30) rfl k') ?_
  show Go p e below s _ _ _ (s₁.setTop (mkF m 31 #[.val (.ref aa), .val (.int (0 : Int32)), .val (.ref bb), .val (.int (0 : Int32)), .val (.int (2 : Int32)), .val (.int (0 : Int32)), .val (.int ca)] [(.int (ca.toInt8.toInt32)), (.int (0 : Int32)), (.ref bb)]))
  obtain ⟨cl2, Ar2, qc2, Sz2, Nn2, Ha2, Gf2⟩ := id Vb
  obtain ⟨T2, h2, X2, e2, W2, st2⟩ := stB X0 hx hZ e0 Ar2 (j := (0 : Int32)) (inb_of Sz2 ⟨by decide, by decide⟩) (g := (mkF m 31 #[.val (.ref aa), .val (.int (0 : Int32)), .val (.ref bb), .val (.int (0 : Int32)), .val (.int (2 : Int32)), .val (.int (0 : Int32)), .val (.int ca)] [(.int (ca.toInt8.toInt32)), (.int (0 : Int32)), (.ref bb)])) rfl rfl (hb hby d5_31)
  refine Go.st st2 ?_
  have f4 : Arv Z h2 aa ka .char (2 : Int32) [(.int ca), (.int cb)] (.int (0 : Int32)) := Va.other W2 ne_ab
  have O2 : Old Z n0 h2 := O0.wr W2 g_b
  have N2 := Fr.snoc X2 N0 g_b
  have K2 : Keep h0 h2 [bb] := (Keep.refl h0 [bb]).wr W2 (Or.inl (by simp))
  have f3 : Arv Z h2 bb kb .byte (2 : Int32) [(.int (nar .byte (ca.toInt8.toInt32))), (.int (0 : Int32))] (.int (0 : Int32)) := Arv.set Ar2 qc2 Sz2 Nn2 Ha2 Gf2 (fits_nar_byte _) W2 0 rfl (Nat.le_of_ble_eq_true rfl)
  show Go p e below s _ _ _ (T2.setTop (mkF m 32 #[.val (.ref aa), .val (.int (0 : Int32)), .val (.ref bb), .val (.int (0 : Int32)), .val (.int (2 : Int32)), .val (.int (0 : Int32)), .val (.int ca)] []))
  refine Go.st (fun _ k' => XS.iinc X2.here hx rfl (hb hby d5_32) rfl (l' := #[.val (.ref aa), .val (.int (1 : Int32)), .val (.ref bb), .val (.int (0 : Int32)), .val (.int (2 : Int32)), .val (.int (0 : Int32)), .val (.int ca)]) rfl k') ?_
  show Go p e below s _ _ _ (T2.setTop (mkF m 35 #[.val (.ref aa), .val (.int (1 : Int32)), .val (.ref bb), .val (.int (0 : Int32)), .val (.int (2 : Int32)), .val (.int (0 : Int32)), .val (.int ca)] []))
  refine Go.st (fun _ k' => XS.iinc X2.here hx rfl (hb hby d5_35) rfl (l' := #[.val (.ref aa), .val (.int (1 : Int32)), .val (.ref bb), .val (.int (1 : Int32)), .val (.int (2 : Int32)), .val (.int (0 : Int32)), .val (.int ca)]) rfl k') ?_
  show Go p e below s _ _ _ (T2.setTop (mkF m 38 #[.val (.ref aa), .val (.int (1 : Int32)), .val (.ref bb), .val (.int (1 : Int32)), .val (.int (2 : Int32)), .val (.int (0 : Int32)), .val (.int ca)] []))
  refine Go.st (fun _ k' => XS.iinc X2.here hx rfl (hb hby d5_38) rfl (l' := #[.val (.ref aa), .val (.int (1 : Int32)), .val (.ref bb), .val (.int (1 : Int32)), .val (.int (2 : Int32)), .val (.int (1 : Int32)), .val (.int ca)]) rfl k') ?_
  show Go p e below s _ _ _ (T2.setTop (mkF m 41 #[.val (.ref aa), .val (.int (1 : Int32)), .val (.ref bb), .val (.int (1 : Int32)), .val (.int (2 : Int32)), .val (.int (1 : Int32)), .val (.int ca)] []))
  refine Go.st (fun _ k' => XS.goto X2.here hx rfl (pc0 := 41) (pc' := 3) rfl (hb hby d5_41) (by decide) (by decide) k') ?_
  show Go p e below s _ _ _ (T2.setTop (mkF m 3 #[.val (.ref aa), .val (.int (1 : Int32)), .val (.ref bb), .val (.int (1 : Int32)), .val (.int (2 : Int32)), .val (.int (1 : Int32)), .val (.int ca)] []))
  refine Go.st (fun _ k' => XS.iload X2.here hx rfl (hb hby d5_3) rfl k') ?_
  show Go p e below s _ _ _ (T2.setTop (mkF m 5 #[.val (.ref aa), .val (.int (1 : Int32)), .val (.ref bb), .val (.int (1 : Int32)), .val (.int (2 : Int32)), .val (.int (1 : Int32)), .val (.int ca)] [(.int (1 : Int32))]))
  refine Go.st (fun _ k' => XS.iload X2.here hx rfl (hb hby d5_5) rfl k') ?_
  show Go p e below s _ _ _ (T2.setTop (mkF m 7 #[.val (.ref aa), .val (.int (1 : Int32)), .val (.ref bb), .val (.int (1 : Int32)), .val (.int (2 : Int32)), .val (.int (1 : Int32)), .val (.int ca)] [(.int (2 : Int32)), (.int (1 : Int32))]))
  refine Go.st (fun _ k' => XS.icmpNo X2.here hx rfl (hb hby d5_7) rfl (XT.ii_ge_f (by decide)) k') ?_
  show Go p e below s _ _ _ (T2.setTop (mkF m 10 #[.val (.ref aa), .val (.int (1 : Int32)), .val (.ref bb), .val (.int (1 : Int32)), .val (.int (2 : Int32)), .val (.int (1 : Int32)), .val (.int ca)] []))
  refine Go.st (fun _ k' => XS.aloadN X2.here hx rfl (hb hby d5_10) rfl rfl k') ?_
  show Go p e below s _ _ _ (T2.setTop (mkF m 11 #[.val (.ref aa), .val (.int (1 : Int32)), .val (.ref bb), .val (.int (1 : Int32)), .val (.int (2 : Int32)), .val (.int (1 : Int32)), .val (.int ca)] [(.ref aa)]))
  refine Go.st (fun _ k' => XS.iloadN X2.here hx rfl (hb hby d5_11) rfl k') ?_
  show Go p e below s _ _ _ (T2.setTop (mkF m 12 #[.val (.ref aa), .val (.int (1 : Int32)), .val (.ref bb), .val (.int (1 : Int32)), .val (.int (2 : Int32)), .val (.int (1 : Int32)), .val (.int ca)] [(.int (1 : Int32)), (.ref aa)]))
  obtain ⟨cl5, Ar5, qc5, Sz5, Nn5, Ha5, Gf5⟩ := id f4
  refine Go.st (fun _ k' => X2.caload hx (j := (1 : Int32)) (v := (.int cb)) (by rw [e2]; exact Ar5.1) (State.isArrayOf_alike hZ.alike Ar5.2.1) Ar5.2.2 (inb_of Sz5 ⟨by decide, by decide⟩) (Ha5.at (inb_of Sz5 ⟨by decide, by decide⟩) rfl) (g := (mkF m 12 #[.val (.ref aa), .val (.int (1 : Int32)), .val (.ref bb), .val (.int (1 : Int32)), .val (.int (2 : Int32)), .val (.int (1 : Int32)), .val (.int ca)] [(.int (1 : Int32)), (.ref aa)])) rfl rfl (hb hby d5_12) _ k') ?_
  show Go p e below s _ _ _ (T2.setTop (mkF m 13 #[.val (.ref aa), .val (.int (1 : Int32)), .val (.ref bb), .val (.int (1 : Int32)), .val (.int (2 : Int32)), .val (.int (1 : Int32)), .val (.int ca)] [(.int cb)]))
  refine Go.st (fun _ k' => XS.istore X2.here hx rfl (hb hby d5_13) rfl (l' := #[.val (.ref aa), .val (.int (1 : Int32)), .val (.ref bb), .val (.int (1 : Int32)), .val (.int (2 : Int32)), .val (.int (1 : Int32)), .val (.int cb)]) rfl k') ?_
  show Go p e below s _ _ _ (T2.setTop (mkF m 15 #[.val (.ref aa), .val (.int (1 : Int32)), .val (.ref bb), .val (.int (1 : Int32)), .val (.int (2 : Int32)), .val (.int (1 : Int32)), .val (.int cb)] []))
  refine Go.st (fun _ k' => XS.iload X2.here hx rfl (hb hby d5_15) rfl k') ?_
  show Go p e below s _ _ _ (T2.setTop (mkF m 17 #[.val (.ref aa), .val (.int (1 : Int32)), .val (.ref bb), .val (.int (1 : Int32)), .val (.int (2 : Int32)), .val (.int (1 : Int32)), .val (.int cb)] [(.int cb)]))
  refine Go.st (fun _ k' => XS.sipush X2.here hx rfl (hb hby d5_17) k') ?_
  show Go p e below s _ _ _ (T2.setTop (mkF m 20 #[.val (.ref aa), .val (.int (1 : Int32)), .val (.ref bb), .val (.int (1 : Int32)), .val (.int (2 : Int32)), .val (.int (1 : Int32)), .val (.int cb)] [(.int (255 : Int32)), (.int cb)]))
  refine Go.st (fun _ k' => XS.icmpYes X2.here hx rfl (pc0 := 20) (pc' := 26) rfl (hb hby d5_20) rfl (XT.ii_le_t q_cb) (by decide) (by decide) k') ?_
  show Go p e below s _ _ _ (T2.setTop (mkF m 26 #[.val (.ref aa), .val (.int (1 : Int32)), .val (.ref bb), .val (.int (1 : Int32)), .val (.int (2 : Int32)), .val (.int (1 : Int32)), .val (.int cb)] []))
  refine Go.st (fun _ k' => XS.aloadN X2.here hx rfl (hb hby d5_26) rfl rfl k') ?_
  show Go p e below s _ _ _ (T2.setTop (mkF m 27 #[.val (.ref aa), .val (.int (1 : Int32)), .val (.ref bb), .val (.int (1 : Int32)), .val (.int (2 : Int32)), .val (.int (1 : Int32)), .val (.int cb)] [(.ref bb)]))
  refine Go.st (fun _ k' => XS.iloadN X2.here hx rfl (hb hby d5_27) rfl k') ?_
  show Go p e below s _ _ _ (T2.setTop (mkF m 28 #[.val (.ref aa), .val (.int (1 : Int32)), .val (.ref bb), .val (.int (1 : Int32)), .val (.int (2 : Int32)), .val (.int (1 : Int32)), .val (.int cb)] [(.int (1 : Int32)), (.ref bb)]))
  refine Go.st (fun _ k' => XS.iload X2.here hx rfl (hb hby d5_28) rfl k') ?_
  show Go p e below s _ _ _ (T2.setTop (mkF m 30 #[.val (.ref aa), .val (.int (1 : Int32)), .val (.ref bb), .val (.int (1 : Int32)), .val (.int (2 : Int32)), .val (.int (1 : Int32)), .val (.int cb)] [(.int cb), (.int (1 : Int32)), (.ref bb)]))
  refine Go.st (fun _ k' => XS.i2b X2.here hx rfl (hb hby d5_30) rfl k') ?_
  show Go p e below s _ _ _ (T2.setTop (mkF m 31 #[.val (.ref aa), .val (.int (1 : Int32)), .val (.ref bb), .val (.int (1 : Int32)), .val (.int (2 : Int32)), .val (.int (1 : Int32)), .val (.int cb)] [(.int (cb.toInt8.toInt32)), (.int (1 : Int32)), (.ref bb)]))
  obtain ⟨cl6, Ar6, qc6, Sz6, Nn6, Ha6, Gf6⟩ := id f3
  obtain ⟨T6, h6, X6, e6, W6, st6⟩ := stB X2 hx hZ e2 Ar6 (j := (1 : Int32)) (inb_of Sz6 ⟨by decide, by decide⟩) (g := (mkF m 31 #[.val (.ref aa), .val (.int (1 : Int32)), .val (.ref bb), .val (.int (1 : Int32)), .val (.int (2 : Int32)), .val (.int (1 : Int32)), .val (.int cb)] [(.int (cb.toInt8.toInt32)), (.int (1 : Int32)), (.ref bb)])) rfl rfl (hb hby d5_31)
  refine Go.st st6 ?_
  have f8 : Arv Z h6 aa ka .char (2 : Int32) [(.int ca), (.int cb)] (.int (0 : Int32)) := f4.other W6 ne_ab
  have O6 : Old Z n0 h6 := O2.wr W6 g_b
  have N6 := Fr.snoc X6 N2 g_b
  have K6 : Keep h0 h6 [bb] := K2.wr W6 (Or.inl (by simp))
  have f7 : Arv Z h6 bb kb .byte (2 : Int32) [(.int (nar .byte (ca.toInt8.toInt32))), (.int (nar .byte (cb.toInt8.toInt32)))] (.int (0 : Int32)) := Arv.set Ar6 qc6 Sz6 Nn6 Ha6 Gf6 (fits_nar_byte _) W6 1 rfl (Nat.le_of_ble_eq_true rfl)
  show Go p e below s _ _ _ (T6.setTop (mkF m 32 #[.val (.ref aa), .val (.int (1 : Int32)), .val (.ref bb), .val (.int (1 : Int32)), .val (.int (2 : Int32)), .val (.int (1 : Int32)), .val (.int cb)] []))
  refine Go.st (fun _ k' => XS.iinc X6.here hx rfl (hb hby d5_32) rfl (l' := #[.val (.ref aa), .val (.int (2 : Int32)), .val (.ref bb), .val (.int (1 : Int32)), .val (.int (2 : Int32)), .val (.int (1 : Int32)), .val (.int cb)]) rfl k') ?_
  show Go p e below s _ _ _ (T6.setTop (mkF m 35 #[.val (.ref aa), .val (.int (2 : Int32)), .val (.ref bb), .val (.int (1 : Int32)), .val (.int (2 : Int32)), .val (.int (1 : Int32)), .val (.int cb)] []))
  refine Go.st (fun _ k' => XS.iinc X6.here hx rfl (hb hby d5_35) rfl (l' := #[.val (.ref aa), .val (.int (2 : Int32)), .val (.ref bb), .val (.int (2 : Int32)), .val (.int (2 : Int32)), .val (.int (1 : Int32)), .val (.int cb)]) rfl k') ?_
  show Go p e below s _ _ _ (T6.setTop (mkF m 38 #[.val (.ref aa), .val (.int (2 : Int32)), .val (.ref bb), .val (.int (2 : Int32)), .val (.int (2 : Int32)), .val (.int (1 : Int32)), .val (.int cb)] []))
  refine Go.st (fun _ k' => XS.iinc X6.here hx rfl (hb hby d5_38) rfl (l' := #[.val (.ref aa), .val (.int (2 : Int32)), .val (.ref bb), .val (.int (2 : Int32)), .val (.int (2 : Int32)), .val (.int (2 : Int32)), .val (.int cb)]) rfl k') ?_
  show Go p e below s _ _ _ (T6.setTop (mkF m 41 #[.val (.ref aa), .val (.int (2 : Int32)), .val (.ref bb), .val (.int (2 : Int32)), .val (.int (2 : Int32)), .val (.int (2 : Int32)), .val (.int cb)] []))
  refine Go.st (fun _ k' => XS.goto X6.here hx rfl (pc0 := 41) (pc' := 3) rfl (hb hby d5_41) (by decide) (by decide) k') ?_
  show Go p e below s _ _ _ (T6.setTop (mkF m 3 #[.val (.ref aa), .val (.int (2 : Int32)), .val (.ref bb), .val (.int (2 : Int32)), .val (.int (2 : Int32)), .val (.int (2 : Int32)), .val (.int cb)] []))
  refine Go.st (fun _ k' => XS.iload X6.here hx rfl (hb hby d5_3) rfl k') ?_
  show Go p e below s _ _ _ (T6.setTop (mkF m 5 #[.val (.ref aa), .val (.int (2 : Int32)), .val (.ref bb), .val (.int (2 : Int32)), .val (.int (2 : Int32)), .val (.int (2 : Int32)), .val (.int cb)] [(.int (2 : Int32))]))
  refine Go.st (fun _ k' => XS.iload X6.here hx rfl (hb hby d5_5) rfl k') ?_
  show Go p e below s _ _ _ (T6.setTop (mkF m 7 #[.val (.ref aa), .val (.int (2 : Int32)), .val (.ref bb), .val (.int (2 : Int32)), .val (.int (2 : Int32)), .val (.int (2 : Int32)), .val (.int cb)] [(.int (2 : Int32)), (.int (2 : Int32))]))
  refine Go.st (fun _ k' => XS.icmpYes X6.here hx rfl (pc0 := 7) (pc' := 44) rfl (hb hby d5_7) rfl (XT.ii_ge_t (by decide)) (by decide) (by decide) k') ?_
  show Go p e below s _ _ _ (T6.setTop (mkF m 44 #[.val (.ref aa), .val (.int (2 : Int32)), .val (.ref bb), .val (.int (2 : Int32)), .val (.int (2 : Int32)), .val (.int (2 : Int32)), .val (.int cb)] []))
  refine Go.st (fun _ k' => XS.iload X6.here hx rfl (hb hby d5_44) rfl k') ?_
  show Go p e below s _ _ _ (T6.setTop (mkF m 46 #[.val (.ref aa), .val (.int (2 : Int32)), .val (.ref bb), .val (.int (2 : Int32)), .val (.int (2 : Int32)), .val (.int (2 : Int32)), .val (.int cb)] [(.int (2 : Int32))]))
  refine Go.ret X6 hx hlk (t := .int) Bd.returns rfl (Or.inl ⟨rfl, Or.inl rfl, _, rfl⟩) (hb hby d5_46) (by decide) (by decide) e6 ?_
  exact ⟨rfl, N6, K6, f7⟩
theorem ef_rm4_2 (m : MethodId) (aa : Addr) : entryFrame m #[(.ref aa), (.int (0 : Int32)), (.int (2 : Int32))] 6 = mkF m 0 #[.val (.ref aa), .val (.int (0 : Int32)), .val (.int (2 : Int32)), .unset, .unset, .unset] [] := by first | (simp [entryFrame, mkF, argsToLocals, Value.category]; done) | rfl
def Q4_2 (Z : State) (aa : Addr) (ka : ClassId) (ca : Int32) (cb : Int32) (h0 : Heap) (n0 : Nat) (v : Option Value) (h : Heap) (L : List Loc) : Prop := ∃ (rr : Addr) (kr : ClassId), v = some (.ref rr) ∧ Fr n0 L ∧ Keep h0 h [] ∧ Arv Z h rr kr .byte (2 : Int32) [(.int (nar .byte (ca.toInt8.toInt32))), (.int (nar .byte (cb.toInt8.toInt32)))] (.int (0 : Int32)) ∧ h0.size ≤ rr
set_option maxRecDepth 65536 in
set_option maxHeartbeats 40000000 in
theorem rm4_2 (l : Launch) (Z : State) (a0 : Array Value) (hw : ∀ d ∈ tables_1, d.before a0 Z = true) (ws : List Jvm.Cond) (aa : Addr) (ka : ClassId) (ca : Int32) (cb : Int32) (h0 : Heap) (n0 : Nat) (O0 : Old Z n0 h0) (Va : Arv Z h0 aa ka .char (2 : Int32) [(.int ca), (.int cb)] (.int (0 : Int32))) (q_ca : ¬ (255 : Int32) < ca) (q_cb : ¬ (255 : Int32) < cb) :
    MetFree l (⟨"java/lang/StringUTF16", "compress", "([CII)[B"⟩ : MethodName) (head1 (Jvm.Cond.code (⟨"java/lang/StringUTF16", "compress", "([CII)[B"⟩ : MethodName) jdk_52_method_16_code 6 (some (.array .byte)) :: ws) ({ frames := 1, cells := 1, slots := 2, locals := 18 } : Room)) (fun ay U => ay = #[(.ref aa), (.int (0 : Int32)), (.int (2 : Int32))] ∧ Z.Warmed39 U.vm ∧ U.heap = h0) (fun _ _ _ _ _ => True) (fun _ U o U' => ∃ v L, o = .returned v ∧ Q4_2 Z aa ka ca cb h0 n0 v U'.heap L ∧ FrameEnd U o U' L ({ frames := 1, cells := 1, slots := 2, locals := 18 } : Room).cells ({ frames := 1, cells := 1, slots := 2, locals := 18 } : Room).slots) := by
  refine MetFree.of_bodySF (plainFor_of_name pn_java_lang_StringUTF16) hisR ?_
  intro p e s m args below meth c s₁ Bd hml0 hP hK
  obtain ⟨rfl, hZ, hh⟩ := hP
  have hx := Bd.exec
  have hby := Bd.bytes
  have hlk : meth.locks = false := BodyLoose.notSynchronized Bd
  have hml : c.maxLocals = 6 := hml0
  have hown : s.vm.findClass "java/lang/StringUTF16" = some m.cls := findClass_of_methodNamed Bd.named
  have hnm := (name_of_methodNamed Bd.named Bd.method).1
  have X0 : Stand p l e ({ frames := 1, cells := 1, slots := 2, locals := 18 } : Room) s m #[(.ref aa), (.int (0 : Int32)), (.int (2 : Int32))] below meth c s₁ [] 0 0 := Stand.of_body Bd
  have e0 : s₁.heap = h0 := by rw [← hh, Bd.state]; rfl
  have N0 := Fr.nil n0
  suffices hgo : Go p e below s 1 2 (Q4_2 Z aa ka ca cb h0 n0) (s₁.setTop (mkF m 0 #[.val (.ref aa), .val (.int (0 : Int32)), .val (.int (2 : Int32)), .unset, .unset, .unset] [])) by
    obtain ⟨t, o, h1, h2⟩ := hgo; exact ⟨t, o, castTop (ef_rm4_2 m aa) h1, h2⟩
  show Go p e below s _ _ _ (s₁.setTop (mkF m 0 #[.val (.ref aa), .val (.int (0 : Int32)), .val (.int (2 : Int32)), .unset, .unset, .unset] []))
  refine Go.st (fun _ k' => XS.iloadN X0.here hx rfl (hb hby d4_0) rfl k') ?_
  show Go p e below s _ _ _ (s₁.setTop (mkF m 1 #[.val (.ref aa), .val (.int (0 : Int32)), .val (.int (2 : Int32)), .unset, .unset, .unset] [(.int (2 : Int32))]))
  obtain ⟨T1, h1, k1, X1, e1, E1, A1, st1⟩ := newP X0 hx hZ (wdx hw 19 rfl) e0 (g := (mkF m 1 #[.val (.ref aa), .val (.int (0 : Int32)), .val (.int (2 : Int32)), .unset, .unset, .unset] [(.int (2 : Int32))])) rfl (hb hby d4_1) rfl (by decide) (cap := 2) (by decide) (by decide) (by decide) (by decide)
  obtain ⟨b1, g1⟩ : ∃ z, z = h0.size := ⟨_, rfl⟩
  rw [← g1] at A1 st1
  refine Go.st st1 ?_
  have g_b1 : n0 ≤ b1 := Nat.le_trans (own_le O0) (Nat.le_of_eq g1.symm)
  have z_b1 : h0.size ≤ b1 := Nat.le_of_eq g1.symm
  have ne2 : aa ≠ b1 := Nat.ne_of_lt (Nat.lt_of_lt_of_le Va.lt (Nat.le_of_eq g1.symm))
  have f3 : Arv Z h1 aa ka .char (2 : Int32) [(.int ca), (.int cb)] (.int (0 : Int32)) := Va.ext E1
  have O1 : Old Z n0 h1 := O0.ext E1
  have K1 : Keep h0 h1 [] := (Keep.refl h0 []).ext E1
  have f4 : Arv Z h1 b1 k1 .byte (2 : Int32) [(.int (0 : Int32)), (.int (0 : Int32))] (.int (0 : Int32)) := (Arv.new A1 (by decide)).pad (pad_rep [] (.int (0 : Int32)) 2)
  show Go p e below s _ _ _ (T1.setTop (mkF m 3 #[.val (.ref aa), .val (.int (0 : Int32)), .val (.int (2 : Int32)), .unset, .unset, .unset] [(.ref b1)]))
  refine Go.st (fun _ k' => XS.astoreN X1.here hx rfl (hb hby d4_3) rfl rfl (l' := #[.val (.ref aa), .val (.int (0 : Int32)), .val (.int (2 : Int32)), .val (.ref b1), .unset, .unset]) rfl k') ?_
  show Go p e below s _ _ _ (T1.setTop (mkF m 4 #[.val (.ref aa), .val (.int (0 : Int32)), .val (.int (2 : Int32)), .val (.ref b1), .unset, .unset] []))
  refine Go.st (fun _ k' => XS.aloadN X1.here hx rfl (hb hby d4_4) rfl rfl k') ?_
  show Go p e below s _ _ _ (T1.setTop (mkF m 5 #[.val (.ref aa), .val (.int (0 : Int32)), .val (.int (2 : Int32)), .val (.ref b1), .unset, .unset] [(.ref aa)]))
  refine Go.st (fun _ k' => XS.iloadN X1.here hx rfl (hb hby d4_5) rfl k') ?_
  show Go p e below s _ _ _ (T1.setTop (mkF m 6 #[.val (.ref aa), .val (.int (0 : Int32)), .val (.int (2 : Int32)), .val (.ref b1), .unset, .unset] [(.int (0 : Int32)), (.ref aa)]))
  refine Go.st (fun _ k' => XS.aloadN X1.here hx rfl (hb hby d4_6) rfl rfl k') ?_
  show Go p e below s _ _ _ (T1.setTop (mkF m 7 #[.val (.ref aa), .val (.int (0 : Int32)), .val (.int (2 : Int32)), .val (.ref b1), .unset, .unset] [(.ref b1), (.int (0 : Int32)), (.ref aa)]))
  refine Go.st (fun _ k' => XS.iconst X1.here hx rfl (hb hby d4_7) k') ?_
  show Go p e below s _ _ _ (T1.setTop (mkF m 8 #[.val (.ref aa), .val (.int (0 : Int32)), .val (.int (2 : Int32)), .val (.ref b1), .unset, .unset] [(.int (0 : Int32)), (.ref b1), (.int (0 : Int32)), (.ref aa)]))
  refine Go.st (fun _ k' => XS.iloadN X1.here hx rfl (hb hby d4_8) rfl k') ?_
  show Go p e below s _ _ _ (T1.setTop (mkF m 9 #[.val (.ref aa), .val (.int (0 : Int32)), .val (.int (2 : Int32)), .val (.ref b1), .unset, .unset] [(.int (2 : Int32)), (.int (0 : Int32)), (.ref b1), (.int (0 : Int32)), (.ref aa)]))
  obtain ⟨_, _, ⟨T5, L5, k5, n5⟩, -, X5, ⟨Lc5, hQ5, l5, y5, z5⟩, st5⟩ := Jvm.LawKit.callS X1 hx (y := (⟨"java/lang/StringUTF16", "compress", "([CI[BII)I"⟩ : MethodName)) hown (mvT hZ (wdx hw 20 rfl)) (mvT hZ (wdx hw 21 rfl)) (mvT hZ (wdx hw 17 rfl)) (mvT hZ (wdx hw 22 rfl)) (by decide) (backOf (W := 0) (rm5_2 l Z a0 hw [] aa b1 ka k1 ca cb h1 n0 O1 f3 f4 q_ca q_cb g_b1 ne2) hZ (wdx hw 22 rfl) (wdx hw 17 rfl) (by decide) (by decide)) (g := (mkF m 9 #[.val (.ref aa), .val (.int (0 : Int32)), .val (.int (2 : Int32)), .val (.ref b1), .unset, .unset] [(.int (2 : Int32)), (.int (0 : Int32)), (.ref b1), (.int (0 : Int32)), (.ref aa)])) rfl (by rw [hml]; rfl) (argsL := [(.ref aa), (.int (0 : Int32)), (.ref b1), (.int (0 : Int32)), (.int (2 : Int32))]) (rest := []) (lenOf pd___CI_BII_I rfl) rfl (by show 2 * 0 + _ ≤ _; exact Nat.le_of_eq rfl) (hb hby d4_9) (fun _ _ => ⟨rfl, e1, (by exact Nat.le_of_ble_eq_true rfl), (by exact Nat.le_of_ble_eq_true rfl)⟩)
  dsimp only [Pt.U, Pt.locs, Pt.cells, Pt.slots] at X5 l5 y5 z5 st5 hQ5
  subst l5 y5 z5
  obtain ⟨rfl, Nq5, Kq5, f6⟩ := hQ5
  have N5 := Fr.app N0 Nq5
  refine Go.st st5 ?_
  have f7 : Arv Z T5.heap aa ka .char (2 : Int32) [(.int ca), (.int cb)] (.int (0 : Int32)) := f3.keep Kq5 (ninS ne2 nin0)
  have O5 : Old Z n0 T5.heap := O1.keep Kq5 (allS g_b1 all0)
  have K5 : Keep h0 T5.heap [] := K1.trans Kq5 (allS (Or.inr z_b1) all0)
  show Go p e below s _ _ _ (T5.setTop (mkF m 12 #[.val (.ref aa), .val (.int (0 : Int32)), .val (.int (2 : Int32)), .val (.ref b1), .unset, .unset] [(.int (2 : Int32))]))
  refine Go.st (fun _ k' => XS.istore X5.here hx rfl (hb hby d4_12) rfl (l' := #[.val (.ref aa), .val (.int (0 : Int32)), .val (.int (2 : Int32)), .val (.ref b1), .val (.int (2 : Int32)), .unset]) rfl k') ?_
  show Go p e below s _ _ _ (T5.setTop (mkF m 14 #[.val (.ref aa), .val (.int (0 : Int32)), .val (.int (2 : Int32)), .val (.ref b1), .val (.int (2 : Int32)), .unset] []))
  refine Go.st (fun _ k' => XS.iload X5.here hx rfl (hb hby d4_14) rfl k') ?_
  show Go p e below s _ _ _ (T5.setTop (mkF m 16 #[.val (.ref aa), .val (.int (0 : Int32)), .val (.int (2 : Int32)), .val (.ref b1), .val (.int (2 : Int32)), .unset] [(.int (2 : Int32))]))
  refine Go.st (fun _ k' => XS.iloadN X5.here hx rfl (hb hby d4_16) rfl k') ?_
  show Go p e below s _ _ _ (T5.setTop (mkF m 17 #[.val (.ref aa), .val (.int (0 : Int32)), .val (.int (2 : Int32)), .val (.ref b1), .val (.int (2 : Int32)), .unset] [(.int (2 : Int32)), (.int (2 : Int32))]))
  refine Go.st (fun _ k' => XS.icmpYes X5.here hx rfl (pc0 := 17) (pc' := 57) rfl (hb hby d4_17) rfl (XT.ii_eq_t (by decide)) (by decide) (by decide) k') ?_
  show Go p e below s _ _ _ (T5.setTop (mkF m 57 #[.val (.ref aa), .val (.int (0 : Int32)), .val (.int (2 : Int32)), .val (.ref b1), .val (.int (2 : Int32)), .unset] []))
  refine Go.st (fun _ k' => XS.aloadN X5.here hx rfl (hb hby d4_57) rfl rfl k') ?_
  show Go p e below s _ _ _ (T5.setTop (mkF m 58 #[.val (.ref aa), .val (.int (0 : Int32)), .val (.int (2 : Int32)), .val (.ref b1), .val (.int (2 : Int32)), .unset] [(.ref b1)]))
  refine Go.ret X5 hx hlk (t := (.array .byte)) Bd.returns rfl (Or.inr (Or.inr (Or.inr (Or.inr ⟨rfl, rfl, rfl⟩)))) (hb hby d4_58) (by decide) (by decide) rfl ?_
  exact ⟨b1, k1, rfl, N5, K5, f6, z_b1⟩
theorem ef_rm6_2 (m : MethodId) (bb : Addr) : entryFrame m #[(.ref bb), (.int (2 : Int32))] 2 = mkF m 0 #[.val (.ref bb), .val (.int (2 : Int32))] [] := by first | (simp [entryFrame, mkF, argsToLocals, Value.category]; done) | rfl
def Q6_2 (Z : State) (bb : Addr) (kb : ClassId) (ca : Int32) (cb : Int32) (h0 : Heap) (n0 : Nat) (v : Option Value) (h : Heap) (L : List Loc) : Prop := v = some (.int (0 : Int32)) ∧ Fr n0 L ∧ h = h0
set_option maxRecDepth 65536 in
set_option maxHeartbeats 40000000 in
theorem rm6_2 (l : Launch) (Z : State) (a0 : Array Value) (hw : ∀ d ∈ tables_1, d.before a0 Z = true) (ws : List Jvm.Cond) (bb : Addr) (kb : ClassId) (ca : Int32) (cb : Int32) (h0 : Heap) (n0 : Nat) (O0 : Old Z n0 h0) (Vb : Arv Z h0 bb kb .byte (2 : Int32) [(.int ca), (.int cb)] (.int (0 : Int32))) :
    MetFree l (⟨"java/lang/StringUTF16", "coderFromArrayLen", "([BI)B"⟩ : MethodName) (head1 (Jvm.Cond.code (⟨"java/lang/StringUTF16", "coderFromArrayLen", "([BI)B"⟩ : MethodName) jdk_52_method_15_code 2 (some .byte) :: ws) ({ frames := 0, cells := 0, slots := 0, locals := 0 } : Room)) (fun ay U => ay = #[(.ref bb), (.int (2 : Int32))] ∧ Z.Warmed39 U.vm ∧ U.heap = h0) (fun _ _ _ _ _ => True) (fun _ U o U' => ∃ v L, o = .returned v ∧ Q6_2 Z bb kb ca cb h0 n0 v U'.heap L ∧ FrameEnd U o U' L ({ frames := 0, cells := 0, slots := 0, locals := 0 } : Room).cells ({ frames := 0, cells := 0, slots := 0, locals := 0 } : Room).slots) := by
  refine MetFree.of_bodySF (plainFor_of_name pn_java_lang_StringUTF16) hisR ?_
  intro p e s m args below meth c s₁ Bd hml0 hP hK
  obtain ⟨rfl, hZ, hh⟩ := hP
  have hx := Bd.exec
  have hby := Bd.bytes
  have hlk : meth.locks = false := BodyLoose.notSynchronized Bd
  have hml : c.maxLocals = 2 := hml0
  have hown : s.vm.findClass "java/lang/StringUTF16" = some m.cls := findClass_of_methodNamed Bd.named
  have hnm := (name_of_methodNamed Bd.named Bd.method).1
  have X0 : Stand p l e ({ frames := 0, cells := 0, slots := 0, locals := 0 } : Room) s m #[(.ref bb), (.int (2 : Int32))] below meth c s₁ [] 0 0 := Stand.of_body Bd
  have e0 : s₁.heap = h0 := by rw [← hh, Bd.state]; rfl
  have N0 := Fr.nil n0
  suffices hgo : Go p e below s 0 0 (Q6_2 Z bb kb ca cb h0 n0) (s₁.setTop (mkF m 0 #[.val (.ref bb), .val (.int (2 : Int32))] [])) by
    obtain ⟨t, o, h1, h2⟩ := hgo; exact ⟨t, o, castTop (ef_rm6_2 m bb) h1, h2⟩
  show Go p e below s _ _ _ (s₁.setTop (mkF m 0 #[.val (.ref bb), .val (.int (2 : Int32))] []))
  refine Go.st (fun _ k' => XS.iloadN X0.here hx rfl (hb hby d6_0) rfl k') ?_
  show Go p e below s _ _ _ (s₁.setTop (mkF m 1 #[.val (.ref bb), .val (.int (2 : Int32))] [(.int (2 : Int32))]))
  refine Go.st (fun _ k' => XS.aloadN X0.here hx rfl (hb hby d6_1) rfl rfl k') ?_
  show Go p e below s _ _ _ (s₁.setTop (mkF m 2 #[.val (.ref bb), .val (.int (2 : Int32))] [(.ref bb), (.int (2 : Int32))]))
  obtain ⟨cl1, Ar1, qc1, Sz1, Nn1, Ha1, Gf1⟩ := id Vb
  refine Go.st (fun _ k' => X0.arraylength hx (by rw [e0]; exact Ar1.1) (State.isArrayOf_alike hZ.alike Ar1.2.1) (g := (mkF m 2 #[.val (.ref bb), .val (.int (2 : Int32))] [(.ref bb), (.int (2 : Int32))])) rfl rfl (hb hby d6_2) _ k') ?_
  rw [len_of Sz1 Nn1]
  show Go p e below s _ _ _ (s₁.setTop (mkF m 3 #[.val (.ref bb), .val (.int (2 : Int32))] [(.int (2 : Int32)), (.int (2 : Int32))]))
  refine Go.st (fun _ k' => XS.isub X0.here hx rfl (hb hby d6_3) rfl k') ?_
  show Go p e below s _ _ _ (s₁.setTop (mkF m 4 #[.val (.ref bb), .val (.int (2 : Int32))] [(.int (0 : Int32))]))
  refine Go.st (fun _ k' => XS.bipush X0.here hx rfl (hb hby d6_4) k') ?_
  show Go p e below s _ _ _ (s₁.setTop (mkF m 6 #[.val (.ref bb), .val (.int (2 : Int32))] [(.int (31 : Int32)), (.int (0 : Int32))]))
  refine Go.st (fun _ k' => XS.iushr X0.here hx rfl (hb hby d6_6) rfl k') ?_
  show Go p e below s _ _ _ (s₁.setTop (mkF m 7 #[.val (.ref bb), .val (.int (2 : Int32))] [(.int (((0 : Int32).toUInt32 >>> ((31 : Int32) &&& 31).toUInt32).toInt32))]))
  refine Go.st (fun _ k' => XS.i2b X0.here hx rfl (hb hby d6_7) rfl k') ?_
  show Go p e below s _ _ _ (s₁.setTop (mkF m 8 #[.val (.ref bb), .val (.int (2 : Int32))] [(.int ((((0 : Int32).toUInt32 >>> ((31 : Int32) &&& 31).toUInt32).toInt32).toInt8.toInt32))]))
  refine Go.retB X0 hx hlk (t := .byte) Bd.returns (by simp) (hb hby d6_8) (by decide) (by decide) e0 ?_
  exact ⟨rfl, N0, rfl⟩
theorem ef_rm2_2 (m : MethodId) (ob : Addr) (aa : Addr) : entryFrame m #[(.ref ob), (.ref aa), (.int (0 : Int32)), (.int (2 : Int32)), .null] 6 = mkF m 0 #[.val (.ref ob), .val (.ref aa), .val (.int (0 : Int32)), .val (.int (2 : Int32)), .val .null, .unset] [] := by first | (simp [entryFrame, mkF, argsToLocals, Value.category]; done) | rfl
def Q2_2 (Z : State) (ob : Addr) (aa : Addr) (ka : ClassId) (cs : Int32) (ca : Int32) (cb : Int32) (h0 : Heap) (n0 : Nat) (v : Option Value) (h : Heap) (L : List Loc) : Prop := v = none ∧ Fr n0 L ∧ Keep h0 h [ob]
set_option maxRecDepth 65536 in
set_option maxHeartbeats 40000000 in
theorem rm2_2 (l : Launch) (Z : State) (a0 : Array Value) (hw : ∀ d ∈ tables_1, d.before a0 Z = true) (ws : List Jvm.Cond) (ob : Addr) (aa : Addr) (ka : ClassId) (cs : Int32) (ca : Int32) (cb : Int32) (h0 : Heap) (n0 : Nat) (O0 : Old Z n0 h0) (E_o : Exa Z h0 ob "java/lang/String") (Fv : Fld Z h0 ob "java/lang/String" "value" "[B" .null) (Fc : Fld Z h0 ob "java/lang/String" "coder" "B" (.int (0 : Int32))) (Va : Arv Z h0 aa ka .char (2 : Int32) [(.int ca), (.int cb)] (.int (0 : Int32))) (S_cs : Sta Z Z.heap "java/lang/String" "COMPACT_STRINGS" "Z" (.int cs)) (q_cs : ¬ cs = (0 : Int32)) (q_ca : ¬ (255 : Int32) < ca) (q_cb : ¬ (255 : Int32) < cb) (g_o : n0 ≤ ob) (ne_oa : ob ≠ aa) :
    MetFree l (⟨"java/lang/String", "<init>", "([CIILjava/lang/Void;)V"⟩ : MethodName) (head1 (Jvm.Cond.code (⟨"java/lang/String", "<init>", "([CIILjava/lang/Void;)V"⟩ : MethodName) jdk_42_method_149_code 6 none :: ws) ({ frames := 2, cells := 1, slots := 2, locals := 35 } : Room)) (fun ay U => ay = #[(.ref ob), (.ref aa), (.int (0 : Int32)), (.int (2 : Int32)), .null] ∧ Z.Warmed39 U.vm ∧ U.heap = h0) (fun _ _ _ _ _ => True) (fun _ U o U' => ∃ v L, o = .returned v ∧ Q2_2 Z ob aa ka cs ca cb h0 n0 v U'.heap L ∧ FrameEnd U o U' L ({ frames := 2, cells := 1, slots := 2, locals := 35 } : Room).cells ({ frames := 2, cells := 1, slots := 2, locals := 35 } : Room).slots) := by
  refine MetFree.of_bodySF (plainFor_of_name pn_java_lang_String) hisR ?_
  intro p e s m args below meth c s₁ Bd hml0 hP hK
  obtain ⟨rfl, hZ, hh⟩ := hP
  have hx := Bd.exec
  have hby := Bd.bytes
  have hlk : meth.locks = false := BodyLoose.notSynchronized Bd
  have hml : c.maxLocals = 6 := hml0
  have hown : s.vm.findClass "java/lang/String" = some m.cls := findClass_of_methodNamed Bd.named
  have hnm := (name_of_methodNamed Bd.named Bd.method).1
  have X0 : Stand p l e ({ frames := 2, cells := 1, slots := 2, locals := 35 } : Room) s m #[(.ref ob), (.ref aa), (.int (0 : Int32)), (.int (2 : Int32)), .null] below meth c s₁ [] 0 0 := Stand.of_body Bd
  have e0 : s₁.heap = h0 := by rw [← hh, Bd.state]; rfl
  have N0 := Fr.nil n0
  suffices hgo : Go p e below s 1 2 (Q2_2 Z ob aa ka cs ca cb h0 n0) (s₁.setTop (mkF m 0 #[.val (.ref ob), .val (.ref aa), .val (.int (0 : Int32)), .val (.int (2 : Int32)), .val .null, .unset] [])) by
    obtain ⟨t, o, h1, h2⟩ := hgo; exact ⟨t, o, castTop (ef_rm2_2 m ob aa) h1, h2⟩
  show Go p e below s _ _ _ (s₁.setTop (mkF m 0 #[.val (.ref ob), .val (.ref aa), .val (.int (0 : Int32)), .val (.int (2 : Int32)), .val .null, .unset] []))
  refine Go.st (fun _ k' => XS.aloadN X0.here hx rfl (hb hby d2_0) rfl rfl k') ?_
  show Go p e below s _ _ _ (s₁.setTop (mkF m 1 #[.val (.ref ob), .val (.ref aa), .val (.int (0 : Int32)), .val (.int (2 : Int32)), .val .null, .unset] [(.ref ob)]))
  obtain ⟨T1, X1, e1, st1⟩ := initO X0 hx hZ hown (wdx hw 11 rfl) (wdx hw 12 rfl) (wdx hw 13 rfl) e0 (g := (mkF m 1 #[.val (.ref ob), .val (.ref aa), .val (.int (0 : Int32)), .val (.int (2 : Int32)), .val .null, .unset] [(.ref ob)])) rfl (by rw [hml]; rfl) rfl (hb hby d2_1) (by decide) (W := 0) (by show 2 * 0 + _ ≤ _; exact Nat.le_of_eq rfl) (by decide)
  refine Go.st st1 ?_
  show Go p e below s _ _ _ (T1.setTop (mkF m 4 #[.val (.ref ob), .val (.ref aa), .val (.int (0 : Int32)), .val (.int (2 : Int32)), .val .null, .unset] []))
  refine Go.st (fun _ k' => XS.iloadN X1.here hx rfl (hb hby d2_4) rfl k') ?_
  show Go p e below s _ _ _ (T1.setTop (mkF m 5 #[.val (.ref ob), .val (.ref aa), .val (.int (0 : Int32)), .val (.int (2 : Int32)), .val .null, .unset] [(.int (2 : Int32))]))
  refine Go.st (fun _ k' => XS.ifYes X1.here hx rfl (pc0 := 5) (pc' := 27) rfl (hb hby d2_5) rfl (XT.i0_ne_t (by decide)) (by decide) (by decide) k') ?_
  show Go p e below s _ _ _ (T1.setTop (mkF m 27 #[.val (.ref ob), .val (.ref aa), .val (.int (0 : Int32)), .val (.int (2 : Int32)), .val .null, .unset] []))
  obtain ⟨T2, X2, e2, st2⟩ := getS2 X1 hx hZ hown (host := "") (Or.inl (wdx hw 14 rfl)) Via.refl e1 (S_cs.ext O0.2) (g := (mkF m 27 #[.val (.ref ob), .val (.ref aa), .val (.int (0 : Int32)), .val (.int (2 : Int32)), .val .null, .unset] [])) rfl (hb hby d2_27)
  refine Go.st st2 ?_
  show Go p e below s _ _ _ (T2.setTop (mkF m 30 #[.val (.ref ob), .val (.ref aa), .val (.int (0 : Int32)), .val (.int (2 : Int32)), .val .null, .unset] [(.int cs)]))
  refine Go.st (fun _ k' => XS.ifNo X2.here hx rfl (hb hby d2_30) rfl (XT.i0_eq_f q_cs) k') ?_
  show Go p e below s _ _ _ (T2.setTop (mkF m 33 #[.val (.ref ob), .val (.ref aa), .val (.int (0 : Int32)), .val (.int (2 : Int32)), .val .null, .unset] []))
  refine Go.st (fun _ k' => XS.aloadN X2.here hx rfl (hb hby d2_33) rfl rfl k') ?_
  show Go p e below s _ _ _ (T2.setTop (mkF m 34 #[.val (.ref ob), .val (.ref aa), .val (.int (0 : Int32)), .val (.int (2 : Int32)), .val .null, .unset] [(.ref aa)]))
  refine Go.st (fun _ k' => XS.iloadN X2.here hx rfl (hb hby d2_34) rfl k') ?_
  show Go p e below s _ _ _ (T2.setTop (mkF m 35 #[.val (.ref ob), .val (.ref aa), .val (.int (0 : Int32)), .val (.int (2 : Int32)), .val .null, .unset] [(.int (0 : Int32)), (.ref aa)]))
  refine Go.st (fun _ k' => XS.iloadN X2.here hx rfl (hb hby d2_35) rfl k') ?_
  show Go p e below s _ _ _ (T2.setTop (mkF m 36 #[.val (.ref ob), .val (.ref aa), .val (.int (0 : Int32)), .val (.int (2 : Int32)), .val .null, .unset] [(.int (2 : Int32)), (.int (0 : Int32)), (.ref aa)]))
  obtain ⟨_, _, ⟨T3, L3, k3, n3⟩, -, X3, ⟨Lc3, hQ3, l3, y3, z3⟩, st3⟩ := Jvm.LawKit.callS X2 hx (y := (⟨"java/lang/StringUTF16", "compress", "([CII)[B"⟩ : MethodName)) hown (mvT hZ (wdx hw 15 rfl)) (mvT hZ (wdx hw 16 rfl)) (mvT hZ (wdx hw 17 rfl)) (mvT hZ (wdx hw 18 rfl)) (by decide) (backOf (W := 0) (rm4_2 l Z a0 hw [] aa ka ca cb h0 n0 O0 Va q_ca q_cb) hZ (wdx hw 18 rfl) (wdx hw 17 rfl) (by decide) (by decide)) (g := (mkF m 36 #[.val (.ref ob), .val (.ref aa), .val (.int (0 : Int32)), .val (.int (2 : Int32)), .val .null, .unset] [(.int (2 : Int32)), (.int (0 : Int32)), (.ref aa)])) rfl (by rw [hml]; rfl) (argsL := [(.ref aa), (.int (0 : Int32)), (.int (2 : Int32))]) (rest := []) (lenOf pd___CII__B rfl) rfl (by show 2 * 0 + _ ≤ _; exact Nat.le_of_eq rfl) (hb hby d2_36) (fun _ _ => ⟨rfl, e2, (by exact Nat.le_of_ble_eq_true rfl), (by exact Nat.le_of_ble_eq_true rfl)⟩)
  dsimp only [Pt.U, Pt.locs, Pt.cells, Pt.slots] at X3 l3 y3 z3 st3 hQ3
  subst l3 y3 z3
  obtain ⟨rr_3, kr_3, rfl, Nq3, Kq3, f4, szr_3⟩ := hQ3
  have N3 := Fr.app N0 Nq3
  refine Go.st st3 ?_
  have f5 : Exa Z T3.heap ob "java/lang/String" := E_o.keep Kq3
  have f6 : Fld Z T3.heap ob "java/lang/String" "value" "[B" .null := Fv.keep Kq3 nin0
  have f7 : Fld Z T3.heap ob "java/lang/String" "coder" "B" (.int (0 : Int32)) := Fc.keep Kq3 nin0
  have f8 : Arv Z T3.heap aa ka .char (2 : Int32) [(.int ca), (.int cb)] (.int (0 : Int32)) := Va.keep Kq3 nin0
  have O3 : Old Z n0 T3.heap := O0.keep Kq3 all0
  have K3 : Keep h0 T3.heap [ob] := (Keep.refl h0 [ob]).trans Kq3 all0
  have g_rr_3 : n0 ≤ rr_3 := Nat.le_trans (own_le O0) szr_3
  have z_rr_3 : h0.size ≤ rr_3 := szr_3
  have ne9 : ob ≠ rr_3 := Nat.ne_of_lt (Nat.lt_of_lt_of_le E_o.lt szr_3)
  have ne10 : aa ≠ rr_3 := Nat.ne_of_lt (Nat.lt_of_lt_of_le Va.lt szr_3)
  show Go p e below s _ _ _ (T3.setTop (mkF m 39 #[.val (.ref ob), .val (.ref aa), .val (.int (0 : Int32)), .val (.int (2 : Int32)), .val .null, .unset] [(.ref rr_3)]))
  refine Go.st (fun _ k' => XS.astore X3.here hx rfl (hb hby d2_39) rfl rfl (l' := #[.val (.ref ob), .val (.ref aa), .val (.int (0 : Int32)), .val (.int (2 : Int32)), .val .null, .val (.ref rr_3)]) rfl k') ?_
  show Go p e below s _ _ _ (T3.setTop (mkF m 41 #[.val (.ref ob), .val (.ref aa), .val (.int (0 : Int32)), .val (.int (2 : Int32)), .val .null, .val (.ref rr_3)] []))
  refine Go.st (fun _ k' => XS.aloadN X3.here hx rfl (hb hby d2_41) rfl rfl k') ?_
  show Go p e below s _ _ _ (T3.setTop (mkF m 42 #[.val (.ref ob), .val (.ref aa), .val (.int (0 : Int32)), .val (.int (2 : Int32)), .val .null, .val (.ref rr_3)] [(.ref ob)]))
  refine Go.st (fun _ k' => XS.aload X3.here hx rfl (hb hby d2_42) rfl rfl k') ?_
  show Go p e below s _ _ _ (T3.setTop (mkF m 44 #[.val (.ref ob), .val (.ref aa), .val (.int (0 : Int32)), .val (.int (2 : Int32)), .val .null, .val (.ref rr_3)] [(.ref rr_3), (.ref ob)]))
  refine Go.st (fun _ k' => XS.iloadN X3.here hx rfl (hb hby d2_44) rfl k') ?_
  show Go p e below s _ _ _ (T3.setTop (mkF m 45 #[.val (.ref ob), .val (.ref aa), .val (.int (0 : Int32)), .val (.int (2 : Int32)), .val .null, .val (.ref rr_3)] [(.int (2 : Int32)), (.ref rr_3), (.ref ob)]))
  obtain ⟨_, _, ⟨T11, L11, k11, n11⟩, -, X11, ⟨Lc11, hQ11, l11, y11, z11⟩, st11⟩ := Jvm.LawKit.callS X3 hx (y := (⟨"java/lang/StringUTF16", "coderFromArrayLen", "([BI)B"⟩ : MethodName)) hown (mvT hZ (wdx hw 23 rfl)) (mvT hZ (wdx hw 24 rfl)) (mvT hZ (wdx hw 17 rfl)) (mvT hZ (wdx hw 25 rfl)) (by decide) (backOf (W := 1) (rm6_2 l Z a0 hw [] rr_3 kr_3 (nar .byte (ca.toInt8.toInt32)) (nar .byte (cb.toInt8.toInt32)) T3.heap n0 O3 f4) hZ (wdx hw 25 rfl) (wdx hw 17 rfl) (by decide) (by decide)) (g := (mkF m 45 #[.val (.ref ob), .val (.ref aa), .val (.int (0 : Int32)), .val (.int (2 : Int32)), .val .null, .val (.ref rr_3)] [(.int (2 : Int32)), (.ref rr_3), (.ref ob)])) rfl (by rw [hml]; rfl) (argsL := [(.ref rr_3), (.int (2 : Int32))]) (rest := [(.ref ob)]) (lenOf pd___BI_B rfl) rfl (by show 2 * 0 + _ ≤ _; exact Nat.le_of_eq rfl) (hb hby d2_45) (fun _ _ => ⟨rfl, rfl, (by exact Nat.le_of_ble_eq_true rfl), (by exact Nat.le_of_ble_eq_true rfl)⟩)
  dsimp only [Pt.U, Pt.locs, Pt.cells, Pt.slots] at X11 l11 y11 z11 st11 hQ11
  subst l11 y11 z11
  obtain ⟨rfl, Nq11, eq11⟩ := hQ11
  have N11 := Fr.app N3 Nq11
  refine Go.st st11 ?_
  show Go p e below s _ _ _ (T11.setTop (mkF m 48 #[.val (.ref ob), .val (.ref aa), .val (.int (0 : Int32)), .val (.int (2 : Int32)), .val .null, .val (.ref rr_3)] [(.int (0 : Int32)), (.ref ob)]))
  obtain ⟨T12, h12, X12, e12, W12, st12⟩ := putFN X11 hx hZ hown (wdx hw 26 rfl) Via.refl eq11 f7 f5 (Or.inr ⟨(wdx hw 27 rfl), rfl, hnm⟩) (wdx hw 1 rfl) (ty := .byte) (v' := (.int (0 : Int32))) (by decide) rfl rfl (g := (mkF m 48 #[.val (.ref ob), .val (.ref aa), .val (.int (0 : Int32)), .val (.int (2 : Int32)), .val .null, .val (.ref rr_3)] [(.int (0 : Int32)), (.ref ob)])) rfl rfl (hb hby d2_48)
  refine Go.st st12 ?_
  have f13 : Exa Z h12 ob "java/lang/String" := f5.wr W12
  have f14 : Fld Z h12 ob "java/lang/String" "value" "[B" .null := f6.other W12 (Or.inr (slot_ne (Or.inr (wdx hw 29 rfl)) (Or.inr (wdx hw 27 rfl)) (by decide) (t := (.array .byte)) (t' := .byte) (by decide) (by decide)))
  have f15 : Fld Z h12 ob "java/lang/String" "coder" "B" (.int (0 : Int32)) := f7.same W12
  have f16 : Arv Z h12 aa ka .char (2 : Int32) [(.int ca), (.int cb)] (.int (0 : Int32)) := f8.other W12 (Ne.symm ne_oa)
  have f17 : Arv Z h12 rr_3 kr_3 .byte (2 : Int32) [(.int (nar .byte (ca.toInt8.toInt32))), (.int (nar .byte (cb.toInt8.toInt32)))] (.int (0 : Int32)) := f4.other W12 (Ne.symm ne9)
  have O12 : Old Z n0 h12 := O3.wr W12 g_o
  have N12 := Fr.snoc X12 N11 g_o
  have K12 : Keep h0 h12 [ob] := K3.wr W12 (Or.inl (by simp))
  show Go p e below s _ _ _ (T12.setTop (mkF m 51 #[.val (.ref ob), .val (.ref aa), .val (.int (0 : Int32)), .val (.int (2 : Int32)), .val .null, .val (.ref rr_3)] []))
  refine Go.st (fun _ k' => XS.aloadN X12.here hx rfl (hb hby d2_51) rfl rfl k') ?_
  show Go p e below s _ _ _ (T12.setTop (mkF m 52 #[.val (.ref ob), .val (.ref aa), .val (.int (0 : Int32)), .val (.int (2 : Int32)), .val .null, .val (.ref rr_3)] [(.ref ob)]))
  refine Go.st (fun _ k' => XS.aload X12.here hx rfl (hb hby d2_52) rfl rfl k') ?_
  show Go p e below s _ _ _ (T12.setTop (mkF m 54 #[.val (.ref ob), .val (.ref aa), .val (.int (0 : Int32)), .val (.int (2 : Int32)), .val .null, .val (.ref rr_3)] [(.ref rr_3), (.ref ob)]))
  obtain ⟨T18, h18, X18, e18, W18, st18⟩ := putF X12 hx hZ hown (host := "") (Or.inl (wdx hw 28 rfl)) Via.refl e12 f14 f13 (Or.inr ⟨(wdx hw 29 rfl), rfl, hnm⟩) (wdx hw 1 rfl) (ty := (.array .byte)) (by decide) rfl rfl (g := (mkF m 54 #[.val (.ref ob), .val (.ref aa), .val (.int (0 : Int32)), .val (.int (2 : Int32)), .val .null, .val (.ref rr_3)] [(.ref rr_3), (.ref ob)])) rfl rfl (hb hby d2_54)
  refine Go.st st18 ?_
  have f19 : Exa Z h18 ob "java/lang/String" := f13.wr W18
  have f20 : Fld Z h18 ob "java/lang/String" "value" "[B" (.ref rr_3) := f14.same W18
  have f21 : Fld Z h18 ob "java/lang/String" "coder" "B" (.int (0 : Int32)) := f15.other W18 (Or.inr (slot_ne (Or.inr (wdx hw 27 rfl)) (Or.inr (wdx hw 29 rfl)) (by decide) (t := .byte) (t' := (.array .byte)) (by decide) (by decide)))
  have f22 : Arv Z h18 aa ka .char (2 : Int32) [(.int ca), (.int cb)] (.int (0 : Int32)) := f16.other W18 (Ne.symm ne_oa)
  have f23 : Arv Z h18 rr_3 kr_3 .byte (2 : Int32) [(.int (nar .byte (ca.toInt8.toInt32))), (.int (nar .byte (cb.toInt8.toInt32)))] (.int (0 : Int32)) := f17.other W18 (Ne.symm ne9)
  have O18 : Old Z n0 h18 := O12.wr W18 g_o
  have N18 := Fr.snoc X18 N12 g_o
  have K18 : Keep h0 h18 [ob] := K12.wr W18 (Or.inl (by simp))
  show Go p e below s _ _ _ (T18.setTop (mkF m 57 #[.val (.ref ob), .val (.ref aa), .val (.int (0 : Int32)), .val (.int (2 : Int32)), .val .null, .val (.ref rr_3)] []))
  refine Go.retV X18 hx hlk Bd.returns (hb hby d2_57) (by decide) (by decide) e18 ?_
  exact ⟨rfl, N18, K18⟩
theorem ef_rm1_2 (m : MethodId) (ob : Addr) (aa : Addr) : entryFrame m #[(.ref ob), (.ref aa)] 2 = mkF m 0 #[.val (.ref ob), .val (.ref aa)] [] := by first | (simp [entryFrame, mkF, argsToLocals, Value.category]; done) | rfl
def Q1_2 (Z : State) (ob : Addr) (aa : Addr) (ka : ClassId) (cs : Int32) (ca : Int32) (cb : Int32) (h0 : Heap) (n0 : Nat) (v : Option Value) (h : Heap) (L : List Loc) : Prop := v = none ∧ Fr n0 L ∧ Keep h0 h [ob]
set_option maxRecDepth 65536 in
set_option maxHeartbeats 40000000 in
theorem rm1_2 (l : Launch) (Z : State) (a0 : Array Value) (hw : ∀ d ∈ tables_1, d.before a0 Z = true) (ws : List Jvm.Cond) (ob : Addr) (aa : Addr) (ka : ClassId) (cs : Int32) (ca : Int32) (cb : Int32) (h0 : Heap) (n0 : Nat) (O0 : Old Z n0 h0) (E_o : Exa Z h0 ob "java/lang/String") (Fv : Fld Z h0 ob "java/lang/String" "value" "[B" .null) (Fc : Fld Z h0 ob "java/lang/String" "coder" "B" (.int (0 : Int32))) (Va : Arv Z h0 aa ka .char (2 : Int32) [(.int ca), (.int cb)] (.int (0 : Int32))) (S_cs : Sta Z Z.heap "java/lang/String" "COMPACT_STRINGS" "Z" (.int cs)) (q_cs : ¬ cs = (0 : Int32)) (q_ca : ¬ (255 : Int32) < ca) (q_cb : ¬ (255 : Int32) < cb) (g_o : n0 ≤ ob) (ne_oa : ob ≠ aa) :
    MetFree l (⟨"java/lang/String", "<init>", "([C)V"⟩ : MethodName) (head1 (Jvm.Cond.code (⟨"java/lang/String", "<init>", "([C)V"⟩ : MethodName) jdk_42_method_3_code 2 none :: ws) ({ frames := 3, cells := 1, slots := 2, locals := 52 } : Room)) (fun ay U => ay = #[(.ref ob), (.ref aa)] ∧ Z.Warmed39 U.vm ∧ U.heap = h0) (fun _ _ _ _ _ => True) (fun _ U o U' => ∃ v L, o = .returned v ∧ Q1_2 Z ob aa ka cs ca cb h0 n0 v U'.heap L ∧ FrameEnd U o U' L ({ frames := 3, cells := 1, slots := 2, locals := 52 } : Room).cells ({ frames := 3, cells := 1, slots := 2, locals := 52 } : Room).slots) := by
  refine MetFree.of_bodySF (plainFor_of_name pn_java_lang_String) hisR ?_
  intro p e s m args below meth c s₁ Bd hml0 hP hK
  obtain ⟨rfl, hZ, hh⟩ := hP
  have hx := Bd.exec
  have hby := Bd.bytes
  have hlk : meth.locks = false := BodyLoose.notSynchronized Bd
  have hml : c.maxLocals = 2 := hml0
  have hown : s.vm.findClass "java/lang/String" = some m.cls := findClass_of_methodNamed Bd.named
  have hnm := (name_of_methodNamed Bd.named Bd.method).1
  have X0 : Stand p l e ({ frames := 3, cells := 1, slots := 2, locals := 52 } : Room) s m #[(.ref ob), (.ref aa)] below meth c s₁ [] 0 0 := Stand.of_body Bd
  have e0 : s₁.heap = h0 := by rw [← hh, Bd.state]; rfl
  have N0 := Fr.nil n0
  suffices hgo : Go p e below s 1 2 (Q1_2 Z ob aa ka cs ca cb h0 n0) (s₁.setTop (mkF m 0 #[.val (.ref ob), .val (.ref aa)] [])) by
    obtain ⟨t, o, h1, h2⟩ := hgo; exact ⟨t, o, castTop (ef_rm1_2 m ob aa) h1, h2⟩
  show Go p e below s _ _ _ (s₁.setTop (mkF m 0 #[.val (.ref ob), .val (.ref aa)] []))
  refine Go.st (fun _ k' => XS.aloadN X0.here hx rfl (hb hby d1_0) rfl rfl k') ?_
  show Go p e below s _ _ _ (s₁.setTop (mkF m 1 #[.val (.ref ob), .val (.ref aa)] [(.ref ob)]))
  refine Go.st (fun _ k' => XS.aloadN X0.here hx rfl (hb hby d1_1) rfl rfl k') ?_
  show Go p e below s _ _ _ (s₁.setTop (mkF m 2 #[.val (.ref ob), .val (.ref aa)] [(.ref aa), (.ref ob)]))
  refine Go.st (fun _ k' => XS.iconst X0.here hx rfl (hb hby d1_2) k') ?_
  show Go p e below s _ _ _ (s₁.setTop (mkF m 3 #[.val (.ref ob), .val (.ref aa)] [(.int (0 : Int32)), (.ref aa), (.ref ob)]))
  refine Go.st (fun _ k' => XS.aloadN X0.here hx rfl (hb hby d1_3) rfl rfl k') ?_
  show Go p e below s _ _ _ (s₁.setTop (mkF m 4 #[.val (.ref ob), .val (.ref aa)] [(.ref aa), (.int (0 : Int32)), (.ref aa), (.ref ob)]))
  obtain ⟨cl1, Ar1, qc1, Sz1, Nn1, Ha1, Gf1⟩ := id Va
  refine Go.st (fun _ k' => X0.arraylength hx (by rw [e0]; exact Ar1.1) (State.isArrayOf_alike hZ.alike Ar1.2.1) (g := (mkF m 4 #[.val (.ref ob), .val (.ref aa)] [(.ref aa), (.int (0 : Int32)), (.ref aa), (.ref ob)])) rfl rfl (hb hby d1_4) _ k') ?_
  rw [len_of Sz1 Nn1]
  show Go p e below s _ _ _ (s₁.setTop (mkF m 5 #[.val (.ref ob), .val (.ref aa)] [(.int (2 : Int32)), (.int (0 : Int32)), (.ref aa), (.ref ob)]))
  refine Go.st (fun _ k' => XS.aconstNull X0.here hx rfl (hb hby d1_5) k') ?_
  show Go p e below s _ _ _ (s₁.setTop (mkF m 6 #[.val (.ref ob), .val (.ref aa)] [.null, (.int (2 : Int32)), (.int (0 : Int32)), (.ref aa), (.ref ob)]))
  obtain ⟨_, _, ⟨T2, L2, k2, n2⟩, -, X2, ⟨Lc2, hQ2, l2, y2, z2⟩, st2⟩ := X0.specialBack hx (y := (⟨"java/lang/String", "<init>", "([CIILjava/lang/Void;)V"⟩ : MethodName)) rfl hown (mvT hZ (wdx hw 7 rfl)) (mvT hZ (wdx hw 8 rfl)) (mvT hZ (wdx hw 10 rfl)) (by decide) (backOf (W := 0) (rm2_2 l Z a0 hw [] ob aa ka cs ca cb h0 n0 O0 E_o Fv Fc Va S_cs q_cs q_ca q_cb g_o ne_oa) hZ (wdx hw 10 rfl) (wdx hw 2 rfl) (by decide) (by decide)) (g := (mkF m 6 #[.val (.ref ob), .val (.ref aa)] [.null, (.int (2 : Int32)), (.int (0 : Int32)), (.ref aa), (.ref ob)])) rfl (by rw [hml]; rfl) (Steps.refl _) (a := ob) (argsL := [(.ref aa), (.int (0 : Int32)), (.int (2 : Int32)), .null]) (rest := []) (lenOf pd___CIILjava_lang_Void__V rfl) rfl (by show 2 * 0 + _ ≤ _; exact Nat.le_of_eq rfl) (hb hby d1_6) (fun _ _ => ⟨rfl, e0, (by exact Nat.le_of_ble_eq_true rfl), (by exact Nat.le_of_ble_eq_true rfl)⟩)
  dsimp only [Pt.U, Pt.locs, Pt.cells, Pt.slots] at X2 l2 y2 z2 st2 hQ2
  subst l2 y2 z2
  obtain ⟨rfl, Nq2, Kq2⟩ := hQ2
  have N2 := Fr.app N0 Nq2
  refine Go.tr st2 ?_
  have f3 : Exa Z T2.heap ob "java/lang/String" := E_o.keep Kq2
  have f4 : Arv Z T2.heap aa ka .char (2 : Int32) [(.int ca), (.int cb)] (.int (0 : Int32)) := Va.keep Kq2 (ninS (Ne.symm ne_oa) nin0)
  have O2 : Old Z n0 T2.heap := O0.keep Kq2 (allS g_o all0)
  have K2 : Keep h0 T2.heap [ob] := (Keep.refl h0 [ob]).trans Kq2 (allS (Or.inl (by simp)) all0)
  show Go p e below s _ _ _ (T2.setTop (mkF m 9 #[.val (.ref ob), .val (.ref aa)] []))
  refine Go.retV X2 hx hlk Bd.returns (hb hby d1_9) (by decide) (by decide) rfl ?_
  exact ⟨rfl, N2, K2⟩
theorem ef_rm5_3 (m : MethodId) (aa : Addr) (bb : Addr) : entryFrame m #[(.ref aa), (.int (0 : Int32)), (.ref bb), (.int (0 : Int32)), (.int (3 : Int32))] 7 = mkF m 0 #[.val (.ref aa), .val (.int (0 : Int32)), .val (.ref bb), .val (.int (0 : Int32)), .val (.int (3 : Int32)), .unset, .unset] [] := by first | (simp [entryFrame, mkF, argsToLocals, Value.category]; done) | rfl
def Q5_3 (Z : State) (aa : Addr) (bb : Addr) (ka : ClassId) (kb : ClassId) (ca : Int32) (cb : Int32) (cc : Int32) (h0 : Heap) (n0 : Nat) (v : Option Value) (h : Heap) (L : List Loc) : Prop := v = some (.int (3 : Int32)) ∧ Fr n0 L ∧ Keep h0 h [bb] ∧ Arv Z h bb kb .byte (3 : Int32) [(.int (nar .byte (ca.toInt8.toInt32))), (.int (nar .byte (cb.toInt8.toInt32))), (.int (nar .byte (cc.toInt8.toInt32)))] (.int (0 : Int32))
set_option maxRecDepth 65536 in
set_option maxHeartbeats 40000000 in
theorem rm5_3 (l : Launch) (Z : State) (a0 : Array Value) (hw : ∀ d ∈ tables_1, d.before a0 Z = true) (ws : List Jvm.Cond) (aa : Addr) (bb : Addr) (ka : ClassId) (kb : ClassId) (ca : Int32) (cb : Int32) (cc : Int32) (h0 : Heap) (n0 : Nat) (O0 : Old Z n0 h0) (Va : Arv Z h0 aa ka .char (3 : Int32) [(.int ca), (.int cb), (.int cc)] (.int (0 : Int32))) (Vb : Arv Z h0 bb kb .byte (3 : Int32) [(.int (0 : Int32)), (.int (0 : Int32)), (.int (0 : Int32))] (.int (0 : Int32))) (q_ca : ¬ (255 : Int32) < ca) (q_cb : ¬ (255 : Int32) < cb) (q_cc : ¬ (255 : Int32) < cc) (g_b : n0 ≤ bb) (ne_ab : aa ≠ bb) :
    MetFree l (⟨"java/lang/StringUTF16", "compress", "([CI[BII)I"⟩ : MethodName) (head1 (Jvm.Cond.code (⟨"java/lang/StringUTF16", "compress", "([CI[BII)I"⟩ : MethodName) jdk_52_method_21_code 7 (some .int) :: ws) ({ frames := 0, cells := 0, slots := 0, locals := 0 } : Room)) (fun ay U => ay = #[(.ref aa), (.int (0 : Int32)), (.ref bb), (.int (0 : Int32)), (.int (3 : Int32))] ∧ Z.Warmed39 U.vm ∧ U.heap = h0) (fun _ _ _ _ _ => True) (fun _ U o U' => ∃ v L, o = .returned v ∧ Q5_3 Z aa bb ka kb ca cb cc h0 n0 v U'.heap L ∧ FrameEnd U o U' L ({ frames := 0, cells := 0, slots := 0, locals := 0 } : Room).cells ({ frames := 0, cells := 0, slots := 0, locals := 0 } : Room).slots) := by
  refine MetFree.of_bodySF (plainFor_of_name pn_java_lang_StringUTF16) hisR ?_
  intro p e s m args below meth c s₁ Bd hml0 hP hK
  obtain ⟨rfl, hZ, hh⟩ := hP
  have hx := Bd.exec
  have hby := Bd.bytes
  have hlk : meth.locks = false := BodyLoose.notSynchronized Bd
  have hml : c.maxLocals = 7 := hml0
  have hown : s.vm.findClass "java/lang/StringUTF16" = some m.cls := findClass_of_methodNamed Bd.named
  have hnm := (name_of_methodNamed Bd.named Bd.method).1
  have X0 : Stand p l e ({ frames := 0, cells := 0, slots := 0, locals := 0 } : Room) s m #[(.ref aa), (.int (0 : Int32)), (.ref bb), (.int (0 : Int32)), (.int (3 : Int32))] below meth c s₁ [] 0 0 := Stand.of_body Bd
  have e0 : s₁.heap = h0 := by rw [← hh, Bd.state]; rfl
  have N0 := Fr.nil n0
  suffices hgo : Go p e below s 0 0 (Q5_3 Z aa bb ka kb ca cb cc h0 n0) (s₁.setTop (mkF m 0 #[.val (.ref aa), .val (.int (0 : Int32)), .val (.ref bb), .val (.int (0 : Int32)), .val (.int (3 : Int32)), .unset, .unset] [])) by
    obtain ⟨t, o, h1, h2⟩ := hgo; exact ⟨t, o, castTop (ef_rm5_3 m aa bb) h1, h2⟩
  show Go p e below s _ _ _ (s₁.setTop (mkF m 0 #[.val (.ref aa), .val (.int (0 : Int32)), .val (.ref bb), .val (.int (0 : Int32)), .val (.int (3 : Int32)), .unset, .unset] []))
  refine Go.st (fun _ k' => XS.iconst X0.here hx rfl (hb hby d5_0) k') ?_
  show Go p e below s _ _ _ (s₁.setTop (mkF m 1 #[.val (.ref aa), .val (.int (0 : Int32)), .val (.ref bb), .val (.int (0 : Int32)), .val (.int (3 : Int32)), .unset, .unset] [(.int (0 : Int32))]))
  refine Go.st (fun _ k' => XS.istore X0.here hx rfl (hb hby d5_1) rfl (l' := #[.val (.ref aa), .val (.int (0 : Int32)), .val (.ref bb), .val (.int (0 : Int32)), .val (.int (3 : Int32)), .val (.int (0 : Int32)), .unset]) rfl k') ?_
  show Go p e below s _ _ _ (s₁.setTop (mkF m 3 #[.val (.ref aa), .val (.int (0 : Int32)), .val (.ref bb), .val (.int (0 : Int32)), .val (.int (3 : Int32)), .val (.int (0 : Int32)), .unset] []))
  refine Go.st (fun _ k' => XS.iload X0.here hx rfl (hb hby d5_3) rfl k') ?_
  show Go p e below s _ _ _ (s₁.setTop (mkF m 5 #[.val (.ref aa), .val (.int (0 : Int32)), .val (.ref bb), .val (.int (0 : Int32)), .val (.int (3 : Int32)), .val (.int (0 : Int32)), .unset] [(.int (0 : Int32))]))
  refine Go.st (fun _ k' => XS.iload X0.here hx rfl (hb hby d5_5) rfl k') ?_
  show Go p e below s _ _ _ (s₁.setTop (mkF m 7 #[.val (.ref aa), .val (.int (0 : Int32)), .val (.ref bb), .val (.int (0 : Int32)), .val (.int (3 : Int32)), .val (.int (0 : Int32)), .unset] [(.int (3 : Int32)), (.int (0 : Int32))]))
  refine Go.st (fun _ k' => XS.icmpNo X0.here hx rfl (hb hby d5_7) rfl (XT.ii_ge_f (by decide)) k') ?_
  show Go p e below s _ _ _ (s₁.setTop (mkF m 10 #[.val (.ref aa), .val (.int (0 : Int32)), .val (.ref bb), .val (.int (0 : Int32)), .val (.int (3 : Int32)), .val (.int (0 : Int32)), .unset] []))
  refine Go.st (fun _ k' => XS.aloadN X0.here hx rfl (hb hby d5_10) rfl rfl k') ?_
  show Go p e below s _ _ _ (s₁.setTop (mkF m 11 #[.val (.ref aa), .val (.int (0 : Int32)), .val (.ref bb), .val (.int (0 : Int32)), .val (.int (3 : Int32)), .val (.int (0 : Int32)), .unset] [(.ref aa)]))
  refine Go.st (fun _ k' => XS.iloadN X0.here hx rfl (hb hby d5_11) rfl k') ?_
  show Go p e below s _ _ _ (s₁.setTop (mkF m 12 #[.val (.ref aa), .val (.int (0 : Int32)), .val (.ref bb), .val (.int (0 : Int32)), .val (.int (3 : Int32)), .val (.int (0 : Int32)), .unset] [(.int (0 : Int32)), (.ref aa)]))
  obtain ⟨cl1, Ar1, qc1, Sz1, Nn1, Ha1, Gf1⟩ := id Va
  refine Go.st (fun _ k' => X0.caload hx (j := (0 : Int32)) (v := (.int ca)) (by rw [e0]; exact Ar1.1) (State.isArrayOf_alike hZ.alike Ar1.2.1) Ar1.2.2 (inb_of Sz1 ⟨by decide, by decide⟩) (Ha1.at (inb_of Sz1 ⟨by decide, by decide⟩) rfl) (g := (mkF m 12 #[.val (.ref aa), .val (.int (0 : Int32)), .val (.ref bb), .val (.int (0 : Int32)), .val (.int (3 : Int32)), .val (.int (0 : Int32)), .unset] [(.int (0 : Int32)), (.ref aa)])) rfl rfl (hb hby d5_12) _ k') ?_
  show Go p e below s _ _ _ (s₁.setTop (mkF m 13 #[.val (.ref aa), .val (.int (0 : Int32)), .val (.ref bb), .val (.int (0 : Int32)), .val (.int (3 : Int32)), .val (.int (0 : Int32)), .unset] [(.int ca)]))
  refine Go.st (fun _ k' => XS.istore X0.here hx rfl (hb hby d5_13) rfl (l' := #[.val (.ref aa), .val (.int (0 : Int32)), .val (.ref bb), .val (.int (0 : Int32)), .val (.int (3 : Int32)), .val (.int (0 : Int32)), .val (.int ca)]) rfl k') ?_
  show Go p e below s _ _ _ (s₁.setTop (mkF m 15 #[.val (.ref aa), .val (.int (0 : Int32)), .val (.ref bb), .val (.int (0 : Int32)), .val (.int (3 : Int32)), .val (.int (0 : Int32)), .val (.int ca)] []))
  refine Go.st (fun _ k' => XS.iload X0.here hx rfl (hb hby d5_15) rfl k') ?_
  show Go p e below s _ _ _ (s₁.setTop (mkF m 17 #[.val (.ref aa), .val (.int (0 : Int32)), .val (.ref bb), .val (.int (0 : Int32)), .val (.int (3 : Int32)), .val (.int (0 : Int32)), .val (.int ca)] [(.int ca)]))
  refine Go.st (fun _ k' => XS.sipush X0.here hx rfl (hb hby d5_17) k') ?_
  show Go p e below s _ _ _ (s₁.setTop (mkF m 20 #[.val (.ref aa), .val (.int (0 : Int32)), .val (.ref bb), .val (.int (0 : Int32)), .val (.int (3 : Int32)), .val (.int (0 : Int32)), .val (.int ca)] [(.int (255 : Int32)), (.int ca)]))
  refine Go.st (fun _ k' => XS.icmpYes X0.here hx rfl (pc0 := 20) (pc' := 26) rfl (hb hby d5_20) rfl (XT.ii_le_t q_ca) (by decide) (by decide) k') ?_
  show Go p e below s _ _ _ (s₁.setTop (mkF m 26 #[.val (.ref aa), .val (.int (0 : Int32)), .val (.ref bb), .val (.int (0 : Int32)), .val (.int (3 : Int32)), .val (.int (0 : Int32)), .val (.int ca)] []))
  refine Go.st (fun _ k' => XS.aloadN X0.here hx rfl (hb hby d5_26) rfl rfl k') ?_
  show Go p e below s _ _ _ (s₁.setTop (mkF m 27 #[.val (.ref aa), .val (.int (0 : Int32)), .val (.ref bb), .val (.int (0 : Int32)), .val (.int (3 : Int32)), .val (.int (0 : Int32)), .val (.int ca)] [(.ref bb)]))
  refine Go.st (fun _ k' => XS.iloadN X0.here hx rfl (hb hby d5_27) rfl k') ?_
  show Go p e below s _ _ _ (s₁.setTop (mkF m 28 #[.val (.ref aa), .val (.int (0 : Int32)), .val (.ref bb), .val (.int (0 : Int32)), .val (.int (3 : Int32)), .val (.int (0 : Int32)), .val (.int ca)] [(.int (0 : Int32)), (.ref bb)]))
  refine Go.st (fun _ k' => XS.iload X0.here hx rfl (hb hby d5_28) rfl k') ?_
  show Go p e below s _ _ _ (s₁.setTop (mkF m 30 #[.val (.ref aa), .val (.int (0 : Int32)), .val (.ref bb), .val (.int (0 : Int32)), .val (.int (3 : Int32)), .val (.int (0 : Int32)), .val (.int ca)] [(.int ca), (.int (0 : Int32)), (.ref bb)]))
  refine Go.st (fun _ k' => XS.i2b X0.here hx rfl (hb hby d5_30) rfl k') ?_
  show Go p e below s _ _ _ (s₁.setTop (mkF m 31 #[.val (.ref aa), .val (.int (0 : Int32)), .val (.ref bb), .val (.int (0 : Int32)), .val (.int (3 : Int32)), .val (.int (0 : Int32)), .val (.int ca)] [(.int (ca.toInt8.toInt32)), (.int (0 : Int32)), (.ref bb)]))
  obtain ⟨cl2, Ar2, qc2, Sz2, Nn2, Ha2, Gf2⟩ := id Vb
  obtain ⟨T2, h2, X2, e2, W2, st2⟩ := stB X0 hx hZ e0 Ar2 (j := (0 : Int32)) (inb_of Sz2 ⟨by decide, by decide⟩) (g := (mkF m 31 #[.val (.ref aa), .val (.int (0 : Int32)), .val (.ref bb), .val (.int (0 : Int32)), .val (.int (3 : Int32)), .val (.int (0 : Int32)), .val (.int ca)] [(.int (ca.toInt8.toInt32)), (.int (0 : Int32)), (.ref bb)])) rfl rfl (hb hby d5_31)
  refine Go.st st2 ?_
  have f4 : Arv Z h2 aa ka .char (3 : Int32) [(.int ca), (.int cb), (.int cc)] (.int (0 : Int32)) := Va.other W2 ne_ab
  have O2 : Old Z n0 h2 := O0.wr W2 g_b
  have N2 := Fr.snoc X2 N0 g_b
  have K2 : Keep h0 h2 [bb] := (Keep.refl h0 [bb]).wr W2 (Or.inl (by simp))
  have f3 : Arv Z h2 bb kb .byte (3 : Int32) [(.int (nar .byte (ca.toInt8.toInt32))), (.int (0 : Int32)), (.int (0 : Int32))] (.int (0 : Int32)) := Arv.set Ar2 qc2 Sz2 Nn2 Ha2 Gf2 (fits_nar_byte _) W2 0 rfl (Nat.le_of_ble_eq_true rfl)
  show Go p e below s _ _ _ (T2.setTop (mkF m 32 #[.val (.ref aa), .val (.int (0 : Int32)), .val (.ref bb), .val (.int (0 : Int32)), .val (.int (3 : Int32)), .val (.int (0 : Int32)), .val (.int ca)] []))
  refine Go.st (fun _ k' => XS.iinc X2.here hx rfl (hb hby d5_32) rfl (l' := #[.val (.ref aa), .val (.int (1 : Int32)), .val (.ref bb), .val (.int (0 : Int32)), .val (.int (3 : Int32)), .val (.int (0 : Int32)), .val (.int ca)]) rfl k') ?_
  show Go p e below s _ _ _ (T2.setTop (mkF m 35 #[.val (.ref aa), .val (.int (1 : Int32)), .val (.ref bb), .val (.int (0 : Int32)), .val (.int (3 : Int32)), .val (.int (0 : Int32)), .val (.int ca)] []))
  refine Go.st (fun _ k' => XS.iinc X2.here hx rfl (hb hby d5_35) rfl (l' := #[.val (.ref aa), .val (.int (1 : Int32)), .val (.ref bb), .val (.int (1 : Int32)), .val (.int (3 : Int32)), .val (.int (0 : Int32)), .val (.int ca)]) rfl k') ?_
  show Go p e below s _ _ _ (T2.setTop (mkF m 38 #[.val (.ref aa), .val (.int (1 : Int32)), .val (.ref bb), .val (.int (1 : Int32)), .val (.int (3 : Int32)), .val (.int (0 : Int32)), .val (.int ca)] []))
  refine Go.st (fun _ k' => XS.iinc X2.here hx rfl (hb hby d5_38) rfl (l' := #[.val (.ref aa), .val (.int (1 : Int32)), .val (.ref bb), .val (.int (1 : Int32)), .val (.int (3 : Int32)), .val (.int (1 : Int32)), .val (.int ca)]) rfl k') ?_
  show Go p e below s _ _ _ (T2.setTop (mkF m 41 #[.val (.ref aa), .val (.int (1 : Int32)), .val (.ref bb), .val (.int (1 : Int32)), .val (.int (3 : Int32)), .val (.int (1 : Int32)), .val (.int ca)] []))
  refine Go.st (fun _ k' => XS.goto X2.here hx rfl (pc0 := 41) (pc' := 3) rfl (hb hby d5_41) (by decide) (by decide) k') ?_
  show Go p e below s _ _ _ (T2.setTop (mkF m 3 #[.val (.ref aa), .val (.int (1 : Int32)), .val (.ref bb), .val (.int (1 : Int32)), .val (.int (3 : Int32)), .val (.int (1 : Int32)), .val (.int ca)] []))
  refine Go.st (fun _ k' => XS.iload X2.here hx rfl (hb hby d5_3) rfl k') ?_
  show Go p e below s _ _ _ (T2.setTop (mkF m 5 #[.val (.ref aa), .val (.int (1 : Int32)), .val (.ref bb), .val (.int (1 : Int32)), .val (.int (3 : Int32)), .val (.int (1 : Int32)), .val (.int ca)] [(.int (1 : Int32))]))
  refine Go.st (fun _ k' => XS.iload X2.here hx rfl (hb hby d5_5) rfl k') ?_
  show Go p e below s _ _ _ (T2.setTop (mkF m 7 #[.val (.ref aa), .val (.int (1 : Int32)), .val (.ref bb), .val (.int (1 : Int32)), .val (.int (3 : Int32)), .val (.int (1 : Int32)), .val (.int ca)] [(.int (3 : Int32)), (.int (1 : Int32))]))
  refine Go.st (fun _ k' => XS.icmpNo X2.here hx rfl (hb hby d5_7) rfl (XT.ii_ge_f (by decide)) k') ?_
  show Go p e below s _ _ _ (T2.setTop (mkF m 10 #[.val (.ref aa), .val (.int (1 : Int32)), .val (.ref bb), .val (.int (1 : Int32)), .val (.int (3 : Int32)), .val (.int (1 : Int32)), .val (.int ca)] []))
  refine Go.st (fun _ k' => XS.aloadN X2.here hx rfl (hb hby d5_10) rfl rfl k') ?_
  show Go p e below s _ _ _ (T2.setTop (mkF m 11 #[.val (.ref aa), .val (.int (1 : Int32)), .val (.ref bb), .val (.int (1 : Int32)), .val (.int (3 : Int32)), .val (.int (1 : Int32)), .val (.int ca)] [(.ref aa)]))
  refine Go.st (fun _ k' => XS.iloadN X2.here hx rfl (hb hby d5_11) rfl k') ?_
  show Go p e below s _ _ _ (T2.setTop (mkF m 12 #[.val (.ref aa), .val (.int (1 : Int32)), .val (.ref bb), .val (.int (1 : Int32)), .val (.int (3 : Int32)), .val (.int (1 : Int32)), .val (.int ca)] [(.int (1 : Int32)), (.ref aa)]))
  obtain ⟨cl5, Ar5, qc5, Sz5, Nn5, Ha5, Gf5⟩ := id f4
  refine Go.st (fun _ k' => X2.caload hx (j := (1 : Int32)) (v := (.int cb)) (by rw [e2]; exact Ar5.1) (State.isArrayOf_alike hZ.alike Ar5.2.1) Ar5.2.2 (inb_of Sz5 ⟨by decide, by decide⟩) (Ha5.at (inb_of Sz5 ⟨by decide, by decide⟩) rfl) (g := (mkF m 12 #[.val (.ref aa), .val (.int (1 : Int32)), .val (.ref bb), .val (.int (1 : Int32)), .val (.int (3 : Int32)), .val (.int (1 : Int32)), .val (.int ca)] [(.int (1 : Int32)), (.ref aa)])) rfl rfl (hb hby d5_12) _ k') ?_
  show Go p e below s _ _ _ (T2.setTop (mkF m 13 #[.val (.ref aa), .val (.int (1 : Int32)), .val (.ref bb), .val (.int (1 : Int32)), .val (.int (3 : Int32)), .val (.int (1 : Int32)), .val (.int ca)] [(.int cb)]))
  refine Go.st (fun _ k' => XS.istore X2.here hx rfl (hb hby d5_13) rfl (l' := #[.val (.ref aa), .val (.int (1 : Int32)), .val (.ref bb), .val (.int (1 : Int32)), .val (.int (3 : Int32)), .val (.int (1 : Int32)), .val (.int cb)]) rfl k') ?_
  show Go p e below s _ _ _ (T2.setTop (mkF m 15 #[.val (.ref aa), .val (.int (1 : Int32)), .val (.ref bb), .val (.int (1 : Int32)), .val (.int (3 : Int32)), .val (.int (1 : Int32)), .val (.int cb)] []))
  refine Go.st (fun _ k' => XS.iload X2.here hx rfl (hb hby d5_15) rfl k') ?_
  show Go p e below s _ _ _ (T2.setTop (mkF m 17 #[.val (.ref aa), .val (.int (1 : Int32)), .val (.ref bb), .val (.int (1 : Int32)), .val (.int (3 : Int32)), .val (.int (1 : Int32)), .val (.int cb)] [(.int cb)]))
  refine Go.st (fun _ k' => XS.sipush X2.here hx rfl (hb hby d5_17) k') ?_
  show Go p e below s _ _ _ (T2.setTop (mkF m 20 #[.val (.ref aa), .val (.int (1 : Int32)), .val (.ref bb), .val (.int (1 : Int32)), .val (.int (3 : Int32)), .val (.int (1 : Int32)), .val (.int cb)] [(.int (255 : Int32)), (.int cb)]))
  refine Go.st (fun _ k' => XS.icmpYes X2.here hx rfl (pc0 := 20) (pc' := 26) rfl (hb hby d5_20) rfl (XT.ii_le_t q_cb) (by decide) (by decide) k') ?_
  show Go p e below s _ _ _ (T2.setTop (mkF m 26 #[.val (.ref aa), .val (.int (1 : Int32)), .val (.ref bb), .val (.int (1 : Int32)), .val (.int (3 : Int32)), .val (.int (1 : Int32)), .val (.int cb)] []))
  refine Go.st (fun _ k' => XS.aloadN X2.here hx rfl (hb hby d5_26) rfl rfl k') ?_
  show Go p e below s _ _ _ (T2.setTop (mkF m 27 #[.val (.ref aa), .val (.int (1 : Int32)), .val (.ref bb), .val (.int (1 : Int32)), .val (.int (3 : Int32)), .val (.int (1 : Int32)), .val (.int cb)] [(.ref bb)]))
  refine Go.st (fun _ k' => XS.iloadN X2.here hx rfl (hb hby d5_27) rfl k') ?_
  show Go p e below s _ _ _ (T2.setTop (mkF m 28 #[.val (.ref aa), .val (.int (1 : Int32)), .val (.ref bb), .val (.int (1 : Int32)), .val (.int (3 : Int32)), .val (.int (1 : Int32)), .val (.int cb)] [(.int (1 : Int32)), (.ref bb)]))
  refine Go.st (fun _ k' => XS.iload X2.here hx rfl (hb hby d5_28) rfl k') ?_
  show Go p e below s _ _ _ (T2.setTop (mkF m 30 #[.val (.ref aa), .val (.int (1 : Int32)), .val (.ref bb), .val (.int (1 : Int32)), .val (.int (3 : Int32)), .val (.int (1 : Int32)), .val (.int cb)] [(.int cb), (.int (1 : Int32)), (.ref bb)]))
  refine Go.st (fun _ k' => XS.i2b X2.here hx rfl (hb hby d5_30) rfl k') ?_
  show Go p e below s _ _ _ (T2.setTop (mkF m 31 #[.val (.ref aa), .val (.int (1 : Int32)), .val (.ref bb), .val (.int (1 : Int32)), .val (.int (3 : Int32)), .val (.int (1 : Int32)), .val (.int cb)] [(.int (cb.toInt8.toInt32)), (.int (1 : Int32)), (.ref bb)]))
  obtain ⟨cl6, Ar6, qc6, Sz6, Nn6, Ha6, Gf6⟩ := id f3
  obtain ⟨T6, h6, X6, e6, W6, st6⟩ := stB X2 hx hZ e2 Ar6 (j := (1 : Int32)) (inb_of Sz6 ⟨by decide, by decide⟩) (g := (mkF m 31 #[.val (.ref aa), .val (.int (1 : Int32)), .val (.ref bb), .val (.int (1 : Int32)), .val (.int (3 : Int32)), .val (.int (1 : Int32)), .val (.int cb)] [(.int (cb.toInt8.toInt32)), (.int (1 : Int32)), (.ref bb)])) rfl rfl (hb hby d5_31)
  refine Go.st st6 ?_
  have f8 : Arv Z h6 aa ka .char (3 : Int32) [(.int ca), (.int cb), (.int cc)] (.int (0 : Int32)) := f4.other W6 ne_ab
  have O6 : Old Z n0 h6 := O2.wr W6 g_b
  have N6 := Fr.snoc X6 N2 g_b
  have K6 : Keep h0 h6 [bb] := K2.wr W6 (Or.inl (by simp))
  have f7 : Arv Z h6 bb kb .byte (3 : Int32) [(.int (nar .byte (ca.toInt8.toInt32))), (.int (nar .byte (cb.toInt8.toInt32))), (.int (0 : Int32))] (.int (0 : Int32)) := Arv.set Ar6 qc6 Sz6 Nn6 Ha6 Gf6 (fits_nar_byte _) W6 1 rfl (Nat.le_of_ble_eq_true rfl)
  show Go p e below s _ _ _ (T6.setTop (mkF m 32 #[.val (.ref aa), .val (.int (1 : Int32)), .val (.ref bb), .val (.int (1 : Int32)), .val (.int (3 : Int32)), .val (.int (1 : Int32)), .val (.int cb)] []))
  refine Go.st (fun _ k' => XS.iinc X6.here hx rfl (hb hby d5_32) rfl (l' := #[.val (.ref aa), .val (.int (2 : Int32)), .val (.ref bb), .val (.int (1 : Int32)), .val (.int (3 : Int32)), .val (.int (1 : Int32)), .val (.int cb)]) rfl k') ?_
  show Go p e below s _ _ _ (T6.setTop (mkF m 35 #[.val (.ref aa), .val (.int (2 : Int32)), .val (.ref bb), .val (.int (1 : Int32)), .val (.int (3 : Int32)), .val (.int (1 : Int32)), .val (.int cb)] []))
  refine Go.st (fun _ k' => XS.iinc X6.here hx rfl (hb hby d5_35) rfl (l' := #[.val (.ref aa), .val (.int (2 : Int32)), .val (.ref bb), .val (.int (2 : Int32)), .val (.int (3 : Int32)), .val (.int (1 : Int32)), .val (.int cb)]) rfl k') ?_
  show Go p e below s _ _ _ (T6.setTop (mkF m 38 #[.val (.ref aa), .val (.int (2 : Int32)), .val (.ref bb), .val (.int (2 : Int32)), .val (.int (3 : Int32)), .val (.int (1 : Int32)), .val (.int cb)] []))
  refine Go.st (fun _ k' => XS.iinc X6.here hx rfl (hb hby d5_38) rfl (l' := #[.val (.ref aa), .val (.int (2 : Int32)), .val (.ref bb), .val (.int (2 : Int32)), .val (.int (3 : Int32)), .val (.int (2 : Int32)), .val (.int cb)]) rfl k') ?_
  show Go p e below s _ _ _ (T6.setTop (mkF m 41 #[.val (.ref aa), .val (.int (2 : Int32)), .val (.ref bb), .val (.int (2 : Int32)), .val (.int (3 : Int32)), .val (.int (2 : Int32)), .val (.int cb)] []))
  refine Go.st (fun _ k' => XS.goto X6.here hx rfl (pc0 := 41) (pc' := 3) rfl (hb hby d5_41) (by decide) (by decide) k') ?_
  show Go p e below s _ _ _ (T6.setTop (mkF m 3 #[.val (.ref aa), .val (.int (2 : Int32)), .val (.ref bb), .val (.int (2 : Int32)), .val (.int (3 : Int32)), .val (.int (2 : Int32)), .val (.int cb)] []))
  refine Go.st (fun _ k' => XS.iload X6.here hx rfl (hb hby d5_3) rfl k') ?_
  show Go p e below s _ _ _ (T6.setTop (mkF m 5 #[.val (.ref aa), .val (.int (2 : Int32)), .val (.ref bb), .val (.int (2 : Int32)), .val (.int (3 : Int32)), .val (.int (2 : Int32)), .val (.int cb)] [(.int (2 : Int32))]))
  refine Go.st (fun _ k' => XS.iload X6.here hx rfl (hb hby d5_5) rfl k') ?_
  show Go p e below s _ _ _ (T6.setTop (mkF m 7 #[.val (.ref aa), .val (.int (2 : Int32)), .val (.ref bb), .val (.int (2 : Int32)), .val (.int (3 : Int32)), .val (.int (2 : Int32)), .val (.int cb)] [(.int (3 : Int32)), (.int (2 : Int32))]))
  refine Go.st (fun _ k' => XS.icmpNo X6.here hx rfl (hb hby d5_7) rfl (XT.ii_ge_f (by decide)) k') ?_
  show Go p e below s _ _ _ (T6.setTop (mkF m 10 #[.val (.ref aa), .val (.int (2 : Int32)), .val (.ref bb), .val (.int (2 : Int32)), .val (.int (3 : Int32)), .val (.int (2 : Int32)), .val (.int cb)] []))
  refine Go.st (fun _ k' => XS.aloadN X6.here hx rfl (hb hby d5_10) rfl rfl k') ?_
  show Go p e below s _ _ _ (T6.setTop (mkF m 11 #[.val (.ref aa), .val (.int (2 : Int32)), .val (.ref bb), .val (.int (2 : Int32)), .val (.int (3 : Int32)), .val (.int (2 : Int32)), .val (.int cb)] [(.ref aa)]))
  refine Go.st (fun _ k' => XS.iloadN X6.here hx rfl (hb hby d5_11) rfl k') ?_
  show Go p e below s _ _ _ (T6.setTop (mkF m 12 #[.val (.ref aa), .val (.int (2 : Int32)), .val (.ref bb), .val (.int (2 : Int32)), .val (.int (3 : Int32)), .val (.int (2 : Int32)), .val (.int cb)] [(.int (2 : Int32)), (.ref aa)]))
  obtain ⟨cl9, Ar9, qc9, Sz9, Nn9, Ha9, Gf9⟩ := id f8
  refine Go.st (fun _ k' => X6.caload hx (j := (2 : Int32)) (v := (.int cc)) (by rw [e6]; exact Ar9.1) (State.isArrayOf_alike hZ.alike Ar9.2.1) Ar9.2.2 (inb_of Sz9 ⟨by decide, by decide⟩) (Ha9.at (inb_of Sz9 ⟨by decide, by decide⟩) rfl) (g := (mkF m 12 #[.val (.ref aa), .val (.int (2 : Int32)), .val (.ref bb), .val (.int (2 : Int32)), .val (.int (3 : Int32)), .val (.int (2 : Int32)), .val (.int cb)] [(.int (2 : Int32)), (.ref aa)])) rfl rfl (hb hby d5_12) _ k') ?_
  show Go p e below s _ _ _ (T6.setTop (mkF m 13 #[.val (.ref aa), .val (.int (2 : Int32)), .val (.ref bb), .val (.int (2 : Int32)), .val (.int (3 : Int32)), .val (.int (2 : Int32)), .val (.int cb)] [(.int cc)]))
  refine Go.st (fun _ k' => XS.istore X6.here hx rfl (hb hby d5_13) rfl (l' := #[.val (.ref aa), .val (.int (2 : Int32)), .val (.ref bb), .val (.int (2 : Int32)), .val (.int (3 : Int32)), .val (.int (2 : Int32)), .val (.int cc)]) rfl k') ?_
  show Go p e below s _ _ _ (T6.setTop (mkF m 15 #[.val (.ref aa), .val (.int (2 : Int32)), .val (.ref bb), .val (.int (2 : Int32)), .val (.int (3 : Int32)), .val (.int (2 : Int32)), .val (.int cc)] []))
  refine Go.st (fun _ k' => XS.iload X6.here hx rfl (hb hby d5_15) rfl k') ?_
  show Go p e below s _ _ _ (T6.setTop (mkF m 17 #[.val (.ref aa), .val (.int (2 : Int32)), .val (.ref bb), .val (.int (2 : Int32)), .val (.int (3 : Int32)), .val (.int (2 : Int32)), .val (.int cc)] [(.int cc)]))
  refine Go.st (fun _ k' => XS.sipush X6.here hx rfl (hb hby d5_17) k') ?_
  show Go p e below s _ _ _ (T6.setTop (mkF m 20 #[.val (.ref aa), .val (.int (2 : Int32)), .val (.ref bb), .val (.int (2 : Int32)), .val (.int (3 : Int32)), .val (.int (2 : Int32)), .val (.int cc)] [(.int (255 : Int32)), (.int cc)]))
  refine Go.st (fun _ k' => XS.icmpYes X6.here hx rfl (pc0 := 20) (pc' := 26) rfl (hb hby d5_20) rfl (XT.ii_le_t q_cc) (by decide) (by decide) k') ?_
  show Go p e below s _ _ _ (T6.setTop (mkF m 26 #[.val (.ref aa), .val (.int (2 : Int32)), .val (.ref bb), .val (.int (2 : Int32)), .val (.int (3 : Int32)), .val (.int (2 : Int32)), .val (.int cc)] []))
  refine Go.st (fun _ k' => XS.aloadN X6.here hx rfl (hb hby d5_26) rfl rfl k') ?_
  show Go p e below s _ _ _ (T6.setTop (mkF m 27 #[.val (.ref aa), .val (.int (2 : Int32)), .val (.ref bb), .val (.int (2 : Int32)), .val (.int (3 : Int32)), .val (.int (2 : Int32)), .val (.int cc)] [(.ref bb)]))
  refine Go.st (fun _ k' => XS.iloadN X6.here hx rfl (hb hby d5_27) rfl k') ?_
  show Go p e below s _ _ _ (T6.setTop (mkF m 28 #[.val (.ref aa), .val (.int (2 : Int32)), .val (.ref bb), .val (.int (2 : Int32)), .val (.int (3 : Int32)), .val (.int (2 : Int32)), .val (.int cc)] [(.int (2 : Int32)), (.ref bb)]))
  refine Go.st (fun _ k' => XS.iload X6.here hx rfl (hb hby d5_28) rfl k') ?_
  show Go p e below s _ _ _ (T6.setTop (mkF m 30 #[.val (.ref aa), .val (.int (2 : Int32)), .val (.ref bb), .val (.int (2 : Int32)), .val (.int (3 : Int32)), .val (.int (2 : Int32)), .val (.int cc)] [(.int cc), (.int (2 : Int32)), (.ref bb)]))
  refine Go.st (fun _ k' => XS.i2b X6.here hx rfl (hb hby d5_30) rfl k') ?_
  show Go p e below s _ _ _ (T6.setTop (mkF m 31 #[.val (.ref aa), .val (.int (2 : Int32)), .val (.ref bb), .val (.int (2 : Int32)), .val (.int (3 : Int32)), .val (.int (2 : Int32)), .val (.int cc)] [(.int (cc.toInt8.toInt32)), (.int (2 : Int32)), (.ref bb)]))
  obtain ⟨cl10, Ar10, qc10, Sz10, Nn10, Ha10, Gf10⟩ := id f7
  obtain ⟨T10, h10, X10, e10, W10, st10⟩ := stB X6 hx hZ e6 Ar10 (j := (2 : Int32)) (inb_of Sz10 ⟨by decide, by decide⟩) (g := (mkF m 31 #[.val (.ref aa), .val (.int (2 : Int32)), .val (.ref bb), .val (.int (2 : Int32)), .val (.int (3 : Int32)), .val (.int (2 : Int32)), .val (.int cc)] [(.int (cc.toInt8.toInt32)), (.int (2 : Int32)), (.ref bb)])) rfl rfl (hb hby d5_31)
  refine Go.st st10 ?_
  have f12 : Arv Z h10 aa ka .char (3 : Int32) [(.int ca), (.int cb), (.int cc)] (.int (0 : Int32)) := f8.other W10 ne_ab
  have O10 : Old Z n0 h10 := O6.wr W10 g_b
  have N10 := Fr.snoc X10 N6 g_b
  have K10 : Keep h0 h10 [bb] := K6.wr W10 (Or.inl (by simp))
  have f11 : Arv Z h10 bb kb .byte (3 : Int32) [(.int (nar .byte (ca.toInt8.toInt32))), (.int (nar .byte (cb.toInt8.toInt32))), (.int (nar .byte (cc.toInt8.toInt32)))] (.int (0 : Int32)) := Arv.set Ar10 qc10 Sz10 Nn10 Ha10 Gf10 (fits_nar_byte _) W10 2 rfl (Nat.le_of_ble_eq_true rfl)
  show Go p e below s _ _ _ (T10.setTop (mkF m 32 #[.val (.ref aa), .val (.int (2 : Int32)), .val (.ref bb), .val (.int (2 : Int32)), .val (.int (3 : Int32)), .val (.int (2 : Int32)), .val (.int cc)] []))
  refine Go.st (fun _ k' => XS.iinc X10.here hx rfl (hb hby d5_32) rfl (l' := #[.val (.ref aa), .val (.int (3 : Int32)), .val (.ref bb), .val (.int (2 : Int32)), .val (.int (3 : Int32)), .val (.int (2 : Int32)), .val (.int cc)]) rfl k') ?_
  show Go p e below s _ _ _ (T10.setTop (mkF m 35 #[.val (.ref aa), .val (.int (3 : Int32)), .val (.ref bb), .val (.int (2 : Int32)), .val (.int (3 : Int32)), .val (.int (2 : Int32)), .val (.int cc)] []))
  refine Go.st (fun _ k' => XS.iinc X10.here hx rfl (hb hby d5_35) rfl (l' := #[.val (.ref aa), .val (.int (3 : Int32)), .val (.ref bb), .val (.int (3 : Int32)), .val (.int (3 : Int32)), .val (.int (2 : Int32)), .val (.int cc)]) rfl k') ?_
  show Go p e below s _ _ _ (T10.setTop (mkF m 38 #[.val (.ref aa), .val (.int (3 : Int32)), .val (.ref bb), .val (.int (3 : Int32)), .val (.int (3 : Int32)), .val (.int (2 : Int32)), .val (.int cc)] []))
  refine Go.st (fun _ k' => XS.iinc X10.here hx rfl (hb hby d5_38) rfl (l' := #[.val (.ref aa), .val (.int (3 : Int32)), .val (.ref bb), .val (.int (3 : Int32)), .val (.int (3 : Int32)), .val (.int (3 : Int32)), .val (.int cc)]) rfl k') ?_
  show Go p e below s _ _ _ (T10.setTop (mkF m 41 #[.val (.ref aa), .val (.int (3 : Int32)), .val (.ref bb), .val (.int (3 : Int32)), .val (.int (3 : Int32)), .val (.int (3 : Int32)), .val (.int cc)] []))
  refine Go.st (fun _ k' => XS.goto X10.here hx rfl (pc0 := 41) (pc' := 3) rfl (hb hby d5_41) (by decide) (by decide) k') ?_
  show Go p e below s _ _ _ (T10.setTop (mkF m 3 #[.val (.ref aa), .val (.int (3 : Int32)), .val (.ref bb), .val (.int (3 : Int32)), .val (.int (3 : Int32)), .val (.int (3 : Int32)), .val (.int cc)] []))
  refine Go.st (fun _ k' => XS.iload X10.here hx rfl (hb hby d5_3) rfl k') ?_
  show Go p e below s _ _ _ (T10.setTop (mkF m 5 #[.val (.ref aa), .val (.int (3 : Int32)), .val (.ref bb), .val (.int (3 : Int32)), .val (.int (3 : Int32)), .val (.int (3 : Int32)), .val (.int cc)] [(.int (3 : Int32))]))
  refine Go.st (fun _ k' => XS.iload X10.here hx rfl (hb hby d5_5) rfl k') ?_
  show Go p e below s _ _ _ (T10.setTop (mkF m 7 #[.val (.ref aa), .val (.int (3 : Int32)), .val (.ref bb), .val (.int (3 : Int32)), .val (.int (3 : Int32)), .val (.int (3 : Int32)), .val (.int cc)] [(.int (3 : Int32)), (.int (3 : Int32))]))
  refine Go.st (fun _ k' => XS.icmpYes X10.here hx rfl (pc0 := 7) (pc' := 44) rfl (hb hby d5_7) rfl (XT.ii_ge_t (by decide)) (by decide) (by decide) k') ?_
  show Go p e below s _ _ _ (T10.setTop (mkF m 44 #[.val (.ref aa), .val (.int (3 : Int32)), .val (.ref bb), .val (.int (3 : Int32)), .val (.int (3 : Int32)), .val (.int (3 : Int32)), .val (.int cc)] []))
  refine Go.st (fun _ k' => XS.iload X10.here hx rfl (hb hby d5_44) rfl k') ?_
  show Go p e below s _ _ _ (T10.setTop (mkF m 46 #[.val (.ref aa), .val (.int (3 : Int32)), .val (.ref bb), .val (.int (3 : Int32)), .val (.int (3 : Int32)), .val (.int (3 : Int32)), .val (.int cc)] [(.int (3 : Int32))]))
  refine Go.ret X10 hx hlk (t := .int) Bd.returns rfl (Or.inl ⟨rfl, Or.inl rfl, _, rfl⟩) (hb hby d5_46) (by decide) (by decide) e10 ?_
  exact ⟨rfl, N10, K10, f11⟩
theorem ef_rm4_3 (m : MethodId) (aa : Addr) : entryFrame m #[(.ref aa), (.int (0 : Int32)), (.int (3 : Int32))] 6 = mkF m 0 #[.val (.ref aa), .val (.int (0 : Int32)), .val (.int (3 : Int32)), .unset, .unset, .unset] [] := by first | (simp [entryFrame, mkF, argsToLocals, Value.category]; done) | rfl
def Q4_3 (Z : State) (aa : Addr) (ka : ClassId) (ca : Int32) (cb : Int32) (cc : Int32) (h0 : Heap) (n0 : Nat) (v : Option Value) (h : Heap) (L : List Loc) : Prop := ∃ (rr : Addr) (kr : ClassId), v = some (.ref rr) ∧ Fr n0 L ∧ Keep h0 h [] ∧ Arv Z h rr kr .byte (3 : Int32) [(.int (nar .byte (ca.toInt8.toInt32))), (.int (nar .byte (cb.toInt8.toInt32))), (.int (nar .byte (cc.toInt8.toInt32)))] (.int (0 : Int32)) ∧ h0.size ≤ rr
set_option maxRecDepth 65536 in
set_option maxHeartbeats 40000000 in
theorem rm4_3 (l : Launch) (Z : State) (a0 : Array Value) (hw : ∀ d ∈ tables_1, d.before a0 Z = true) (ws : List Jvm.Cond) (aa : Addr) (ka : ClassId) (ca : Int32) (cb : Int32) (cc : Int32) (h0 : Heap) (n0 : Nat) (O0 : Old Z n0 h0) (Va : Arv Z h0 aa ka .char (3 : Int32) [(.int ca), (.int cb), (.int cc)] (.int (0 : Int32))) (q_ca : ¬ (255 : Int32) < ca) (q_cb : ¬ (255 : Int32) < cb) (q_cc : ¬ (255 : Int32) < cc) :
    MetFree l (⟨"java/lang/StringUTF16", "compress", "([CII)[B"⟩ : MethodName) (head1 (Jvm.Cond.code (⟨"java/lang/StringUTF16", "compress", "([CII)[B"⟩ : MethodName) jdk_52_method_16_code 6 (some (.array .byte)) :: ws) ({ frames := 1, cells := 1, slots := 3, locals := 18 } : Room)) (fun ay U => ay = #[(.ref aa), (.int (0 : Int32)), (.int (3 : Int32))] ∧ Z.Warmed39 U.vm ∧ U.heap = h0) (fun _ _ _ _ _ => True) (fun _ U o U' => ∃ v L, o = .returned v ∧ Q4_3 Z aa ka ca cb cc h0 n0 v U'.heap L ∧ FrameEnd U o U' L ({ frames := 1, cells := 1, slots := 3, locals := 18 } : Room).cells ({ frames := 1, cells := 1, slots := 3, locals := 18 } : Room).slots) := by
  refine MetFree.of_bodySF (plainFor_of_name pn_java_lang_StringUTF16) hisR ?_
  intro p e s m args below meth c s₁ Bd hml0 hP hK
  obtain ⟨rfl, hZ, hh⟩ := hP
  have hx := Bd.exec
  have hby := Bd.bytes
  have hlk : meth.locks = false := BodyLoose.notSynchronized Bd
  have hml : c.maxLocals = 6 := hml0
  have hown : s.vm.findClass "java/lang/StringUTF16" = some m.cls := findClass_of_methodNamed Bd.named
  have hnm := (name_of_methodNamed Bd.named Bd.method).1
  have X0 : Stand p l e ({ frames := 1, cells := 1, slots := 3, locals := 18 } : Room) s m #[(.ref aa), (.int (0 : Int32)), (.int (3 : Int32))] below meth c s₁ [] 0 0 := Stand.of_body Bd
  have e0 : s₁.heap = h0 := by rw [← hh, Bd.state]; rfl
  have N0 := Fr.nil n0
  suffices hgo : Go p e below s 1 3 (Q4_3 Z aa ka ca cb cc h0 n0) (s₁.setTop (mkF m 0 #[.val (.ref aa), .val (.int (0 : Int32)), .val (.int (3 : Int32)), .unset, .unset, .unset] [])) by
    obtain ⟨t, o, h1, h2⟩ := hgo; exact ⟨t, o, castTop (ef_rm4_3 m aa) h1, h2⟩
  show Go p e below s _ _ _ (s₁.setTop (mkF m 0 #[.val (.ref aa), .val (.int (0 : Int32)), .val (.int (3 : Int32)), .unset, .unset, .unset] []))
  refine Go.st (fun _ k' => XS.iloadN X0.here hx rfl (hb hby d4_0) rfl k') ?_
  show Go p e below s _ _ _ (s₁.setTop (mkF m 1 #[.val (.ref aa), .val (.int (0 : Int32)), .val (.int (3 : Int32)), .unset, .unset, .unset] [(.int (3 : Int32))]))
  obtain ⟨T1, h1, k1, X1, e1, E1, A1, st1⟩ := newP X0 hx hZ (wdx hw 19 rfl) e0 (g := (mkF m 1 #[.val (.ref aa), .val (.int (0 : Int32)), .val (.int (3 : Int32)), .unset, .unset, .unset] [(.int (3 : Int32))])) rfl (hb hby d4_1) rfl (by decide) (cap := 3) (by decide) (by decide) (by decide) (by decide)
  obtain ⟨b1, g1⟩ : ∃ z, z = h0.size := ⟨_, rfl⟩
  rw [← g1] at A1 st1
  refine Go.st st1 ?_
  have g_b1 : n0 ≤ b1 := Nat.le_trans (own_le O0) (Nat.le_of_eq g1.symm)
  have z_b1 : h0.size ≤ b1 := Nat.le_of_eq g1.symm
  have ne2 : aa ≠ b1 := Nat.ne_of_lt (Nat.lt_of_lt_of_le Va.lt (Nat.le_of_eq g1.symm))
  have f3 : Arv Z h1 aa ka .char (3 : Int32) [(.int ca), (.int cb), (.int cc)] (.int (0 : Int32)) := Va.ext E1
  have O1 : Old Z n0 h1 := O0.ext E1
  have K1 : Keep h0 h1 [] := (Keep.refl h0 []).ext E1
  have f4 : Arv Z h1 b1 k1 .byte (3 : Int32) [(.int (0 : Int32)), (.int (0 : Int32)), (.int (0 : Int32))] (.int (0 : Int32)) := (Arv.new A1 (by decide)).pad (pad_rep [] (.int (0 : Int32)) 3)
  show Go p e below s _ _ _ (T1.setTop (mkF m 3 #[.val (.ref aa), .val (.int (0 : Int32)), .val (.int (3 : Int32)), .unset, .unset, .unset] [(.ref b1)]))
  refine Go.st (fun _ k' => XS.astoreN X1.here hx rfl (hb hby d4_3) rfl rfl (l' := #[.val (.ref aa), .val (.int (0 : Int32)), .val (.int (3 : Int32)), .val (.ref b1), .unset, .unset]) rfl k') ?_
  show Go p e below s _ _ _ (T1.setTop (mkF m 4 #[.val (.ref aa), .val (.int (0 : Int32)), .val (.int (3 : Int32)), .val (.ref b1), .unset, .unset] []))
  refine Go.st (fun _ k' => XS.aloadN X1.here hx rfl (hb hby d4_4) rfl rfl k') ?_
  show Go p e below s _ _ _ (T1.setTop (mkF m 5 #[.val (.ref aa), .val (.int (0 : Int32)), .val (.int (3 : Int32)), .val (.ref b1), .unset, .unset] [(.ref aa)]))
  refine Go.st (fun _ k' => XS.iloadN X1.here hx rfl (hb hby d4_5) rfl k') ?_
  show Go p e below s _ _ _ (T1.setTop (mkF m 6 #[.val (.ref aa), .val (.int (0 : Int32)), .val (.int (3 : Int32)), .val (.ref b1), .unset, .unset] [(.int (0 : Int32)), (.ref aa)]))
  refine Go.st (fun _ k' => XS.aloadN X1.here hx rfl (hb hby d4_6) rfl rfl k') ?_
  show Go p e below s _ _ _ (T1.setTop (mkF m 7 #[.val (.ref aa), .val (.int (0 : Int32)), .val (.int (3 : Int32)), .val (.ref b1), .unset, .unset] [(.ref b1), (.int (0 : Int32)), (.ref aa)]))
  refine Go.st (fun _ k' => XS.iconst X1.here hx rfl (hb hby d4_7) k') ?_
  show Go p e below s _ _ _ (T1.setTop (mkF m 8 #[.val (.ref aa), .val (.int (0 : Int32)), .val (.int (3 : Int32)), .val (.ref b1), .unset, .unset] [(.int (0 : Int32)), (.ref b1), (.int (0 : Int32)), (.ref aa)]))
  refine Go.st (fun _ k' => XS.iloadN X1.here hx rfl (hb hby d4_8) rfl k') ?_
  show Go p e below s _ _ _ (T1.setTop (mkF m 9 #[.val (.ref aa), .val (.int (0 : Int32)), .val (.int (3 : Int32)), .val (.ref b1), .unset, .unset] [(.int (3 : Int32)), (.int (0 : Int32)), (.ref b1), (.int (0 : Int32)), (.ref aa)]))
  obtain ⟨_, _, ⟨T5, L5, k5, n5⟩, -, X5, ⟨Lc5, hQ5, l5, y5, z5⟩, st5⟩ := Jvm.LawKit.callS X1 hx (y := (⟨"java/lang/StringUTF16", "compress", "([CI[BII)I"⟩ : MethodName)) hown (mvT hZ (wdx hw 20 rfl)) (mvT hZ (wdx hw 21 rfl)) (mvT hZ (wdx hw 17 rfl)) (mvT hZ (wdx hw 22 rfl)) (by decide) (backOf (W := 0) (rm5_3 l Z a0 hw [] aa b1 ka k1 ca cb cc h1 n0 O1 f3 f4 q_ca q_cb q_cc g_b1 ne2) hZ (wdx hw 22 rfl) (wdx hw 17 rfl) (by decide) (by decide)) (g := (mkF m 9 #[.val (.ref aa), .val (.int (0 : Int32)), .val (.int (3 : Int32)), .val (.ref b1), .unset, .unset] [(.int (3 : Int32)), (.int (0 : Int32)), (.ref b1), (.int (0 : Int32)), (.ref aa)])) rfl (by rw [hml]; rfl) (argsL := [(.ref aa), (.int (0 : Int32)), (.ref b1), (.int (0 : Int32)), (.int (3 : Int32))]) (rest := []) (lenOf pd___CI_BII_I rfl) rfl (by show 2 * 0 + _ ≤ _; exact Nat.le_of_eq rfl) (hb hby d4_9) (fun _ _ => ⟨rfl, e1, (by exact Nat.le_of_ble_eq_true rfl), (by exact Nat.le_of_ble_eq_true rfl)⟩)
  dsimp only [Pt.U, Pt.locs, Pt.cells, Pt.slots] at X5 l5 y5 z5 st5 hQ5
  subst l5 y5 z5
  obtain ⟨rfl, Nq5, Kq5, f6⟩ := hQ5
  have N5 := Fr.app N0 Nq5
  refine Go.st st5 ?_
  have f7 : Arv Z T5.heap aa ka .char (3 : Int32) [(.int ca), (.int cb), (.int cc)] (.int (0 : Int32)) := f3.keep Kq5 (ninS ne2 nin0)
  have O5 : Old Z n0 T5.heap := O1.keep Kq5 (allS g_b1 all0)
  have K5 : Keep h0 T5.heap [] := K1.trans Kq5 (allS (Or.inr z_b1) all0)
  show Go p e below s _ _ _ (T5.setTop (mkF m 12 #[.val (.ref aa), .val (.int (0 : Int32)), .val (.int (3 : Int32)), .val (.ref b1), .unset, .unset] [(.int (3 : Int32))]))
  refine Go.st (fun _ k' => XS.istore X5.here hx rfl (hb hby d4_12) rfl (l' := #[.val (.ref aa), .val (.int (0 : Int32)), .val (.int (3 : Int32)), .val (.ref b1), .val (.int (3 : Int32)), .unset]) rfl k') ?_
  show Go p e below s _ _ _ (T5.setTop (mkF m 14 #[.val (.ref aa), .val (.int (0 : Int32)), .val (.int (3 : Int32)), .val (.ref b1), .val (.int (3 : Int32)), .unset] []))
  refine Go.st (fun _ k' => XS.iload X5.here hx rfl (hb hby d4_14) rfl k') ?_
  show Go p e below s _ _ _ (T5.setTop (mkF m 16 #[.val (.ref aa), .val (.int (0 : Int32)), .val (.int (3 : Int32)), .val (.ref b1), .val (.int (3 : Int32)), .unset] [(.int (3 : Int32))]))
  refine Go.st (fun _ k' => XS.iloadN X5.here hx rfl (hb hby d4_16) rfl k') ?_
  show Go p e below s _ _ _ (T5.setTop (mkF m 17 #[.val (.ref aa), .val (.int (0 : Int32)), .val (.int (3 : Int32)), .val (.ref b1), .val (.int (3 : Int32)), .unset] [(.int (3 : Int32)), (.int (3 : Int32))]))
  refine Go.st (fun _ k' => XS.icmpYes X5.here hx rfl (pc0 := 17) (pc' := 57) rfl (hb hby d4_17) rfl (XT.ii_eq_t (by decide)) (by decide) (by decide) k') ?_
  show Go p e below s _ _ _ (T5.setTop (mkF m 57 #[.val (.ref aa), .val (.int (0 : Int32)), .val (.int (3 : Int32)), .val (.ref b1), .val (.int (3 : Int32)), .unset] []))
  refine Go.st (fun _ k' => XS.aloadN X5.here hx rfl (hb hby d4_57) rfl rfl k') ?_
  show Go p e below s _ _ _ (T5.setTop (mkF m 58 #[.val (.ref aa), .val (.int (0 : Int32)), .val (.int (3 : Int32)), .val (.ref b1), .val (.int (3 : Int32)), .unset] [(.ref b1)]))
  refine Go.ret X5 hx hlk (t := (.array .byte)) Bd.returns rfl (Or.inr (Or.inr (Or.inr (Or.inr ⟨rfl, rfl, rfl⟩)))) (hb hby d4_58) (by decide) (by decide) rfl ?_
  exact ⟨b1, k1, rfl, N5, K5, f6, z_b1⟩
theorem ef_rm6_3 (m : MethodId) (bb : Addr) : entryFrame m #[(.ref bb), (.int (3 : Int32))] 2 = mkF m 0 #[.val (.ref bb), .val (.int (3 : Int32))] [] := by first | (simp [entryFrame, mkF, argsToLocals, Value.category]; done) | rfl
def Q6_3 (Z : State) (bb : Addr) (kb : ClassId) (ca : Int32) (cb : Int32) (cc : Int32) (h0 : Heap) (n0 : Nat) (v : Option Value) (h : Heap) (L : List Loc) : Prop := v = some (.int (0 : Int32)) ∧ Fr n0 L ∧ h = h0
set_option maxRecDepth 65536 in
set_option maxHeartbeats 40000000 in
theorem rm6_3 (l : Launch) (Z : State) (a0 : Array Value) (hw : ∀ d ∈ tables_1, d.before a0 Z = true) (ws : List Jvm.Cond) (bb : Addr) (kb : ClassId) (ca : Int32) (cb : Int32) (cc : Int32) (h0 : Heap) (n0 : Nat) (O0 : Old Z n0 h0) (Vb : Arv Z h0 bb kb .byte (3 : Int32) [(.int ca), (.int cb), (.int cc)] (.int (0 : Int32))) :
    MetFree l (⟨"java/lang/StringUTF16", "coderFromArrayLen", "([BI)B"⟩ : MethodName) (head1 (Jvm.Cond.code (⟨"java/lang/StringUTF16", "coderFromArrayLen", "([BI)B"⟩ : MethodName) jdk_52_method_15_code 2 (some .byte) :: ws) ({ frames := 0, cells := 0, slots := 0, locals := 0 } : Room)) (fun ay U => ay = #[(.ref bb), (.int (3 : Int32))] ∧ Z.Warmed39 U.vm ∧ U.heap = h0) (fun _ _ _ _ _ => True) (fun _ U o U' => ∃ v L, o = .returned v ∧ Q6_3 Z bb kb ca cb cc h0 n0 v U'.heap L ∧ FrameEnd U o U' L ({ frames := 0, cells := 0, slots := 0, locals := 0 } : Room).cells ({ frames := 0, cells := 0, slots := 0, locals := 0 } : Room).slots) := by
  refine MetFree.of_bodySF (plainFor_of_name pn_java_lang_StringUTF16) hisR ?_
  intro p e s m args below meth c s₁ Bd hml0 hP hK
  obtain ⟨rfl, hZ, hh⟩ := hP
  have hx := Bd.exec
  have hby := Bd.bytes
  have hlk : meth.locks = false := BodyLoose.notSynchronized Bd
  have hml : c.maxLocals = 2 := hml0
  have hown : s.vm.findClass "java/lang/StringUTF16" = some m.cls := findClass_of_methodNamed Bd.named
  have hnm := (name_of_methodNamed Bd.named Bd.method).1
  have X0 : Stand p l e ({ frames := 0, cells := 0, slots := 0, locals := 0 } : Room) s m #[(.ref bb), (.int (3 : Int32))] below meth c s₁ [] 0 0 := Stand.of_body Bd
  have e0 : s₁.heap = h0 := by rw [← hh, Bd.state]; rfl
  have N0 := Fr.nil n0
  suffices hgo : Go p e below s 0 0 (Q6_3 Z bb kb ca cb cc h0 n0) (s₁.setTop (mkF m 0 #[.val (.ref bb), .val (.int (3 : Int32))] [])) by
    obtain ⟨t, o, h1, h2⟩ := hgo; exact ⟨t, o, castTop (ef_rm6_3 m bb) h1, h2⟩
  show Go p e below s _ _ _ (s₁.setTop (mkF m 0 #[.val (.ref bb), .val (.int (3 : Int32))] []))
  refine Go.st (fun _ k' => XS.iloadN X0.here hx rfl (hb hby d6_0) rfl k') ?_
  show Go p e below s _ _ _ (s₁.setTop (mkF m 1 #[.val (.ref bb), .val (.int (3 : Int32))] [(.int (3 : Int32))]))
  refine Go.st (fun _ k' => XS.aloadN X0.here hx rfl (hb hby d6_1) rfl rfl k') ?_
  show Go p e below s _ _ _ (s₁.setTop (mkF m 2 #[.val (.ref bb), .val (.int (3 : Int32))] [(.ref bb), (.int (3 : Int32))]))
  obtain ⟨cl1, Ar1, qc1, Sz1, Nn1, Ha1, Gf1⟩ := id Vb
  refine Go.st (fun _ k' => X0.arraylength hx (by rw [e0]; exact Ar1.1) (State.isArrayOf_alike hZ.alike Ar1.2.1) (g := (mkF m 2 #[.val (.ref bb), .val (.int (3 : Int32))] [(.ref bb), (.int (3 : Int32))])) rfl rfl (hb hby d6_2) _ k') ?_
  rw [len_of Sz1 Nn1]
  show Go p e below s _ _ _ (s₁.setTop (mkF m 3 #[.val (.ref bb), .val (.int (3 : Int32))] [(.int (3 : Int32)), (.int (3 : Int32))]))
  refine Go.st (fun _ k' => XS.isub X0.here hx rfl (hb hby d6_3) rfl k') ?_
  show Go p e below s _ _ _ (s₁.setTop (mkF m 4 #[.val (.ref bb), .val (.int (3 : Int32))] [(.int (0 : Int32))]))
  refine Go.st (fun _ k' => XS.bipush X0.here hx rfl (hb hby d6_4) k') ?_
  show Go p e below s _ _ _ (s₁.setTop (mkF m 6 #[.val (.ref bb), .val (.int (3 : Int32))] [(.int (31 : Int32)), (.int (0 : Int32))]))
  refine Go.st (fun _ k' => XS.iushr X0.here hx rfl (hb hby d6_6) rfl k') ?_
  show Go p e below s _ _ _ (s₁.setTop (mkF m 7 #[.val (.ref bb), .val (.int (3 : Int32))] [(.int (((0 : Int32).toUInt32 >>> ((31 : Int32) &&& 31).toUInt32).toInt32))]))
  refine Go.st (fun _ k' => XS.i2b X0.here hx rfl (hb hby d6_7) rfl k') ?_
  show Go p e below s _ _ _ (s₁.setTop (mkF m 8 #[.val (.ref bb), .val (.int (3 : Int32))] [(.int ((((0 : Int32).toUInt32 >>> ((31 : Int32) &&& 31).toUInt32).toInt32).toInt8.toInt32))]))
  refine Go.retB X0 hx hlk (t := .byte) Bd.returns (by simp) (hb hby d6_8) (by decide) (by decide) e0 ?_
  exact ⟨rfl, N0, rfl⟩
theorem ef_rm2_3 (m : MethodId) (ob : Addr) (aa : Addr) : entryFrame m #[(.ref ob), (.ref aa), (.int (0 : Int32)), (.int (3 : Int32)), .null] 6 = mkF m 0 #[.val (.ref ob), .val (.ref aa), .val (.int (0 : Int32)), .val (.int (3 : Int32)), .val .null, .unset] [] := by first | (simp [entryFrame, mkF, argsToLocals, Value.category]; done) | rfl
def Q2_3 (Z : State) (ob : Addr) (aa : Addr) (ka : ClassId) (cs : Int32) (ca : Int32) (cb : Int32) (cc : Int32) (h0 : Heap) (n0 : Nat) (v : Option Value) (h : Heap) (L : List Loc) : Prop := v = none ∧ Fr n0 L ∧ Keep h0 h [ob]
set_option maxRecDepth 65536 in
set_option maxHeartbeats 40000000 in
theorem rm2_3 (l : Launch) (Z : State) (a0 : Array Value) (hw : ∀ d ∈ tables_1, d.before a0 Z = true) (ws : List Jvm.Cond) (ob : Addr) (aa : Addr) (ka : ClassId) (cs : Int32) (ca : Int32) (cb : Int32) (cc : Int32) (h0 : Heap) (n0 : Nat) (O0 : Old Z n0 h0) (E_o : Exa Z h0 ob "java/lang/String") (Fv : Fld Z h0 ob "java/lang/String" "value" "[B" .null) (Fc : Fld Z h0 ob "java/lang/String" "coder" "B" (.int (0 : Int32))) (Va : Arv Z h0 aa ka .char (3 : Int32) [(.int ca), (.int cb), (.int cc)] (.int (0 : Int32))) (S_cs : Sta Z Z.heap "java/lang/String" "COMPACT_STRINGS" "Z" (.int cs)) (q_cs : ¬ cs = (0 : Int32)) (q_ca : ¬ (255 : Int32) < ca) (q_cb : ¬ (255 : Int32) < cb) (q_cc : ¬ (255 : Int32) < cc) (g_o : n0 ≤ ob) (ne_oa : ob ≠ aa) :
    MetFree l (⟨"java/lang/String", "<init>", "([CIILjava/lang/Void;)V"⟩ : MethodName) (head1 (Jvm.Cond.code (⟨"java/lang/String", "<init>", "([CIILjava/lang/Void;)V"⟩ : MethodName) jdk_42_method_149_code 6 none :: ws) ({ frames := 2, cells := 1, slots := 3, locals := 35 } : Room)) (fun ay U => ay = #[(.ref ob), (.ref aa), (.int (0 : Int32)), (.int (3 : Int32)), .null] ∧ Z.Warmed39 U.vm ∧ U.heap = h0) (fun _ _ _ _ _ => True) (fun _ U o U' => ∃ v L, o = .returned v ∧ Q2_3 Z ob aa ka cs ca cb cc h0 n0 v U'.heap L ∧ FrameEnd U o U' L ({ frames := 2, cells := 1, slots := 3, locals := 35 } : Room).cells ({ frames := 2, cells := 1, slots := 3, locals := 35 } : Room).slots) := by
  refine MetFree.of_bodySF (plainFor_of_name pn_java_lang_String) hisR ?_
  intro p e s m args below meth c s₁ Bd hml0 hP hK
  obtain ⟨rfl, hZ, hh⟩ := hP
  have hx := Bd.exec
  have hby := Bd.bytes
  have hlk : meth.locks = false := BodyLoose.notSynchronized Bd
  have hml : c.maxLocals = 6 := hml0
  have hown : s.vm.findClass "java/lang/String" = some m.cls := findClass_of_methodNamed Bd.named
  have hnm := (name_of_methodNamed Bd.named Bd.method).1
  have X0 : Stand p l e ({ frames := 2, cells := 1, slots := 3, locals := 35 } : Room) s m #[(.ref ob), (.ref aa), (.int (0 : Int32)), (.int (3 : Int32)), .null] below meth c s₁ [] 0 0 := Stand.of_body Bd
  have e0 : s₁.heap = h0 := by rw [← hh, Bd.state]; rfl
  have N0 := Fr.nil n0
  suffices hgo : Go p e below s 1 3 (Q2_3 Z ob aa ka cs ca cb cc h0 n0) (s₁.setTop (mkF m 0 #[.val (.ref ob), .val (.ref aa), .val (.int (0 : Int32)), .val (.int (3 : Int32)), .val .null, .unset] [])) by
    obtain ⟨t, o, h1, h2⟩ := hgo; exact ⟨t, o, castTop (ef_rm2_3 m ob aa) h1, h2⟩
  show Go p e below s _ _ _ (s₁.setTop (mkF m 0 #[.val (.ref ob), .val (.ref aa), .val (.int (0 : Int32)), .val (.int (3 : Int32)), .val .null, .unset] []))
  refine Go.st (fun _ k' => XS.aloadN X0.here hx rfl (hb hby d2_0) rfl rfl k') ?_
  show Go p e below s _ _ _ (s₁.setTop (mkF m 1 #[.val (.ref ob), .val (.ref aa), .val (.int (0 : Int32)), .val (.int (3 : Int32)), .val .null, .unset] [(.ref ob)]))
  obtain ⟨T1, X1, e1, st1⟩ := initO X0 hx hZ hown (wdx hw 11 rfl) (wdx hw 12 rfl) (wdx hw 13 rfl) e0 (g := (mkF m 1 #[.val (.ref ob), .val (.ref aa), .val (.int (0 : Int32)), .val (.int (3 : Int32)), .val .null, .unset] [(.ref ob)])) rfl (by rw [hml]; rfl) rfl (hb hby d2_1) (by decide) (W := 0) (by show 2 * 0 + _ ≤ _; exact Nat.le_of_eq rfl) (by decide)
  refine Go.st st1 ?_
  show Go p e below s _ _ _ (T1.setTop (mkF m 4 #[.val (.ref ob), .val (.ref aa), .val (.int (0 : Int32)), .val (.int (3 : Int32)), .val .null, .unset] []))
  refine Go.st (fun _ k' => XS.iloadN X1.here hx rfl (hb hby d2_4) rfl k') ?_
  show Go p e below s _ _ _ (T1.setTop (mkF m 5 #[.val (.ref ob), .val (.ref aa), .val (.int (0 : Int32)), .val (.int (3 : Int32)), .val .null, .unset] [(.int (3 : Int32))]))
  refine Go.st (fun _ k' => XS.ifYes X1.here hx rfl (pc0 := 5) (pc' := 27) rfl (hb hby d2_5) rfl (XT.i0_ne_t (by decide)) (by decide) (by decide) k') ?_
  show Go p e below s _ _ _ (T1.setTop (mkF m 27 #[.val (.ref ob), .val (.ref aa), .val (.int (0 : Int32)), .val (.int (3 : Int32)), .val .null, .unset] []))
  obtain ⟨T2, X2, e2, st2⟩ := getS2 X1 hx hZ hown (host := "") (Or.inl (wdx hw 14 rfl)) Via.refl e1 (S_cs.ext O0.2) (g := (mkF m 27 #[.val (.ref ob), .val (.ref aa), .val (.int (0 : Int32)), .val (.int (3 : Int32)), .val .null, .unset] [])) rfl (hb hby d2_27)
  refine Go.st st2 ?_
  show Go p e below s _ _ _ (T2.setTop (mkF m 30 #[.val (.ref ob), .val (.ref aa), .val (.int (0 : Int32)), .val (.int (3 : Int32)), .val .null, .unset] [(.int cs)]))
  refine Go.st (fun _ k' => XS.ifNo X2.here hx rfl (hb hby d2_30) rfl (XT.i0_eq_f q_cs) k') ?_
  show Go p e below s _ _ _ (T2.setTop (mkF m 33 #[.val (.ref ob), .val (.ref aa), .val (.int (0 : Int32)), .val (.int (3 : Int32)), .val .null, .unset] []))
  refine Go.st (fun _ k' => XS.aloadN X2.here hx rfl (hb hby d2_33) rfl rfl k') ?_
  show Go p e below s _ _ _ (T2.setTop (mkF m 34 #[.val (.ref ob), .val (.ref aa), .val (.int (0 : Int32)), .val (.int (3 : Int32)), .val .null, .unset] [(.ref aa)]))
  refine Go.st (fun _ k' => XS.iloadN X2.here hx rfl (hb hby d2_34) rfl k') ?_
  show Go p e below s _ _ _ (T2.setTop (mkF m 35 #[.val (.ref ob), .val (.ref aa), .val (.int (0 : Int32)), .val (.int (3 : Int32)), .val .null, .unset] [(.int (0 : Int32)), (.ref aa)]))
  refine Go.st (fun _ k' => XS.iloadN X2.here hx rfl (hb hby d2_35) rfl k') ?_
  show Go p e below s _ _ _ (T2.setTop (mkF m 36 #[.val (.ref ob), .val (.ref aa), .val (.int (0 : Int32)), .val (.int (3 : Int32)), .val .null, .unset] [(.int (3 : Int32)), (.int (0 : Int32)), (.ref aa)]))
  obtain ⟨_, _, ⟨T3, L3, k3, n3⟩, -, X3, ⟨Lc3, hQ3, l3, y3, z3⟩, st3⟩ := Jvm.LawKit.callS X2 hx (y := (⟨"java/lang/StringUTF16", "compress", "([CII)[B"⟩ : MethodName)) hown (mvT hZ (wdx hw 15 rfl)) (mvT hZ (wdx hw 16 rfl)) (mvT hZ (wdx hw 17 rfl)) (mvT hZ (wdx hw 18 rfl)) (by decide) (backOf (W := 0) (rm4_3 l Z a0 hw [] aa ka ca cb cc h0 n0 O0 Va q_ca q_cb q_cc) hZ (wdx hw 18 rfl) (wdx hw 17 rfl) (by decide) (by decide)) (g := (mkF m 36 #[.val (.ref ob), .val (.ref aa), .val (.int (0 : Int32)), .val (.int (3 : Int32)), .val .null, .unset] [(.int (3 : Int32)), (.int (0 : Int32)), (.ref aa)])) rfl (by rw [hml]; rfl) (argsL := [(.ref aa), (.int (0 : Int32)), (.int (3 : Int32))]) (rest := []) (lenOf pd___CII__B rfl) rfl (by show 2 * 0 + _ ≤ _; exact Nat.le_of_eq rfl) (hb hby d2_36) (fun _ _ => ⟨rfl, e2, (by exact Nat.le_of_ble_eq_true rfl), (by exact Nat.le_of_ble_eq_true rfl)⟩)
  dsimp only [Pt.U, Pt.locs, Pt.cells, Pt.slots] at X3 l3 y3 z3 st3 hQ3
  subst l3 y3 z3
  obtain ⟨rr_3, kr_3, rfl, Nq3, Kq3, f4, szr_3⟩ := hQ3
  have N3 := Fr.app N0 Nq3
  refine Go.st st3 ?_
  have f5 : Exa Z T3.heap ob "java/lang/String" := E_o.keep Kq3
  have f6 : Fld Z T3.heap ob "java/lang/String" "value" "[B" .null := Fv.keep Kq3 nin0
  have f7 : Fld Z T3.heap ob "java/lang/String" "coder" "B" (.int (0 : Int32)) := Fc.keep Kq3 nin0
  have f8 : Arv Z T3.heap aa ka .char (3 : Int32) [(.int ca), (.int cb), (.int cc)] (.int (0 : Int32)) := Va.keep Kq3 nin0
  have O3 : Old Z n0 T3.heap := O0.keep Kq3 all0
  have K3 : Keep h0 T3.heap [ob] := (Keep.refl h0 [ob]).trans Kq3 all0
  have g_rr_3 : n0 ≤ rr_3 := Nat.le_trans (own_le O0) szr_3
  have z_rr_3 : h0.size ≤ rr_3 := szr_3
  have ne9 : ob ≠ rr_3 := Nat.ne_of_lt (Nat.lt_of_lt_of_le E_o.lt szr_3)
  have ne10 : aa ≠ rr_3 := Nat.ne_of_lt (Nat.lt_of_lt_of_le Va.lt szr_3)
  show Go p e below s _ _ _ (T3.setTop (mkF m 39 #[.val (.ref ob), .val (.ref aa), .val (.int (0 : Int32)), .val (.int (3 : Int32)), .val .null, .unset] [(.ref rr_3)]))
  refine Go.st (fun _ k' => XS.astore X3.here hx rfl (hb hby d2_39) rfl rfl (l' := #[.val (.ref ob), .val (.ref aa), .val (.int (0 : Int32)), .val (.int (3 : Int32)), .val .null, .val (.ref rr_3)]) rfl k') ?_
  show Go p e below s _ _ _ (T3.setTop (mkF m 41 #[.val (.ref ob), .val (.ref aa), .val (.int (0 : Int32)), .val (.int (3 : Int32)), .val .null, .val (.ref rr_3)] []))
  refine Go.st (fun _ k' => XS.aloadN X3.here hx rfl (hb hby d2_41) rfl rfl k') ?_
  show Go p e below s _ _ _ (T3.setTop (mkF m 42 #[.val (.ref ob), .val (.ref aa), .val (.int (0 : Int32)), .val (.int (3 : Int32)), .val .null, .val (.ref rr_3)] [(.ref ob)]))
  refine Go.st (fun _ k' => XS.aload X3.here hx rfl (hb hby d2_42) rfl rfl k') ?_
  show Go p e below s _ _ _ (T3.setTop (mkF m 44 #[.val (.ref ob), .val (.ref aa), .val (.int (0 : Int32)), .val (.int (3 : Int32)), .val .null, .val (.ref rr_3)] [(.ref rr_3), (.ref ob)]))
  refine Go.st (fun _ k' => XS.iloadN X3.here hx rfl (hb hby d2_44) rfl k') ?_
  show Go p e below s _ _ _ (T3.setTop (mkF m 45 #[.val (.ref ob), .val (.ref aa), .val (.int (0 : Int32)), .val (.int (3 : Int32)), .val .null, .val (.ref rr_3)] [(.int (3 : Int32)), (.ref rr_3), (.ref ob)]))
  obtain ⟨_, _, ⟨T11, L11, k11, n11⟩, -, X11, ⟨Lc11, hQ11, l11, y11, z11⟩, st11⟩ := Jvm.LawKit.callS X3 hx (y := (⟨"java/lang/StringUTF16", "coderFromArrayLen", "([BI)B"⟩ : MethodName)) hown (mvT hZ (wdx hw 23 rfl)) (mvT hZ (wdx hw 24 rfl)) (mvT hZ (wdx hw 17 rfl)) (mvT hZ (wdx hw 25 rfl)) (by decide) (backOf (W := 1) (rm6_3 l Z a0 hw [] rr_3 kr_3 (nar .byte (ca.toInt8.toInt32)) (nar .byte (cb.toInt8.toInt32)) (nar .byte (cc.toInt8.toInt32)) T3.heap n0 O3 f4) hZ (wdx hw 25 rfl) (wdx hw 17 rfl) (by decide) (by decide)) (g := (mkF m 45 #[.val (.ref ob), .val (.ref aa), .val (.int (0 : Int32)), .val (.int (3 : Int32)), .val .null, .val (.ref rr_3)] [(.int (3 : Int32)), (.ref rr_3), (.ref ob)])) rfl (by rw [hml]; rfl) (argsL := [(.ref rr_3), (.int (3 : Int32))]) (rest := [(.ref ob)]) (lenOf pd___BI_B rfl) rfl (by show 2 * 0 + _ ≤ _; exact Nat.le_of_eq rfl) (hb hby d2_45) (fun _ _ => ⟨rfl, rfl, (by exact Nat.le_of_ble_eq_true rfl), (by exact Nat.le_of_ble_eq_true rfl)⟩)
  dsimp only [Pt.U, Pt.locs, Pt.cells, Pt.slots] at X11 l11 y11 z11 st11 hQ11
  subst l11 y11 z11
  obtain ⟨rfl, Nq11, eq11⟩ := hQ11
  have N11 := Fr.app N3 Nq11
  refine Go.st st11 ?_
  show Go p e below s _ _ _ (T11.setTop (mkF m 48 #[.val (.ref ob), .val (.ref aa), .val (.int (0 : Int32)), .val (.int (3 : Int32)), .val .null, .val (.ref rr_3)] [(.int (0 : Int32)), (.ref ob)]))
  obtain ⟨T12, h12, X12, e12, W12, st12⟩ := putFN X11 hx hZ hown (wdx hw 26 rfl) Via.refl eq11 f7 f5 (Or.inr ⟨(wdx hw 27 rfl), rfl, hnm⟩) (wdx hw 1 rfl) (ty := .byte) (v' := (.int (0 : Int32))) (by decide) rfl rfl (g := (mkF m 48 #[.val (.ref ob), .val (.ref aa), .val (.int (0 : Int32)), .val (.int (3 : Int32)), .val .null, .val (.ref rr_3)] [(.int (0 : Int32)), (.ref ob)])) rfl rfl (hb hby d2_48)
  refine Go.st st12 ?_
  have f13 : Exa Z h12 ob "java/lang/String" := f5.wr W12
  have f14 : Fld Z h12 ob "java/lang/String" "value" "[B" .null := f6.other W12 (Or.inr (slot_ne (Or.inr (wdx hw 29 rfl)) (Or.inr (wdx hw 27 rfl)) (by decide) (t := (.array .byte)) (t' := .byte) (by decide) (by decide)))
  have f15 : Fld Z h12 ob "java/lang/String" "coder" "B" (.int (0 : Int32)) := f7.same W12
  have f16 : Arv Z h12 aa ka .char (3 : Int32) [(.int ca), (.int cb), (.int cc)] (.int (0 : Int32)) := f8.other W12 (Ne.symm ne_oa)
  have f17 : Arv Z h12 rr_3 kr_3 .byte (3 : Int32) [(.int (nar .byte (ca.toInt8.toInt32))), (.int (nar .byte (cb.toInt8.toInt32))), (.int (nar .byte (cc.toInt8.toInt32)))] (.int (0 : Int32)) := f4.other W12 (Ne.symm ne9)
  have O12 : Old Z n0 h12 := O3.wr W12 g_o
  have N12 := Fr.snoc X12 N11 g_o
  have K12 : Keep h0 h12 [ob] := K3.wr W12 (Or.inl (by simp))
  show Go p e below s _ _ _ (T12.setTop (mkF m 51 #[.val (.ref ob), .val (.ref aa), .val (.int (0 : Int32)), .val (.int (3 : Int32)), .val .null, .val (.ref rr_3)] []))
  refine Go.st (fun _ k' => XS.aloadN X12.here hx rfl (hb hby d2_51) rfl rfl k') ?_
  show Go p e below s _ _ _ (T12.setTop (mkF m 52 #[.val (.ref ob), .val (.ref aa), .val (.int (0 : Int32)), .val (.int (3 : Int32)), .val .null, .val (.ref rr_3)] [(.ref ob)]))
  refine Go.st (fun _ k' => XS.aload X12.here hx rfl (hb hby d2_52) rfl rfl k') ?_
  show Go p e below s _ _ _ (T12.setTop (mkF m 54 #[.val (.ref ob), .val (.ref aa), .val (.int (0 : Int32)), .val (.int (3 : Int32)), .val .null, .val (.ref rr_3)] [(.ref rr_3), (.ref ob)]))
  obtain ⟨T18, h18, X18, e18, W18, st18⟩ := putF X12 hx hZ hown (host := "") (Or.inl (wdx hw 28 rfl)) Via.refl e12 f14 f13 (Or.inr ⟨(wdx hw 29 rfl), rfl, hnm⟩) (wdx hw 1 rfl) (ty := (.array .byte)) (by decide) rfl rfl (g := (mkF m 54 #[.val (.ref ob), .val (.ref aa), .val (.int (0 : Int32)), .val (.int (3 : Int32)), .val .null, .val (.ref rr_3)] [(.ref rr_3), (.ref ob)])) rfl rfl (hb hby d2_54)
  refine Go.st st18 ?_
  have f19 : Exa Z h18 ob "java/lang/String" := f13.wr W18
  have f20 : Fld Z h18 ob "java/lang/String" "value" "[B" (.ref rr_3) := f14.same W18
  have f21 : Fld Z h18 ob "java/lang/String" "coder" "B" (.int (0 : Int32)) := f15.other W18 (Or.inr (slot_ne (Or.inr (wdx hw 27 rfl)) (Or.inr (wdx hw 29 rfl)) (by decide) (t := .byte) (t' := (.array .byte)) (by decide) (by decide)))
  have f22 : Arv Z h18 aa ka .char (3 : Int32) [(.int ca), (.int cb), (.int cc)] (.int (0 : Int32)) := f16.other W18 (Ne.symm ne_oa)
  have f23 : Arv Z h18 rr_3 kr_3 .byte (3 : Int32) [(.int (nar .byte (ca.toInt8.toInt32))), (.int (nar .byte (cb.toInt8.toInt32))), (.int (nar .byte (cc.toInt8.toInt32)))] (.int (0 : Int32)) := f17.other W18 (Ne.symm ne9)
  have O18 : Old Z n0 h18 := O12.wr W18 g_o
  have N18 := Fr.snoc X18 N12 g_o
  have K18 : Keep h0 h18 [ob] := K12.wr W18 (Or.inl (by simp))
  show Go p e below s _ _ _ (T18.setTop (mkF m 57 #[.val (.ref ob), .val (.ref aa), .val (.int (0 : Int32)), .val (.int (3 : Int32)), .val .null, .val (.ref rr_3)] []))
  refine Go.retV X18 hx hlk Bd.returns (hb hby d2_57) (by decide) (by decide) e18 ?_
  exact ⟨rfl, N18, K18⟩
theorem ef_rm1_3 (m : MethodId) (ob : Addr) (aa : Addr) : entryFrame m #[(.ref ob), (.ref aa)] 2 = mkF m 0 #[.val (.ref ob), .val (.ref aa)] [] := by first | (simp [entryFrame, mkF, argsToLocals, Value.category]; done) | rfl
def Q1_3 (Z : State) (ob : Addr) (aa : Addr) (ka : ClassId) (cs : Int32) (ca : Int32) (cb : Int32) (cc : Int32) (h0 : Heap) (n0 : Nat) (v : Option Value) (h : Heap) (L : List Loc) : Prop := v = none ∧ Fr n0 L ∧ Keep h0 h [ob]
set_option maxRecDepth 65536 in
set_option maxHeartbeats 40000000 in
theorem rm1_3 (l : Launch) (Z : State) (a0 : Array Value) (hw : ∀ d ∈ tables_1, d.before a0 Z = true) (ws : List Jvm.Cond) (ob : Addr) (aa : Addr) (ka : ClassId) (cs : Int32) (ca : Int32) (cb : Int32) (cc : Int32) (h0 : Heap) (n0 : Nat) (O0 : Old Z n0 h0) (E_o : Exa Z h0 ob "java/lang/String") (Fv : Fld Z h0 ob "java/lang/String" "value" "[B" .null) (Fc : Fld Z h0 ob "java/lang/String" "coder" "B" (.int (0 : Int32))) (Va : Arv Z h0 aa ka .char (3 : Int32) [(.int ca), (.int cb), (.int cc)] (.int (0 : Int32))) (S_cs : Sta Z Z.heap "java/lang/String" "COMPACT_STRINGS" "Z" (.int cs)) (q_cs : ¬ cs = (0 : Int32)) (q_ca : ¬ (255 : Int32) < ca) (q_cb : ¬ (255 : Int32) < cb) (q_cc : ¬ (255 : Int32) < cc) (g_o : n0 ≤ ob) (ne_oa : ob ≠ aa) :
    MetFree l (⟨"java/lang/String", "<init>", "([C)V"⟩ : MethodName) (head1 (Jvm.Cond.code (⟨"java/lang/String", "<init>", "([C)V"⟩ : MethodName) jdk_42_method_3_code 2 none :: ws) ({ frames := 3, cells := 1, slots := 3, locals := 52 } : Room)) (fun ay U => ay = #[(.ref ob), (.ref aa)] ∧ Z.Warmed39 U.vm ∧ U.heap = h0) (fun _ _ _ _ _ => True) (fun _ U o U' => ∃ v L, o = .returned v ∧ Q1_3 Z ob aa ka cs ca cb cc h0 n0 v U'.heap L ∧ FrameEnd U o U' L ({ frames := 3, cells := 1, slots := 3, locals := 52 } : Room).cells ({ frames := 3, cells := 1, slots := 3, locals := 52 } : Room).slots) := by
  refine MetFree.of_bodySF (plainFor_of_name pn_java_lang_String) hisR ?_
  intro p e s m args below meth c s₁ Bd hml0 hP hK
  obtain ⟨rfl, hZ, hh⟩ := hP
  have hx := Bd.exec
  have hby := Bd.bytes
  have hlk : meth.locks = false := BodyLoose.notSynchronized Bd
  have hml : c.maxLocals = 2 := hml0
  have hown : s.vm.findClass "java/lang/String" = some m.cls := findClass_of_methodNamed Bd.named
  have hnm := (name_of_methodNamed Bd.named Bd.method).1
  have X0 : Stand p l e ({ frames := 3, cells := 1, slots := 3, locals := 52 } : Room) s m #[(.ref ob), (.ref aa)] below meth c s₁ [] 0 0 := Stand.of_body Bd
  have e0 : s₁.heap = h0 := by rw [← hh, Bd.state]; rfl
  have N0 := Fr.nil n0
  suffices hgo : Go p e below s 1 3 (Q1_3 Z ob aa ka cs ca cb cc h0 n0) (s₁.setTop (mkF m 0 #[.val (.ref ob), .val (.ref aa)] [])) by
    obtain ⟨t, o, h1, h2⟩ := hgo; exact ⟨t, o, castTop (ef_rm1_3 m ob aa) h1, h2⟩
  show Go p e below s _ _ _ (s₁.setTop (mkF m 0 #[.val (.ref ob), .val (.ref aa)] []))
  refine Go.st (fun _ k' => XS.aloadN X0.here hx rfl (hb hby d1_0) rfl rfl k') ?_
  show Go p e below s _ _ _ (s₁.setTop (mkF m 1 #[.val (.ref ob), .val (.ref aa)] [(.ref ob)]))
  refine Go.st (fun _ k' => XS.aloadN X0.here hx rfl (hb hby d1_1) rfl rfl k') ?_
  show Go p e below s _ _ _ (s₁.setTop (mkF m 2 #[.val (.ref ob), .val (.ref aa)] [(.ref aa), (.ref ob)]))
  refine Go.st (fun _ k' => XS.iconst X0.here hx rfl (hb hby d1_2) k') ?_
  show Go p e below s _ _ _ (s₁.setTop (mkF m 3 #[.val (.ref ob), .val (.ref aa)] [(.int (0 : Int32)), (.ref aa), (.ref ob)]))
  refine Go.st (fun _ k' => XS.aloadN X0.here hx rfl (hb hby d1_3) rfl rfl k') ?_
  show Go p e below s _ _ _ (s₁.setTop (mkF m 4 #[.val (.ref ob), .val (.ref aa)] [(.ref aa), (.int (0 : Int32)), (.ref aa), (.ref ob)]))
  obtain ⟨cl1, Ar1, qc1, Sz1, Nn1, Ha1, Gf1⟩ := id Va
  refine Go.st (fun _ k' => X0.arraylength hx (by rw [e0]; exact Ar1.1) (State.isArrayOf_alike hZ.alike Ar1.2.1) (g := (mkF m 4 #[.val (.ref ob), .val (.ref aa)] [(.ref aa), (.int (0 : Int32)), (.ref aa), (.ref ob)])) rfl rfl (hb hby d1_4) _ k') ?_
  rw [len_of Sz1 Nn1]
  show Go p e below s _ _ _ (s₁.setTop (mkF m 5 #[.val (.ref ob), .val (.ref aa)] [(.int (3 : Int32)), (.int (0 : Int32)), (.ref aa), (.ref ob)]))
  refine Go.st (fun _ k' => XS.aconstNull X0.here hx rfl (hb hby d1_5) k') ?_
  show Go p e below s _ _ _ (s₁.setTop (mkF m 6 #[.val (.ref ob), .val (.ref aa)] [.null, (.int (3 : Int32)), (.int (0 : Int32)), (.ref aa), (.ref ob)]))
  obtain ⟨_, _, ⟨T2, L2, k2, n2⟩, -, X2, ⟨Lc2, hQ2, l2, y2, z2⟩, st2⟩ := X0.specialBack hx (y := (⟨"java/lang/String", "<init>", "([CIILjava/lang/Void;)V"⟩ : MethodName)) rfl hown (mvT hZ (wdx hw 7 rfl)) (mvT hZ (wdx hw 8 rfl)) (mvT hZ (wdx hw 10 rfl)) (by decide) (backOf (W := 0) (rm2_3 l Z a0 hw [] ob aa ka cs ca cb cc h0 n0 O0 E_o Fv Fc Va S_cs q_cs q_ca q_cb q_cc g_o ne_oa) hZ (wdx hw 10 rfl) (wdx hw 2 rfl) (by decide) (by decide)) (g := (mkF m 6 #[.val (.ref ob), .val (.ref aa)] [.null, (.int (3 : Int32)), (.int (0 : Int32)), (.ref aa), (.ref ob)])) rfl (by rw [hml]; rfl) (Steps.refl _) (a := ob) (argsL := [(.ref aa), (.int (0 : Int32)), (.int (3 : Int32)), .null]) (rest := []) (lenOf pd___CIILjava_lang_Void__V rfl) rfl (by show 2 * 0 + _ ≤ _; exact Nat.le_of_eq rfl) (hb hby d1_6) (fun _ _ => ⟨rfl, e0, (by exact Nat.le_of_ble_eq_true rfl), (by exact Nat.le_of_ble_eq_true rfl)⟩)
  dsimp only [Pt.U, Pt.locs, Pt.cells, Pt.slots] at X2 l2 y2 z2 st2 hQ2
  subst l2 y2 z2
  obtain ⟨rfl, Nq2, Kq2⟩ := hQ2
  have N2 := Fr.app N0 Nq2
  refine Go.tr st2 ?_
  have f3 : Exa Z T2.heap ob "java/lang/String" := E_o.keep Kq2
  have f4 : Arv Z T2.heap aa ka .char (3 : Int32) [(.int ca), (.int cb), (.int cc)] (.int (0 : Int32)) := Va.keep Kq2 (ninS (Ne.symm ne_oa) nin0)
  have O2 : Old Z n0 T2.heap := O0.keep Kq2 (allS g_o all0)
  have K2 : Keep h0 T2.heap [ob] := (Keep.refl h0 [ob]).trans Kq2 (allS (Or.inl (by simp)) all0)
  show Go p e below s _ _ _ (T2.setTop (mkF m 9 #[.val (.ref ob), .val (.ref aa)] []))
  refine Go.retV X2 hx hlk Bd.returns (hb hby d1_9) (by decide) (by decide) rfl ?_
  exact ⟨rfl, N2, K2⟩
theorem d12_0 : decode jdk_71_method_1_code 0 = .ok (.aload_n 0, 1) := by decide +kernel
theorem d12_1 : decode jdk_71_method_1_code 1 = .ok (.invokespecial 1, 3) := by decide +kernel
theorem d12_4 : decode jdk_71_method_1_code 4 = .ok (.return_, 1) := by decide +kernel
theorem pn_java_util_AbstractMap : plainName "java/util/AbstractMap" = true := by first | (simp [plainName, overriddenIn]; done) | decide +kernel
theorem ef_rm12 (m : MethodId) (ob : Addr) : entryFrame m #[(.ref ob)] 1 = mkF m 0 #[.val (.ref ob)] [] := by first | (simp [entryFrame, mkF, argsToLocals, Value.category]; done) | rfl
def Q12 (Z : State) (ob : Addr) (h0 : Heap) (n0 : Nat) (v : Option Value) (h : Heap) (L : List Loc) : Prop := v = none ∧ Fr n0 L ∧ h = h0
set_option maxRecDepth 65536 in
set_option maxHeartbeats 40000000 in
theorem rm12 (l : Launch) (Z : State) (a0 : Array Value) (hw : ∀ d ∈ tables_1, d.before a0 Z = true) (ws : List Jvm.Cond) (ob : Addr) (h0 : Heap) (n0 : Nat) (O0 : Old Z n0 h0) :
    MetFree l (⟨"java/util/AbstractMap", "<init>", "()V"⟩ : MethodName) (head1 (Jvm.Cond.code (⟨"java/util/AbstractMap", "<init>", "()V"⟩ : MethodName) jdk_71_method_1_code 1 none :: ws) ({ frames := 1, cells := 0, slots := 0, locals := 12 } : Room)) (fun ay U => ay = #[(.ref ob)] ∧ Z.Warmed39 U.vm ∧ U.heap = h0) (fun _ _ _ _ _ => True) (fun _ U o U' => ∃ v L, o = .returned v ∧ Q12 Z ob h0 n0 v U'.heap L ∧ FrameEnd U o U' L ({ frames := 1, cells := 0, slots := 0, locals := 12 } : Room).cells ({ frames := 1, cells := 0, slots := 0, locals := 12 } : Room).slots) := by
  refine MetFree.of_bodySF (plainFor_of_name pn_java_util_AbstractMap) hisR ?_
  intro p e s m args below meth c s₁ Bd hml0 hP hK
  obtain ⟨rfl, hZ, hh⟩ := hP
  have hx := Bd.exec
  have hby := Bd.bytes
  have hlk : meth.locks = false := BodyLoose.notSynchronized Bd
  have hml : c.maxLocals = 1 := hml0
  have hown : s.vm.findClass "java/util/AbstractMap" = some m.cls := findClass_of_methodNamed Bd.named
  have hnm := (name_of_methodNamed Bd.named Bd.method).1
  have X0 : Stand p l e ({ frames := 1, cells := 0, slots := 0, locals := 12 } : Room) s m #[(.ref ob)] below meth c s₁ [] 0 0 := Stand.of_body Bd
  have e0 : s₁.heap = h0 := by rw [← hh, Bd.state]; rfl
  have N0 := Fr.nil n0
  suffices hgo : Go p e below s 0 0 (Q12 Z ob h0 n0) (s₁.setTop (mkF m 0 #[.val (.ref ob)] [])) by
    obtain ⟨t, o, h1, h2⟩ := hgo; exact ⟨t, o, castTop (ef_rm12 m ob) h1, h2⟩
  show Go p e below s _ _ _ (s₁.setTop (mkF m 0 #[.val (.ref ob)] []))
  refine Go.st (fun _ k' => XS.aloadN X0.here hx rfl (hb hby d12_0) rfl rfl k') ?_
  show Go p e below s _ _ _ (s₁.setTop (mkF m 1 #[.val (.ref ob)] [(.ref ob)]))
  obtain ⟨T1, X1, e1, st1⟩ := initO X0 hx hZ hown (wdx hw 70 rfl) (wdx hw 12 rfl) (wdx hw 13 rfl) e0 (g := (mkF m 1 #[.val (.ref ob)] [(.ref ob)])) rfl (by rw [hml]; rfl) rfl (hb hby d12_1) (by decide) (W := 0) (by show 2 * 0 + _ ≤ _; exact Nat.le_of_eq rfl) (by decide)
  refine Go.st st1 ?_
  show Go p e below s _ _ _ (T1.setTop (mkF m 4 #[.val (.ref ob)] []))
  refine Go.retV X1 hx hlk Bd.returns (hb hby d12_4) (by decide) (by decide) e1 ?_
  exact ⟨rfl, N0, rfl⟩
theorem d10_0 : decode jdk_22_method_1_code 0 = .ok (.aload_n 0, 1) := by decide +kernel
theorem d10_1 : decode jdk_22_method_1_code 1 = .ok (.invokespecial 1, 3) := by decide +kernel
theorem d10_4 : decode jdk_22_method_1_code 4 = .ok (.return_, 1) := by decide +kernel
theorem pn_java_util_AbstractCollection : plainName "java/util/AbstractCollection" = true := by first | (simp [plainName, overriddenIn]; done) | decide +kernel
theorem ef_rm10 (m : MethodId) (ob : Addr) : entryFrame m #[(.ref ob)] 1 = mkF m 0 #[.val (.ref ob)] [] := by first | (simp [entryFrame, mkF, argsToLocals, Value.category]; done) | rfl
def Q10 (Z : State) (ob : Addr) (h0 : Heap) (n0 : Nat) (v : Option Value) (h : Heap) (L : List Loc) : Prop := v = none ∧ Fr n0 L ∧ h = h0
set_option maxRecDepth 65536 in
set_option maxHeartbeats 40000000 in
theorem rm10 (l : Launch) (Z : State) (a0 : Array Value) (hw : ∀ d ∈ tables_1, d.before a0 Z = true) (ws : List Jvm.Cond) (ob : Addr) (h0 : Heap) (n0 : Nat) (O0 : Old Z n0 h0) :
    MetFree l (⟨"java/util/AbstractCollection", "<init>", "()V"⟩ : MethodName) (head1 (Jvm.Cond.code (⟨"java/util/AbstractCollection", "<init>", "()V"⟩ : MethodName) jdk_22_method_1_code 1 none :: ws) ({ frames := 1, cells := 0, slots := 0, locals := 12 } : Room)) (fun ay U => ay = #[(.ref ob)] ∧ Z.Warmed39 U.vm ∧ U.heap = h0) (fun _ _ _ _ _ => True) (fun _ U o U' => ∃ v L, o = .returned v ∧ Q10 Z ob h0 n0 v U'.heap L ∧ FrameEnd U o U' L ({ frames := 1, cells := 0, slots := 0, locals := 12 } : Room).cells ({ frames := 1, cells := 0, slots := 0, locals := 12 } : Room).slots) := by
  refine MetFree.of_bodySF (plainFor_of_name pn_java_util_AbstractCollection) hisR ?_
  intro p e s m args below meth c s₁ Bd hml0 hP hK
  obtain ⟨rfl, hZ, hh⟩ := hP
  have hx := Bd.exec
  have hby := Bd.bytes
  have hlk : meth.locks = false := BodyLoose.notSynchronized Bd
  have hml : c.maxLocals = 1 := hml0
  have hown : s.vm.findClass "java/util/AbstractCollection" = some m.cls := findClass_of_methodNamed Bd.named
  have hnm := (name_of_methodNamed Bd.named Bd.method).1
  have X0 : Stand p l e ({ frames := 1, cells := 0, slots := 0, locals := 12 } : Room) s m #[(.ref ob)] below meth c s₁ [] 0 0 := Stand.of_body Bd
  have e0 : s₁.heap = h0 := by rw [← hh, Bd.state]; rfl
  have N0 := Fr.nil n0
  suffices hgo : Go p e below s 0 0 (Q10 Z ob h0 n0) (s₁.setTop (mkF m 0 #[.val (.ref ob)] [])) by
    obtain ⟨t, o, h1, h2⟩ := hgo; exact ⟨t, o, castTop (ef_rm10 m ob) h1, h2⟩
  show Go p e below s _ _ _ (s₁.setTop (mkF m 0 #[.val (.ref ob)] []))
  refine Go.st (fun _ k' => XS.aloadN X0.here hx rfl (hb hby d10_0) rfl rfl k') ?_
  show Go p e below s _ _ _ (s₁.setTop (mkF m 1 #[.val (.ref ob)] [(.ref ob)]))
  obtain ⟨T1, X1, e1, st1⟩ := initO X0 hx hZ hown (wdx hw 56 rfl) (wdx hw 12 rfl) (wdx hw 13 rfl) e0 (g := (mkF m 1 #[.val (.ref ob)] [(.ref ob)])) rfl (by rw [hml]; rfl) rfl (hb hby d10_1) (by decide) (W := 0) (by show 2 * 0 + _ ≤ _; exact Nat.le_of_eq rfl) (by decide)
  refine Go.st st1 ?_
  show Go p e below s _ _ _ (T1.setTop (mkF m 4 #[.val (.ref ob)] []))
  refine Go.retV X1 hx hlk Bd.returns (hb hby d10_4) (by decide) (by decide) e1 ?_
  exact ⟨rfl, N0, rfl⟩
theorem d9_0 : decode jdk_91_method_1_code 0 = .ok (.aload_n 0, 1) := by decide +kernel
theorem pd___V : parseMethodDescriptor "()V" = some ⟨[], none⟩ := by decide +kernel
theorem d9_1 : decode jdk_91_method_1_code 1 = .ok (.invokespecial 1, 3) := by decide +kernel
theorem d9_4 : decode jdk_91_method_1_code 4 = .ok (.return_, 1) := by decide +kernel
theorem pn_java_util_AbstractSet : plainName "java/util/AbstractSet" = true := by first | (simp [plainName, overriddenIn]; done) | decide +kernel
theorem ef_rm9 (m : MethodId) (ob : Addr) : entryFrame m #[(.ref ob)] 1 = mkF m 0 #[.val (.ref ob)] [] := by first | (simp [entryFrame, mkF, argsToLocals, Value.category]; done) | rfl
def Q9 (Z : State) (ob : Addr) (h0 : Heap) (n0 : Nat) (v : Option Value) (h : Heap) (L : List Loc) : Prop := v = none ∧ Fr n0 L ∧ h = h0
set_option maxRecDepth 65536 in
set_option maxHeartbeats 40000000 in
theorem rm9 (l : Launch) (Z : State) (a0 : Array Value) (hw : ∀ d ∈ tables_1, d.before a0 Z = true) (ws : List Jvm.Cond) (ob : Addr) (h0 : Heap) (n0 : Nat) (O0 : Old Z n0 h0) :
    MetFree l (⟨"java/util/AbstractSet", "<init>", "()V"⟩ : MethodName) (head1 (Jvm.Cond.code (⟨"java/util/AbstractSet", "<init>", "()V"⟩ : MethodName) jdk_91_method_1_code 1 none :: ws) ({ frames := 2, cells := 0, slots := 0, locals := 24 } : Room)) (fun ay U => ay = #[(.ref ob)] ∧ Z.Warmed39 U.vm ∧ U.heap = h0) (fun _ _ _ _ _ => True) (fun _ U o U' => ∃ v L, o = .returned v ∧ Q9 Z ob h0 n0 v U'.heap L ∧ FrameEnd U o U' L ({ frames := 2, cells := 0, slots := 0, locals := 24 } : Room).cells ({ frames := 2, cells := 0, slots := 0, locals := 24 } : Room).slots) := by
  refine MetFree.of_bodySF (plainFor_of_name pn_java_util_AbstractSet) hisR ?_
  intro p e s m args below meth c s₁ Bd hml0 hP hK
  obtain ⟨rfl, hZ, hh⟩ := hP
  have hx := Bd.exec
  have hby := Bd.bytes
  have hlk : meth.locks = false := BodyLoose.notSynchronized Bd
  have hml : c.maxLocals = 1 := hml0
  have hown : s.vm.findClass "java/util/AbstractSet" = some m.cls := findClass_of_methodNamed Bd.named
  have hnm := (name_of_methodNamed Bd.named Bd.method).1
  have X0 : Stand p l e ({ frames := 2, cells := 0, slots := 0, locals := 24 } : Room) s m #[(.ref ob)] below meth c s₁ [] 0 0 := Stand.of_body Bd
  have e0 : s₁.heap = h0 := by rw [← hh, Bd.state]; rfl
  have N0 := Fr.nil n0
  suffices hgo : Go p e below s 0 0 (Q9 Z ob h0 n0) (s₁.setTop (mkF m 0 #[.val (.ref ob)] [])) by
    obtain ⟨t, o, h1, h2⟩ := hgo; exact ⟨t, o, castTop (ef_rm9 m ob) h1, h2⟩
  show Go p e below s _ _ _ (s₁.setTop (mkF m 0 #[.val (.ref ob)] []))
  refine Go.st (fun _ k' => XS.aloadN X0.here hx rfl (hb hby d9_0) rfl rfl k') ?_
  show Go p e below s _ _ _ (s₁.setTop (mkF m 1 #[.val (.ref ob)] [(.ref ob)]))
  obtain ⟨_, _, ⟨T1, L1, k1, n1⟩, -, X1, ⟨Lc1, hQ1, l1, y1, z1⟩, st1⟩ := X0.specialBack hx (y := (⟨"java/util/AbstractCollection", "<init>", "()V"⟩ : MethodName)) rfl hown (mvT hZ (wdx hw 50 rfl)) (mvT hZ (wdx hw 51 rfl)) (mvT hZ (wdx hw 55 rfl)) (by decide) (backOf (W := 0) (rm10 l Z a0 hw [] ob h0 n0 O0 ) hZ (wdx hw 55 rfl) (wdx hw 54 rfl) (by decide) (by decide)) (g := (mkF m 1 #[.val (.ref ob)] [(.ref ob)])) rfl (by rw [hml]; rfl) (Steps.refl _) (a := ob) (argsL := []) (rest := []) (lenOf pd___V rfl) rfl (by show 2 * 0 + _ ≤ _; exact Nat.le_of_eq rfl) (hb hby d9_1) (fun _ _ => ⟨rfl, e0, (by exact Nat.le_of_ble_eq_true rfl), (by exact Nat.le_of_ble_eq_true rfl)⟩)
  dsimp only [Pt.U, Pt.locs, Pt.cells, Pt.slots] at X1 l1 y1 z1 st1 hQ1
  subst l1 y1 z1
  obtain ⟨rfl, Nq1, eq1⟩ := hQ1
  have N1 := Fr.app N0 Nq1
  refine Go.tr st1 ?_
  show Go p e below s _ _ _ (T1.setTop (mkF m 4 #[.val (.ref ob)] []))
  refine Go.retV X1 hx hlk Bd.returns (hb hby d9_4) (by decide) (by decide) eq1 ?_
  exact ⟨rfl, N1, rfl⟩
theorem d11_0 : decode jdk_69_method_7_code 0 = .ok (.aload_n 0, 1) := by decide +kernel
theorem d11_1 : decode jdk_69_method_7_code 1 = .ok (.invokespecial 43, 3) := by decide +kernel
theorem d11_4 : decode jdk_69_method_7_code 4 = .ok (.aload_n 0, 1) := by decide +kernel
theorem d11_5 : decode jdk_69_method_7_code 5 = .ok (.ldc 92, 2) := by decide +kernel
theorem d11_7 : decode jdk_69_method_7_code 7 = .ok (.putfield 81, 3) := by decide +kernel
theorem d11_10 : decode jdk_69_method_7_code 10 = .ok (.return_, 1) := by decide +kernel
theorem pn_java_util_HashMap : plainName "java/util/HashMap" = true := by first | (simp [plainName, overriddenIn]; done) | decide +kernel
theorem ef_rm11 (m : MethodId) (ob : Addr) : entryFrame m #[(.ref ob)] 1 = mkF m 0 #[.val (.ref ob)] [] := by first | (simp [entryFrame, mkF, argsToLocals, Value.category]; done) | rfl
def Q11 (Z : State) (ob : Addr) (h0 : Heap) (n0 : Nat) (v : Option Value) (h : Heap) (L : List Loc) : Prop := v = none ∧ Fr n0 L ∧ Keep h0 h [ob]
set_option maxRecDepth 65536 in
set_option maxHeartbeats 40000000 in
theorem rm11 (l : Launch) (Z : State) (a0 : Array Value) (hw : ∀ d ∈ tables_1, d.before a0 Z = true) (ws : List Jvm.Cond) (ob : Addr) (h0 : Heap) (n0 : Nat) (O0 : Old Z n0 h0) (E_o : Exa Z h0 ob "java/util/HashMap") (Fa : Fld Z h0 ob "java/util/HashMap" "loadFactor" "F" (.float (0 : UInt32))) (g_o : n0 ≤ ob) :
    MetFree l (⟨"java/util/HashMap", "<init>", "()V"⟩ : MethodName) (head1 (Jvm.Cond.code (⟨"java/util/HashMap", "<init>", "()V"⟩ : MethodName) jdk_69_method_7_code 1 none :: ws) ({ frames := 2, cells := 0, slots := 0, locals := 24 } : Room)) (fun ay U => ay = #[(.ref ob)] ∧ Z.Warmed39 U.vm ∧ U.heap = h0) (fun _ _ _ _ _ => True) (fun _ U o U' => ∃ v L, o = .returned v ∧ Q11 Z ob h0 n0 v U'.heap L ∧ FrameEnd U o U' L ({ frames := 2, cells := 0, slots := 0, locals := 24 } : Room).cells ({ frames := 2, cells := 0, slots := 0, locals := 24 } : Room).slots) := by
  refine MetFree.of_bodySF (plainFor_of_name pn_java_util_HashMap) hisR ?_
  intro p e s m args below meth c s₁ Bd hml0 hP hK
  obtain ⟨rfl, hZ, hh⟩ := hP
  have hx := Bd.exec
  have hby := Bd.bytes
  have hlk : meth.locks = false := BodyLoose.notSynchronized Bd
  have hml : c.maxLocals = 1 := hml0
  have hown : s.vm.findClass "java/util/HashMap" = some m.cls := findClass_of_methodNamed Bd.named
  have hnm := (name_of_methodNamed Bd.named Bd.method).1
  have X0 : Stand p l e ({ frames := 2, cells := 0, slots := 0, locals := 24 } : Room) s m #[(.ref ob)] below meth c s₁ [] 0 0 := Stand.of_body Bd
  have e0 : s₁.heap = h0 := by rw [← hh, Bd.state]; rfl
  have N0 := Fr.nil n0
  suffices hgo : Go p e below s 0 0 (Q11 Z ob h0 n0) (s₁.setTop (mkF m 0 #[.val (.ref ob)] [])) by
    obtain ⟨t, o, h1, h2⟩ := hgo; exact ⟨t, o, castTop (ef_rm11 m ob) h1, h2⟩
  show Go p e below s _ _ _ (s₁.setTop (mkF m 0 #[.val (.ref ob)] []))
  refine Go.st (fun _ k' => XS.aloadN X0.here hx rfl (hb hby d11_0) rfl rfl k') ?_
  show Go p e below s _ _ _ (s₁.setTop (mkF m 1 #[.val (.ref ob)] [(.ref ob)]))
  obtain ⟨_, _, ⟨T1, L1, k1, n1⟩, -, X1, ⟨Lc1, hQ1, l1, y1, z1⟩, st1⟩ := X0.specialBack hx (y := (⟨"java/util/AbstractMap", "<init>", "()V"⟩ : MethodName)) rfl hown (mvT hZ (wdx hw 64 rfl)) (mvT hZ (wdx hw 65 rfl)) (mvT hZ (wdx hw 69 rfl)) (by decide) (backOf (W := 0) (rm12 l Z a0 hw [] ob h0 n0 O0 ) hZ (wdx hw 69 rfl) (wdx hw 68 rfl) (by decide) (by decide)) (g := (mkF m 1 #[.val (.ref ob)] [(.ref ob)])) rfl (by rw [hml]; rfl) (Steps.refl _) (a := ob) (argsL := []) (rest := []) (lenOf pd___V rfl) rfl (by show 2 * 0 + _ ≤ _; exact Nat.le_of_eq rfl) (hb hby d11_1) (fun _ _ => ⟨rfl, e0, (by exact Nat.le_of_ble_eq_true rfl), (by exact Nat.le_of_ble_eq_true rfl)⟩)
  dsimp only [Pt.U, Pt.locs, Pt.cells, Pt.slots] at X1 l1 y1 z1 st1 hQ1
  subst l1 y1 z1
  obtain ⟨rfl, Nq1, eq1⟩ := hQ1
  have N1 := Fr.app N0 Nq1
  refine Go.tr st1 ?_
  show Go p e below s _ _ _ (T1.setTop (mkF m 4 #[.val (.ref ob)] []))
  refine Go.st (fun _ k' => XS.aloadN X1.here hx rfl (hb hby d11_4) rfl rfl k') ?_
  show Go p e below s _ _ _ (T1.setTop (mkF m 5 #[.val (.ref ob)] [(.ref ob)]))
  refine Go.st (fun _ k' => X1.ldcFloatC hx hown (mvT hZ (wdx hw 71 rfl)) (g := (mkF m 5 #[.val (.ref ob)] [(.ref ob)])) rfl (hb hby d11_5) _ k') ?_
  show Go p e below s _ _ _ (T1.setTop (mkF m 7 #[.val (.ref ob)] [(.float (1061158912 : UInt32)), (.ref ob)]))
  obtain ⟨T2, h2, X2, e2, W2, st2⟩ := putF X1 hx hZ hown (host := "") (Or.inl (wdx hw 72 rfl)) Via.refl eq1 Fa E_o (Or.inr ⟨(wdx hw 73 rfl), rfl, hnm⟩) (wdx hw 58 rfl) (ty := .float) (by decide) rfl rfl (g := (mkF m 7 #[.val (.ref ob)] [(.float (1061158912 : UInt32)), (.ref ob)])) rfl rfl (hb hby d11_7)
  refine Go.st st2 ?_
  have f3 : Exa Z h2 ob "java/util/HashMap" := E_o.wr W2
  have f4 : Fld Z h2 ob "java/util/HashMap" "loadFactor" "F" (.float (1061158912 : UInt32)) := Fa.same W2
  have O2 : Old Z n0 h2 := O0.wr W2 g_o
  have N2 := Fr.snoc X2 N1 g_o
  have K2 : Keep h0 h2 [ob] := (Keep.refl h0 [ob]).wr W2 (Or.inl (by simp))
  show Go p e below s _ _ _ (T2.setTop (mkF m 10 #[.val (.ref ob)] []))
  refine Go.retV X2 hx hlk Bd.returns (hb hby d11_10) (by decide) (by decide) e2 ?_
  exact ⟨rfl, N2, K2⟩
theorem d8_0 : decode jdk_93_method_1_code 0 = .ok (.aload_n 0, 1) := by decide +kernel
theorem d8_1 : decode jdk_93_method_1_code 1 = .ok (.invokespecial 1, 3) := by decide +kernel
theorem d8_4 : decode jdk_93_method_1_code 4 = .ok (.aload_n 0, 1) := by decide +kernel
theorem d8_5 : decode jdk_93_method_1_code 5 = .ok (.new 7, 3) := by decide +kernel
theorem d8_8 : decode jdk_93_method_1_code 8 = .ok (.dup, 1) := by decide +kernel
theorem d8_9 : decode jdk_93_method_1_code 9 = .ok (.invokespecial 9, 3) := by decide +kernel
theorem d8_12 : decode jdk_93_method_1_code 12 = .ok (.putfield 10, 3) := by decide +kernel
theorem d8_15 : decode jdk_93_method_1_code 15 = .ok (.return_, 1) := by decide +kernel
theorem pn_java_util_HashSet : plainName "java/util/HashSet" = true := by first | (simp [plainName, overriddenIn]; done) | decide +kernel
theorem ef_rm8 (m : MethodId) (ob : Addr) : entryFrame m #[(.ref ob)] 1 = mkF m 0 #[.val (.ref ob)] [] := by first | (simp [entryFrame, mkF, argsToLocals, Value.category]; done) | rfl
def Q8 (Z : State) (ob : Addr) (h0 : Heap) (n0 : Nat) (v : Option Value) (h : Heap) (L : List Loc) : Prop := v = none ∧ Fr n0 L ∧ Keep h0 h [ob]
set_option maxRecDepth 65536 in
set_option maxHeartbeats 40000000 in
theorem rm8 (l : Launch) (Z : State) (a0 : Array Value) (hw : ∀ d ∈ tables_1, d.before a0 Z = true) (ws : List Jvm.Cond) (ob : Addr) (h0 : Heap) (n0 : Nat) (O0 : Old Z n0 h0) (E_o : Exa Z h0 ob "java/util/HashSet") (Fa : Fld Z h0 ob "java/util/HashSet" "map" "Ljava/util/HashMap;" .null) (g_o : n0 ≤ ob) :
    MetFree l (⟨"java/util/HashSet", "<init>", "()V"⟩ : MethodName) (head1 (Jvm.Cond.code (⟨"java/util/HashSet", "<init>", "()V"⟩ : MethodName) jdk_93_method_1_code 1 none :: ws) ({ frames := 3, cells := 1, slots := 8, locals := 38 } : Room)) (fun ay U => ay = #[(.ref ob)] ∧ Z.Warmed39 U.vm ∧ U.heap = h0) (fun _ _ _ _ _ => True) (fun _ U o U' => ∃ v L, o = .returned v ∧ Q8 Z ob h0 n0 v U'.heap L ∧ FrameEnd U o U' L ({ frames := 3, cells := 1, slots := 8, locals := 38 } : Room).cells ({ frames := 3, cells := 1, slots := 8, locals := 38 } : Room).slots) := by
  refine MetFree.of_bodySF (plainFor_of_name pn_java_util_HashSet) hisR ?_
  intro p e s m args below meth c s₁ Bd hml0 hP hK
  obtain ⟨rfl, hZ, hh⟩ := hP
  have hx := Bd.exec
  have hby := Bd.bytes
  have hlk : meth.locks = false := BodyLoose.notSynchronized Bd
  have hml : c.maxLocals = 1 := hml0
  have hown : s.vm.findClass "java/util/HashSet" = some m.cls := findClass_of_methodNamed Bd.named
  have hnm := (name_of_methodNamed Bd.named Bd.method).1
  have X0 : Stand p l e ({ frames := 3, cells := 1, slots := 8, locals := 38 } : Room) s m #[(.ref ob)] below meth c s₁ [] 0 0 := Stand.of_body Bd
  have e0 : s₁.heap = h0 := by rw [← hh, Bd.state]; rfl
  have N0 := Fr.nil n0
  suffices hgo : Go p e below s 1 8 (Q8 Z ob h0 n0) (s₁.setTop (mkF m 0 #[.val (.ref ob)] [])) by
    obtain ⟨t, o, h1, h2⟩ := hgo; exact ⟨t, o, castTop (ef_rm8 m ob) h1, h2⟩
  show Go p e below s _ _ _ (s₁.setTop (mkF m 0 #[.val (.ref ob)] []))
  refine Go.st (fun _ k' => XS.aloadN X0.here hx rfl (hb hby d8_0) rfl rfl k') ?_
  show Go p e below s _ _ _ (s₁.setTop (mkF m 1 #[.val (.ref ob)] [(.ref ob)]))
  obtain ⟨_, _, ⟨T1, L1, k1, n1⟩, -, X1, ⟨Lc1, hQ1, l1, y1, z1⟩, st1⟩ := X0.specialBack hx (y := (⟨"java/util/AbstractSet", "<init>", "()V"⟩ : MethodName)) rfl hown (mvT hZ (wdx hw 44 rfl)) (mvT hZ (wdx hw 45 rfl)) (mvT hZ (wdx hw 49 rfl)) (by decide) (backOf (W := 0) (rm9 l Z a0 hw [] ob h0 n0 O0 ) hZ (wdx hw 49 rfl) (wdx hw 48 rfl) (by decide) (by decide)) (g := (mkF m 1 #[.val (.ref ob)] [(.ref ob)])) rfl (by rw [hml]; rfl) (Steps.refl _) (a := ob) (argsL := []) (rest := []) (lenOf pd___V rfl) rfl (by show 2 * 0 + _ ≤ _; exact Nat.le_of_eq rfl) (hb hby d8_1) (fun _ _ => ⟨rfl, e0, (by exact Nat.le_of_ble_eq_true rfl), (by exact Nat.le_of_ble_eq_true rfl)⟩)
  dsimp only [Pt.U, Pt.locs, Pt.cells, Pt.slots] at X1 l1 y1 z1 st1 hQ1
  subst l1 y1 z1
  obtain ⟨rfl, Nq1, eq1⟩ := hQ1
  have N1 := Fr.app N0 Nq1
  refine Go.tr st1 ?_
  show Go p e below s _ _ _ (T1.setTop (mkF m 4 #[.val (.ref ob)] []))
  refine Go.st (fun _ k' => XS.aloadN X1.here hx rfl (hb hby d8_4) rfl rfl k') ?_
  show Go p e below s _ _ _ (T1.setTop (mkF m 5 #[.val (.ref ob)] [(.ref ob)]))
  obtain ⟨T2, h2, X2, e2, E2, A2, D2, -, st2⟩ := newO X1 hx hZ hown (wdx hw 57 rfl) (wdx hw 58 rfl) (wdx hw 59 rfl) eq1 (g := (mkF m 5 #[.val (.ref ob)] [(.ref ob)])) rfl (hb hby d8_5) (by decide) (by decide)
  obtain ⟨b2, g2⟩ : ∃ z, z = h0.size := ⟨_, rfl⟩
  rw [← g2] at A2 D2 st2
  refine Go.st st2 ?_
  have g_b2 : n0 ≤ b2 := Nat.le_trans (own_le O0) (Nat.le_of_eq g2.symm)
  have z_b2 : h0.size ≤ b2 := Nat.le_of_eq g2.symm
  have ne3 : ob ≠ b2 := Nat.ne_of_lt (Nat.lt_of_lt_of_le E_o.lt (Nat.le_of_eq g2.symm))
  have f4 : Exa Z h2 ob "java/util/HashSet" := E_o.ext E2
  have f5 : Fld Z h2 ob "java/util/HashSet" "map" "Ljava/util/HashMap;" .null := Fa.ext E2
  have O2 : Old Z n0 h2 := O0.ext E2
  have K2 : Keep h0 h2 [ob] := (Keep.refl h0 [ob]).ext E2
  have f6 : Fld Z h2 b2 "java/util/HashMap" "loadFactor" "F" (.float (0 : UInt32)) := D2 (Or.inr (wdx hw 73 rfl)) (ty := .float) (by decide)
  show Go p e below s _ _ _ (T2.setTop (mkF m 8 #[.val (.ref ob)] [(.ref b2), (.ref ob)]))
  refine Go.st (fun _ k' => XS.dup X2.here hx rfl (hb hby d8_8) rfl rfl k') ?_
  show Go p e below s _ _ _ (T2.setTop (mkF m 9 #[.val (.ref ob)] [(.ref b2), (.ref b2), (.ref ob)]))
  obtain ⟨_, _, ⟨T7, L7, k7, n7⟩, -, X7, ⟨Lc7, hQ7, l7, y7, z7⟩, st7⟩ := X2.specialBack hx (y := (⟨"java/util/HashMap", "<init>", "()V"⟩ : MethodName)) rfl hown (mvT hZ (wdx hw 60 rfl)) (mvT hZ (wdx hw 61 rfl)) (mvT hZ (wdx hw 63 rfl)) (by decide) (backOf (W := 2) (rm11 l Z a0 hw [] b2 h2 n0 O2 A2 f6 g_b2) hZ (wdx hw 63 rfl) (wdx hw 59 rfl) (by decide) (by decide)) (g := (mkF m 9 #[.val (.ref ob)] [(.ref b2), (.ref b2), (.ref ob)])) rfl (by rw [hml]; rfl) (Steps.refl _) (a := b2) (argsL := []) (rest := [(.ref b2), (.ref ob)]) (lenOf pd___V rfl) rfl (by show 2 * 0 + _ ≤ _; exact Nat.le_of_eq rfl) (hb hby d8_9) (fun _ _ => ⟨rfl, e2, (by exact Nat.le_of_ble_eq_true rfl), (by exact Nat.le_of_ble_eq_true rfl)⟩)
  dsimp only [Pt.U, Pt.locs, Pt.cells, Pt.slots] at X7 l7 y7 z7 st7 hQ7
  subst l7 y7 z7
  obtain ⟨rfl, Nq7, Kq7⟩ := hQ7
  have N7 := Fr.app N1 Nq7
  refine Go.tr st7 ?_
  have f8 : Exa Z T7.heap ob "java/util/HashSet" := f4.keep Kq7
  have f9 : Fld Z T7.heap ob "java/util/HashSet" "map" "Ljava/util/HashMap;" .null := f5.keep Kq7 (ninS ne3 nin0)
  have f10 : Exa Z T7.heap b2 "java/util/HashMap" := A2.keep Kq7
  have O7 : Old Z n0 T7.heap := O2.keep Kq7 (allS g_b2 all0)
  have K7 : Keep h0 T7.heap [ob] := K2.trans Kq7 (allS (Or.inr z_b2) all0)
  show Go p e below s _ _ _ (T7.setTop (mkF m 12 #[.val (.ref ob)] [(.ref b2), (.ref ob)]))
  obtain ⟨T11, h11, X11, e11, W11, st11⟩ := putF X7 hx hZ hown (host := "") (Or.inl (wdx hw 74 rfl)) Via.refl rfl f9 f8 (Or.inl (wdx hw 75 rfl)) (wdx hw 39 rfl) (ty := (.object "java/util/HashMap")) (by decide) rfl rfl (g := (mkF m 12 #[.val (.ref ob)] [(.ref b2), (.ref ob)])) rfl rfl (hb hby d8_12)
  refine Go.st st11 ?_
  have f12 : Exa Z h11 ob "java/util/HashSet" := f8.wr W11
  have f13 : Fld Z h11 ob "java/util/HashSet" "map" "Ljava/util/HashMap;" (.ref b2) := f9.same W11
  have f14 : Exa Z h11 b2 "java/util/HashMap" := f10.wr W11
  have O11 : Old Z n0 h11 := O7.wr W11 g_o
  have N11 := Fr.snoc X11 N7 g_o
  have K11 : Keep h0 h11 [ob] := K7.wr W11 (Or.inl (by simp))
  show Go p e below s _ _ _ (T11.setTop (mkF m 15 #[.val (.ref ob)] []))
  refine Go.retV X11 hx hlk Bd.returns (hb hby d8_15) (by decide) (by decide) e11 ?_
  exact ⟨rfl, N11, K11⟩
theorem d7_0 : decode prog_7_method_1_code 0 = .ok (.aload_n 0, 1) := by decide +kernel
theorem d7_1 : decode prog_7_method_1_code 1 = .ok (.invokespecial 1, 3) := by decide +kernel
theorem d7_4 : decode prog_7_method_1_code 4 = .ok (.aload_n 0, 1) := by decide +kernel
theorem d7_5 : decode prog_7_method_1_code 5 = .ok (.new 7, 3) := by decide +kernel
theorem d7_8 : decode prog_7_method_1_code 8 = .ok (.dup, 1) := by decide +kernel
theorem d7_9 : decode prog_7_method_1_code 9 = .ok (.invokespecial 9, 3) := by decide +kernel
theorem d7_12 : decode prog_7_method_1_code 12 = .ok (.putfield 10, 3) := by decide +kernel
theorem d7_15 : decode prog_7_method_1_code 15 = .ok (.aload_n 0, 1) := by decide +kernel
theorem d7_16 : decode prog_7_method_1_code 16 = .ok (.aload_n 1, 1) := by decide +kernel
theorem d7_17 : decode prog_7_method_1_code 17 = .ok (.invokevirtual 16, 3) := by decide +kernel
theorem d7_20 : decode prog_7_method_1_code 20 = .ok (.checkcast 17, 3) := by decide +kernel
theorem d7_23 : decode prog_7_method_1_code 23 = .ok (.putfield 22, 3) := by decide +kernel
theorem d7_26 : decode prog_7_method_1_code 26 = .ok (.return_, 1) := by decide +kernel
theorem pn_com_example_reportwire_reportwire_Arguments : plainName "com/example/reportwire/reportwire/Arguments" = true := by first | (simp [plainName, overriddenIn]; done) | decide +kernel
theorem ef_rm7_3 (m : MethodId) (ob : Addr) (aa : Addr) : entryFrame m #[(.ref ob), (.ref aa)] 2 = mkF m 0 #[.val (.ref ob), .val (.ref aa)] [] := by first | (simp [entryFrame, mkF, argsToLocals, Value.category]; done) | rfl
def Q7_3 (Z : State) (ob : Addr) (aa : Addr) (ka : ClassId) (sa : Addr) (sb : Addr) (sc : Addr) (h0 : Heap) (n0 : Nat) (v : Option Value) (h : Heap) (L : List Loc) : Prop := ∃ (na : Addr) (kn : ClassId), v = none ∧ Fr n0 L ∧ Keep h0 h [ob] ∧ Fld Z h ob "com/example/reportwire/reportwire/Arguments" "args" "[Ljava/lang/String;" (.ref na) ∧ Fld Z h ob "com/example/reportwire/reportwire/Arguments" "next" "I" (.int (0 : Int32)) ∧ Arv Z h na kn (.object "java/lang/String") (3 : Int32) [(.ref sa), (.ref sb), (.ref sc)] .null ∧ h0.size ≤ na
set_option maxRecDepth 65536 in
set_option maxHeartbeats 40000000 in
theorem rm7_3 (l : Launch) (Z : State) (a0 : Array Value) (hw : ∀ d ∈ tables_1, d.before a0 Z = true) (ws : List Jvm.Cond) (ob : Addr) (aa : Addr) (ka : ClassId) (sa : Addr) (sb : Addr) (sc : Addr) (h0 : Heap) (n0 : Nat) (O0 : Old Z n0 h0) (E_o : Exa Z h0 ob "com/example/reportwire/reportwire/Arguments") (Fo : Fld Z h0 ob "com/example/reportwire/reportwire/Arguments" "optionsGiven" "Ljava/util/Set;" .null) (Fa : Fld Z h0 ob "com/example/reportwire/reportwire/Arguments" "args" "[Ljava/lang/String;" .null) (Fn : Fld Z h0 ob "com/example/reportwire/reportwire/Arguments" "next" "I" (.int (0 : Int32))) (E_a : Exa Z h0 aa "[Ljava/lang/String;") (Va : Arv Z h0 aa ka (.object "java/lang/String") (3 : Int32) [(.ref sa), (.ref sb), (.ref sc)] .null) (g_o : n0 ≤ ob) (ne_oa : ob ≠ aa) :
    MetFree l (⟨"com/example/reportwire/reportwire/Arguments", "<init>", "([Ljava/lang/String;)V"⟩ : MethodName) (head1 (Jvm.Cond.code (⟨"com/example/reportwire/reportwire/Arguments", "<init>", "([Ljava/lang/String;)V"⟩ : MethodName) prog_7_method_1_code 2 none :: ws) ({ frames := 4, cells := 3, slots := 12, locals := 52 } : Room)) (fun ay U => ay = #[(.ref ob), (.ref aa)] ∧ Z.Warmed39 U.vm ∧ U.heap = h0) (fun _ _ _ _ _ => True) (fun _ U o U' => ∃ v L, o = .returned v ∧ Q7_3 Z ob aa ka sa sb sc h0 n0 v U'.heap L ∧ FrameEnd U o U' L ({ frames := 4, cells := 3, slots := 12, locals := 52 } : Room).cells ({ frames := 4, cells := 3, slots := 12, locals := 52 } : Room).slots) := by
  refine MetFree.of_bodySF (plainFor_of_name pn_com_example_reportwire_reportwire_Arguments) hisR ?_
  intro p e s m args below meth c s₁ Bd hml0 hP hK
  obtain ⟨rfl, hZ, hh⟩ := hP
  have hx := Bd.exec
  have hby := Bd.bytes
  have hlk : meth.locks = false := BodyLoose.notSynchronized Bd
  have hml : c.maxLocals = 2 := hml0
  have hown : s.vm.findClass "com/example/reportwire/reportwire/Arguments" = some m.cls := findClass_of_methodNamed Bd.named
  have hnm := (name_of_methodNamed Bd.named Bd.method).1
  have X0 : Stand p l e ({ frames := 4, cells := 3, slots := 12, locals := 52 } : Room) s m #[(.ref ob), (.ref aa)] below meth c s₁ [] 0 0 := Stand.of_body Bd
  have e0 : s₁.heap = h0 := by rw [← hh, Bd.state]; rfl
  have N0 := Fr.nil n0
  suffices hgo : Go p e below s 3 12 (Q7_3 Z ob aa ka sa sb sc h0 n0) (s₁.setTop (mkF m 0 #[.val (.ref ob), .val (.ref aa)] [])) by
    obtain ⟨t, o, h1, h2⟩ := hgo; exact ⟨t, o, castTop (ef_rm7_3 m ob aa) h1, h2⟩
  show Go p e below s _ _ _ (s₁.setTop (mkF m 0 #[.val (.ref ob), .val (.ref aa)] []))
  refine Go.st (fun _ k' => XS.aloadN X0.here hx rfl (hb hby d7_0) rfl rfl k') ?_
  show Go p e below s _ _ _ (s₁.setTop (mkF m 1 #[.val (.ref ob), .val (.ref aa)] [(.ref ob)]))
  obtain ⟨T1, X1, e1, st1⟩ := initO X0 hx hZ hown (wdx hw 37 rfl) (wdx hw 12 rfl) (wdx hw 13 rfl) e0 (g := (mkF m 1 #[.val (.ref ob), .val (.ref aa)] [(.ref ob)])) rfl (by rw [hml]; rfl) rfl (hb hby d7_1) (by decide) (W := 0) (by show 2 * 0 + _ ≤ _; exact Nat.le_of_eq rfl) (by decide)
  refine Go.st st1 ?_
  show Go p e below s _ _ _ (T1.setTop (mkF m 4 #[.val (.ref ob), .val (.ref aa)] []))
  refine Go.st (fun _ k' => XS.aloadN X1.here hx rfl (hb hby d7_4) rfl rfl k') ?_
  show Go p e below s _ _ _ (T1.setTop (mkF m 5 #[.val (.ref ob), .val (.ref aa)] [(.ref ob)]))
  obtain ⟨T2, h2, X2, e2, E2, A2, D2, -, st2⟩ := newO X1 hx hZ hown (wdx hw 38 rfl) (wdx hw 39 rfl) (wdx hw 40 rfl) e1 (g := (mkF m 5 #[.val (.ref ob), .val (.ref aa)] [(.ref ob)])) rfl (hb hby d7_5) (by decide) (by decide)
  obtain ⟨b2, g2⟩ : ∃ z, z = h0.size := ⟨_, rfl⟩
  rw [← g2] at A2 D2 st2
  refine Go.st st2 ?_
  have g_b2 : n0 ≤ b2 := Nat.le_trans (own_le O0) (Nat.le_of_eq g2.symm)
  have z_b2 : h0.size ≤ b2 := Nat.le_of_eq g2.symm
  have ne3 : ob ≠ b2 := Nat.ne_of_lt (Nat.lt_of_lt_of_le E_o.lt (Nat.le_of_eq g2.symm))
  have ne4 : aa ≠ b2 := Nat.ne_of_lt (Nat.lt_of_lt_of_le E_a.lt (Nat.le_of_eq g2.symm))
  have f5 : Exa Z h2 ob "com/example/reportwire/reportwire/Arguments" := E_o.ext E2
  have f6 : Fld Z h2 ob "com/example/reportwire/reportwire/Arguments" "optionsGiven" "Ljava/util/Set;" .null := Fo.ext E2
  have f7 : Fld Z h2 ob "com/example/reportwire/reportwire/Arguments" "args" "[Ljava/lang/String;" .null := Fa.ext E2
  have f8 : Fld Z h2 ob "com/example/reportwire/reportwire/Arguments" "next" "I" (.int (0 : Int32)) := Fn.ext E2
  have f9 : Exa Z h2 aa "[Ljava/lang/String;" := E_a.ext E2
  have f10 : Arv Z h2 aa ka (.object "java/lang/String") (3 : Int32) [(.ref sa), (.ref sb), (.ref sc)] .null := Va.ext E2
  have O2 : Old Z n0 h2 := O0.ext E2
  have K2 : Keep h0 h2 [ob] := (Keep.refl h0 [ob]).ext E2
  have f11 : Fld Z h2 b2 "java/util/HashSet" "map" "Ljava/util/HashMap;" .null := D2 (Or.inl (wdx hw 75 rfl)) (ty := (.object "java/util/HashMap")) (by decide)
  show Go p e below s _ _ _ (T2.setTop (mkF m 8 #[.val (.ref ob), .val (.ref aa)] [(.ref b2), (.ref ob)]))
  refine Go.st (fun _ k' => XS.dup X2.here hx rfl (hb hby d7_8) rfl rfl k') ?_
  show Go p e below s _ _ _ (T2.setTop (mkF m 9 #[.val (.ref ob), .val (.ref aa)] [(.ref b2), (.ref b2), (.ref ob)]))
  obtain ⟨_, _, ⟨T12, L12, k12, n12⟩, -, X12, ⟨Lc12, hQ12, l12, y12, z12⟩, st12⟩ := X2.specialBack hx (y := (⟨"java/util/HashSet", "<init>", "()V"⟩ : MethodName)) rfl hown (mvT hZ (wdx hw 41 rfl)) (mvT hZ (wdx hw 42 rfl)) (mvT hZ (wdx hw 43 rfl)) (by decide) (backOf (W := 2) (rm8 l Z a0 hw [] b2 h2 n0 O2 A2 f11 g_b2) hZ (wdx hw 43 rfl) (wdx hw 40 rfl) (by decide) (by decide)) (g := (mkF m 9 #[.val (.ref ob), .val (.ref aa)] [(.ref b2), (.ref b2), (.ref ob)])) rfl (by rw [hml]; rfl) (Steps.refl _) (a := b2) (argsL := []) (rest := [(.ref b2), (.ref ob)]) (lenOf pd___V rfl) rfl (by show 2 * 0 + _ ≤ _; exact Nat.le_of_eq rfl) (hb hby d7_9) (fun _ _ => ⟨rfl, e2, (by exact Nat.le_of_ble_eq_true rfl), (by exact Nat.le_of_ble_eq_true rfl)⟩)
  dsimp only [Pt.U, Pt.locs, Pt.cells, Pt.slots] at X12 l12 y12 z12 st12 hQ12
  subst l12 y12 z12
  obtain ⟨rfl, Nq12, Kq12⟩ := hQ12
  have N12 := Fr.app N0 Nq12
  refine Go.tr st12 ?_
  have f13 : Exa Z T12.heap ob "com/example/reportwire/reportwire/Arguments" := f5.keep Kq12
  have f14 : Fld Z T12.heap ob "com/example/reportwire/reportwire/Arguments" "optionsGiven" "Ljava/util/Set;" .null := f6.keep Kq12 (ninS ne3 nin0)
  have f15 : Fld Z T12.heap ob "com/example/reportwire/reportwire/Arguments" "args" "[Ljava/lang/String;" .null := f7.keep Kq12 (ninS ne3 nin0)
  have f16 : Fld Z T12.heap ob "com/example/reportwire/reportwire/Arguments" "next" "I" (.int (0 : Int32)) := f8.keep Kq12 (ninS ne3 nin0)
  have f17 : Exa Z T12.heap aa "[Ljava/lang/String;" := f9.keep Kq12
  have f18 : Arv Z T12.heap aa ka (.object "java/lang/String") (3 : Int32) [(.ref sa), (.ref sb), (.ref sc)] .null := f10.keep Kq12 (ninS ne4 nin0)
  have f19 : Exa Z T12.heap b2 "java/util/HashSet" := A2.keep Kq12
  have O12 : Old Z n0 T12.heap := O2.keep Kq12 (allS g_b2 all0)
  have K12 : Keep h0 T12.heap [ob] := K2.trans Kq12 (allS (Or.inr z_b2) all0)
  show Go p e below s _ _ _ (T12.setTop (mkF m 12 #[.val (.ref ob), .val (.ref aa)] [(.ref b2), (.ref ob)]))
  obtain ⟨T20, h20, X20, e20, W20, st20⟩ := putF X12 hx hZ hown (host := "") (Or.inl (wdx hw 76 rfl)) Via.refl rfl f14 f13 (Or.inr ⟨(wdx hw 77 rfl), rfl, hnm⟩) (wdx hw 31 rfl) (ty := (.object "java/util/Set")) (by decide) rfl rfl (g := (mkF m 12 #[.val (.ref ob), .val (.ref aa)] [(.ref b2), (.ref ob)])) rfl rfl (hb hby d7_12)
  refine Go.st st20 ?_
  have f21 : Exa Z h20 ob "com/example/reportwire/reportwire/Arguments" := f13.wr W20
  have f22 : Fld Z h20 ob "com/example/reportwire/reportwire/Arguments" "optionsGiven" "Ljava/util/Set;" (.ref b2) := f14.same W20
  have f23 : Fld Z h20 ob "com/example/reportwire/reportwire/Arguments" "args" "[Ljava/lang/String;" .null := f15.other W20 (Or.inr (slot_ne (Or.inr (wdx hw 88 rfl)) (Or.inr (wdx hw 77 rfl)) (by decide) (t := (.array (.object "java/lang/String"))) (t' := (.object "java/util/Set")) (by decide) (by decide)))
  have f24 : Fld Z h20 ob "com/example/reportwire/reportwire/Arguments" "next" "I" (.int (0 : Int32)) := f16.other W20 (Or.inr (slot_ne (Or.inl (wdx hw 106 rfl)) (Or.inr (wdx hw 77 rfl)) (by decide) (t := .int) (t' := (.object "java/util/Set")) (by decide) (by decide)))
  have f25 : Exa Z h20 aa "[Ljava/lang/String;" := f17.wr W20
  have f26 : Arv Z h20 aa ka (.object "java/lang/String") (3 : Int32) [(.ref sa), (.ref sb), (.ref sc)] .null := f18.other W20 (Ne.symm ne_oa)
  have f27 : Exa Z h20 b2 "java/util/HashSet" := f19.wr W20
  have O20 : Old Z n0 h20 := O12.wr W20 g_o
  have N20 := Fr.snoc X20 N12 g_o
  have K20 : Keep h0 h20 [ob] := K12.wr W20 (Or.inl (by simp))
  show Go p e below s _ _ _ (T20.setTop (mkF m 15 #[.val (.ref ob), .val (.ref aa)] []))
  refine Go.st (fun _ k' => XS.aloadN X20.here hx rfl (hb hby d7_15) rfl rfl k') ?_
  show Go p e below s _ _ _ (T20.setTop (mkF m 16 #[.val (.ref ob), .val (.ref aa)] [(.ref ob)]))
  refine Go.st (fun _ k' => XS.aloadN X20.here hx rfl (hb hby d7_16) rfl rfl k') ?_
  show Go p e below s _ _ _ (T20.setTop (mkF m 17 #[.val (.ref ob), .val (.ref aa)] [(.ref aa), (.ref ob)]))
  obtain ⟨T28, h28, X28, e28, E28, A28, Ex28, st28⟩ := cloneH X20 hx hZ hown (wdx hw 78 rfl) (wdx hw 79 rfl) (wdx hw 83 rfl) (wdx hw 81 rfl) (wdx hw 82 rfl) (wdx hw 84 rfl) e20 (hs := []) f26 f25 (g := (mkF m 17 #[.val (.ref ob), .val (.ref aa)] [(.ref aa), (.ref ob)])) rfl (by rw [hml]; rfl) rfl (hb hby d7_17) (by decide) (W := 1) (cap := 3) (by show 2 * 0 + _ ≤ _; exact Nat.le_of_eq rfl) (by decide) (by decide) (by decide) (by decide)
  obtain ⟨b28, g28⟩ : ∃ z, z = h20.size := ⟨_, rfl⟩
  rw [← g28] at A28 Ex28 st28
  refine Go.st st28 ?_
  have g_b28 : n0 ≤ b28 := Nat.le_trans (own_le O20) (Nat.le_of_eq g28.symm)
  have z_b28 : h0.size ≤ b28 := Nat.le_trans K20.1 (Nat.le_of_eq g28.symm)
  have ne29 : ob ≠ b28 := Nat.ne_of_lt (Nat.lt_of_lt_of_le f21.lt (Nat.le_of_eq g28.symm))
  have ne30 : aa ≠ b28 := Nat.ne_of_lt (Nat.lt_of_lt_of_le f25.lt (Nat.le_of_eq g28.symm))
  have ne31 : b2 ≠ b28 := Nat.ne_of_lt (Nat.lt_of_lt_of_le f27.lt (Nat.le_of_eq g28.symm))
  have f32 : Exa Z h28 ob "com/example/reportwire/reportwire/Arguments" := f21.ext E28
  have f33 : Fld Z h28 ob "com/example/reportwire/reportwire/Arguments" "optionsGiven" "Ljava/util/Set;" (.ref b2) := f22.ext E28
  have f34 : Fld Z h28 ob "com/example/reportwire/reportwire/Arguments" "args" "[Ljava/lang/String;" .null := f23.ext E28
  have f35 : Fld Z h28 ob "com/example/reportwire/reportwire/Arguments" "next" "I" (.int (0 : Int32)) := f24.ext E28
  have f36 : Exa Z h28 aa "[Ljava/lang/String;" := f25.ext E28
  have f37 : Arv Z h28 aa ka (.object "java/lang/String") (3 : Int32) [(.ref sa), (.ref sb), (.ref sc)] .null := f26.ext E28
  have f38 : Exa Z h28 b2 "java/util/HashSet" := f27.ext E28
  have O28 : Old Z n0 h28 := O20.ext E28
  have K28 : Keep h0 h28 [ob] := K20.ext E28
  have f39 : Arv Z h28 b28 ka (.object "java/lang/String") (3 : Int32) [(.ref sa), (.ref sb), (.ref sc)] .null := A28
  show Go p e below s _ _ _ (T28.setTop (mkF m 20 #[.val (.ref ob), .val (.ref aa)] [(.ref b28), (.ref ob)]))
  obtain ⟨T40, X40, e40, st40⟩ := castY X28 hx hZ hown (wdx hw 85 rfl) e28 (Ins.self Ex28) (g := (mkF m 20 #[.val (.ref ob), .val (.ref aa)] [(.ref b28), (.ref ob)])) rfl rfl (hb hby d7_20)
  refine Go.st st40 ?_
  show Go p e below s _ _ _ (T40.setTop (mkF m 23 #[.val (.ref ob), .val (.ref aa)] [(.ref b28), (.ref ob)]))
  obtain ⟨T41, h41, X41, e41, W41, st41⟩ := putF X40 hx hZ hown (host := "") (Or.inl (wdx hw 87 rfl)) Via.refl e40 f34 f32 (Or.inr ⟨(wdx hw 88 rfl), rfl, hnm⟩) (wdx hw 31 rfl) (ty := (.array (.object "java/lang/String"))) (by decide) rfl rfl (g := (mkF m 23 #[.val (.ref ob), .val (.ref aa)] [(.ref b28), (.ref ob)])) rfl rfl (hb hby d7_23)
  refine Go.st st41 ?_
  have f42 : Exa Z h41 ob "com/example/reportwire/reportwire/Arguments" := f32.wr W41
  have f43 : Fld Z h41 ob "com/example/reportwire/reportwire/Arguments" "optionsGiven" "Ljava/util/Set;" (.ref b2) := f33.other W41 (Or.inr (slot_ne (Or.inr (wdx hw 77 rfl)) (Or.inr (wdx hw 88 rfl)) (by decide) (t := (.object "java/util/Set")) (t' := (.array (.object "java/lang/String"))) (by decide) (by decide)))
  have f44 : Fld Z h41 ob "com/example/reportwire/reportwire/Arguments" "args" "[Ljava/lang/String;" (.ref b28) := f34.same W41
  have f45 : Fld Z h41 ob "com/example/reportwire/reportwire/Arguments" "next" "I" (.int (0 : Int32)) := f35.other W41 (Or.inr (slot_ne (Or.inl (wdx hw 106 rfl)) (Or.inr (wdx hw 88 rfl)) (by decide) (t := .int) (t' := (.array (.object "java/lang/String"))) (by decide) (by decide)))
  have f46 : Exa Z h41 aa "[Ljava/lang/String;" := f36.wr W41
  have f47 : Arv Z h41 aa ka (.object "java/lang/String") (3 : Int32) [(.ref sa), (.ref sb), (.ref sc)] .null := f37.other W41 (Ne.symm ne_oa)
  have f48 : Exa Z h41 b2 "java/util/HashSet" := f38.wr W41
  have f49 : Exa Z h41 b28 "[Ljava/lang/String;" := Ex28.wr W41
  have f50 : Arv Z h41 b28 ka (.object "java/lang/String") (3 : Int32) [(.ref sa), (.ref sb), (.ref sc)] .null := f39.other W41 (Ne.symm ne29)
  have O41 : Old Z n0 h41 := O28.wr W41 g_o
  have N41 := Fr.snoc X41 N20 g_o
  have K41 : Keep h0 h41 [ob] := K28.wr W41 (Or.inl (by simp))
  show Go p e below s _ _ _ (T41.setTop (mkF m 26 #[.val (.ref ob), .val (.ref aa)] []))
  refine Go.retV X41 hx hlk Bd.returns (hb hby d7_26) (by decide) (by decide) e41 ?_
  exact ⟨b28, ka, rfl, N41, K41, f44, f45, f50, z_b28⟩
theorem d15_0 : decode prog_7_method_7_code 0 = .ok (.aload_n 0, 1) := by decide +kernel
theorem d15_1 : decode prog_7_method_7_code 1 = .ok (.getfield 60, 3) := by decide +kernel
theorem d15_4 : decode prog_7_method_7_code 4 = .ok (.aload_n 0, 1) := by decide +kernel
theorem d15_5 : decode prog_7_method_7_code 5 = .ok (.getfield 22, 3) := by decide +kernel
theorem d15_8 : decode prog_7_method_7_code 8 = .ok (.arraylength, 1) := by decide +kernel
theorem d15_9 : decode prog_7_method_7_code 9 = .ok (.if_icmp .ge 7, 3) := by decide +kernel
theorem d15_12 : decode prog_7_method_7_code 12 = .ok (.iconst 1, 1) := by decide +kernel
theorem d15_13 : decode prog_7_method_7_code 13 = .ok (.goto 4, 3) := by decide +kernel
theorem d15_17 : decode prog_7_method_7_code 17 = .ok (.ireturn, 1) := by decide +kernel
theorem ef_rm15_3_0 (m : MethodId) (ob : Addr) : entryFrame m #[(.ref ob)] 1 = mkF m 0 #[.val (.ref ob)] [] := by first | (simp [entryFrame, mkF, argsToLocals, Value.category]; done) | rfl
def Q15_3_0 (Z : State) (ob : Addr) (na : Addr) (kn : ClassId) (sa : Addr) (sb : Addr) (sc : Addr) (h0 : Heap) (n0 : Nat) (v : Option Value) (h : Heap) (L : List Loc) : Prop := v = some (.int (1 : Int32)) ∧ Fr n0 L ∧ h = h0
set_option maxRecDepth 65536 in
set_option maxHeartbeats 40000000 in
theorem rm15_3_0 (l : Launch) (Z : State) (a0 : Array Value) (hw : ∀ d ∈ tables_1, d.before a0 Z = true) (ws : List Jvm.Cond) (ob : Addr) (na : Addr) (kn : ClassId) (sa : Addr) (sb : Addr) (sc : Addr) (h0 : Heap) (n0 : Nat) (O0 : Old Z n0 h0) (Fa : Fld Z h0 ob "com/example/reportwire/reportwire/Arguments" "args" "[Ljava/lang/String;" (.ref na)) (Fn : Fld Z h0 ob "com/example/reportwire/reportwire/Arguments" "next" "I" (.int (0 : Int32))) (Va : Arv Z h0 na kn (.object "java/lang/String") (3 : Int32) [(.ref sa), (.ref sb), (.ref sc)] .null) :
    MetFree l (⟨"com/example/reportwire/reportwire/Arguments", "hasNext", "()Z"⟩ : MethodName) (head1 (Jvm.Cond.code (⟨"com/example/reportwire/reportwire/Arguments", "hasNext", "()Z"⟩ : MethodName) prog_7_method_7_code 1 (some .boolean) :: ws) ({ frames := 0, cells := 0, slots := 0, locals := 0 } : Room)) (fun ay U => ay = #[(.ref ob)] ∧ Z.Warmed39 U.vm ∧ U.heap = h0) (fun _ _ _ _ _ => True) (fun _ U o U' => ∃ v L, o = .returned v ∧ Q15_3_0 Z ob na kn sa sb sc h0 n0 v U'.heap L ∧ FrameEnd U o U' L ({ frames := 0, cells := 0, slots := 0, locals := 0 } : Room).cells ({ frames := 0, cells := 0, slots := 0, locals := 0 } : Room).slots) := by
  refine MetFree.of_bodySF (plainFor_of_name pn_com_example_reportwire_reportwire_Arguments) hisR ?_
  intro p e s m args below meth c s₁ Bd hml0 hP hK
  obtain ⟨rfl, hZ, hh⟩ := hP
  have hx := Bd.exec
  have hby := Bd.bytes
  have hlk : meth.locks = false := BodyLoose.notSynchronized Bd
  have hml : c.maxLocals = 1 := hml0
  have hown : s.vm.findClass "com/example/reportwire/reportwire/Arguments" = some m.cls := findClass_of_methodNamed Bd.named
  have hnm := (name_of_methodNamed Bd.named Bd.method).1
  have X0 : Stand p l e ({ frames := 0, cells := 0, slots := 0, locals := 0 } : Room) s m #[(.ref ob)] below meth c s₁ [] 0 0 := Stand.of_body Bd
  have e0 : s₁.heap = h0 := by rw [← hh, Bd.state]; rfl
  have N0 := Fr.nil n0
  suffices hgo : Go p e below s 0 0 (Q15_3_0 Z ob na kn sa sb sc h0 n0) (s₁.setTop (mkF m 0 #[.val (.ref ob)] [])) by
    obtain ⟨t, o, h1, h2⟩ := hgo; exact ⟨t, o, castTop (ef_rm15_3_0 m ob) h1, h2⟩
  show Go p e below s _ _ _ (s₁.setTop (mkF m 0 #[.val (.ref ob)] []))
  refine Go.st (fun _ k' => XS.aloadN X0.here hx rfl (hb hby d15_0) rfl rfl k') ?_
  show Go p e below s _ _ _ (s₁.setTop (mkF m 1 #[.val (.ref ob)] [(.ref ob)]))
  obtain ⟨T1, X1, e1, st1⟩ := getF X0 hx hZ hown (host := "") (Or.inl (wdx hw 105 rfl)) Via.refl e0 Fn (g := (mkF m 1 #[.val (.ref ob)] [(.ref ob)])) rfl rfl (hb hby d15_1)
  refine Go.st st1 ?_
  show Go p e below s _ _ _ (T1.setTop (mkF m 4 #[.val (.ref ob)] [(.int (0 : Int32))]))
  refine Go.st (fun _ k' => XS.aloadN X1.here hx rfl (hb hby d15_4) rfl rfl k') ?_
  show Go p e below s _ _ _ (T1.setTop (mkF m 5 #[.val (.ref ob)] [(.ref ob), (.int (0 : Int32))]))
  obtain ⟨T2, X2, e2, st2⟩ := getF X1 hx hZ hown (host := "") (Or.inl (wdx hw 87 rfl)) Via.refl e1 Fa (g := (mkF m 5 #[.val (.ref ob)] [(.ref ob), (.int (0 : Int32))])) rfl rfl (hb hby d15_5)
  refine Go.st st2 ?_
  show Go p e below s _ _ _ (T2.setTop (mkF m 8 #[.val (.ref ob)] [(.ref na), (.int (0 : Int32))]))
  obtain ⟨cl3, Ar3, qc3, Sz3, Nn3, Ha3, Gf3⟩ := id Va
  refine Go.st (fun _ k' => X2.arraylength hx (by rw [e2]; exact Ar3.1) (State.isArrayOf_alike hZ.alike Ar3.2.1) (g := (mkF m 8 #[.val (.ref ob)] [(.ref na), (.int (0 : Int32))])) rfl rfl (hb hby d15_8) _ k') ?_
  rw [len_of Sz3 Nn3]
  show Go p e below s _ _ _ (T2.setTop (mkF m 9 #[.val (.ref ob)] [(.int (3 : Int32)), (.int (0 : Int32))]))
  refine Go.st (fun _ k' => XS.icmpNo X2.here hx rfl (hb hby d15_9) rfl (XT.ii_ge_f (by decide)) k') ?_
  show Go p e below s _ _ _ (T2.setTop (mkF m 12 #[.val (.ref ob)] []))
  refine Go.st (fun _ k' => XS.iconst X2.here hx rfl (hb hby d15_12) k') ?_
  show Go p e below s _ _ _ (T2.setTop (mkF m 13 #[.val (.ref ob)] [(.int (1 : Int32))]))
  refine Go.st (fun _ k' => XS.goto X2.here hx rfl (pc0 := 13) (pc' := 17) rfl (hb hby d15_13) (by decide) (by decide) k') ?_
  show Go p e below s _ _ _ (T2.setTop (mkF m 17 #[.val (.ref ob)] [(.int (1 : Int32))]))
  refine Go.retB X2 hx hlk (t := .boolean) Bd.returns (by simp) (hb hby d15_17) (by decide) (by decide) e2 ?_
  exact ⟨rfl, N0, rfl⟩
theorem d14_0 : decode prog_7_method_9_code 0 = .ok (.aload_n 0, 1) := by decide +kernel
theorem pd___Z : parseMethodDescriptor "()Z" = some ⟨[], some .boolean⟩ := by decide +kernel
theorem d14_1 : decode prog_7_method_9_code 1 = .ok (.invokevirtual 70, 3) := by decide +kernel
theorem d14_4 : decode prog_7_method_9_code 4 = .ok (.ifCond .ne 13, 3) := by decide +kernel
theorem d14_17 : decode prog_7_method_9_code 17 = .ok (.aload_n 0, 1) := by decide +kernel
theorem d14_18 : decode prog_7_method_9_code 18 = .ok (.getfield 22, 3) := by decide +kernel
theorem d14_21 : decode prog_7_method_9_code 21 = .ok (.aload_n 0, 1) := by decide +kernel
theorem d14_22 : decode prog_7_method_9_code 22 = .ok (.getfield 60, 3) := by decide +kernel
theorem d14_25 : decode prog_7_method_9_code 25 = .ok (.aaload, 1) := by decide +kernel
theorem d14_26 : decode prog_7_method_9_code 26 = .ok (.areturn, 1) := by decide +kernel
theorem ef_rm14_3_0 (m : MethodId) (ob : Addr) : entryFrame m #[(.ref ob)] 1 = mkF m 0 #[.val (.ref ob)] [] := by first | (simp [entryFrame, mkF, argsToLocals, Value.category]; done) | rfl
def Q14_3_0 (Z : State) (ob : Addr) (na : Addr) (kn : ClassId) (sa : Addr) (sb : Addr) (sc : Addr) (h0 : Heap) (n0 : Nat) (v : Option Value) (h : Heap) (L : List Loc) : Prop := v = some (.ref sa) ∧ Fr n0 L ∧ h = h0
set_option maxRecDepth 65536 in
set_option maxHeartbeats 40000000 in
theorem rm14_3_0 (l : Launch) (Z : State) (a0 : Array Value) (hw : ∀ d ∈ tables_1, d.before a0 Z = true) (ws : List Jvm.Cond) (ob : Addr) (na : Addr) (kn : ClassId) (sa : Addr) (sb : Addr) (sc : Addr) (h0 : Heap) (n0 : Nat) (O0 : Old Z n0 h0) (E_o : Exa Z h0 ob "com/example/reportwire/reportwire/Arguments") (Fa : Fld Z h0 ob "com/example/reportwire/reportwire/Arguments" "args" "[Ljava/lang/String;" (.ref na)) (Fn : Fld Z h0 ob "com/example/reportwire/reportwire/Arguments" "next" "I" (.int (0 : Int32))) (Va : Arv Z h0 na kn (.object "java/lang/String") (3 : Int32) [(.ref sa), (.ref sb), (.ref sc)] .null) :
    MetFree l (⟨"com/example/reportwire/reportwire/Arguments", "peek", "()Ljava/lang/String;"⟩ : MethodName) (head1 (Jvm.Cond.code (⟨"com/example/reportwire/reportwire/Arguments", "peek", "()Ljava/lang/String;"⟩ : MethodName) prog_7_method_9_code 1 (some (.object "java/lang/String")) :: ws) ({ frames := 1, cells := 0, slots := 0, locals := 12 } : Room)) (fun ay U => ay = #[(.ref ob)] ∧ Z.Warmed39 U.vm ∧ U.heap = h0) (fun _ _ _ _ _ => True) (fun _ U o U' => ∃ v L, o = .returned v ∧ Q14_3_0 Z ob na kn sa sb sc h0 n0 v U'.heap L ∧ FrameEnd U o U' L ({ frames := 1, cells := 0, slots := 0, locals := 12 } : Room).cells ({ frames := 1, cells := 0, slots := 0, locals := 12 } : Room).slots) := by
  refine MetFree.of_bodySF (plainFor_of_name pn_com_example_reportwire_reportwire_Arguments) hisR ?_
  intro p e s m args below meth c s₁ Bd hml0 hP hK
  obtain ⟨rfl, hZ, hh⟩ := hP
  have hx := Bd.exec
  have hby := Bd.bytes
  have hlk : meth.locks = false := BodyLoose.notSynchronized Bd
  have hml : c.maxLocals = 1 := hml0
  have hown : s.vm.findClass "com/example/reportwire/reportwire/Arguments" = some m.cls := findClass_of_methodNamed Bd.named
  have hnm := (name_of_methodNamed Bd.named Bd.method).1
  have X0 : Stand p l e ({ frames := 1, cells := 0, slots := 0, locals := 12 } : Room) s m #[(.ref ob)] below meth c s₁ [] 0 0 := Stand.of_body Bd
  have e0 : s₁.heap = h0 := by rw [← hh, Bd.state]; rfl
  have N0 := Fr.nil n0
  suffices hgo : Go p e below s 0 0 (Q14_3_0 Z ob na kn sa sb sc h0 n0) (s₁.setTop (mkF m 0 #[.val (.ref ob)] [])) by
    obtain ⟨t, o, h1, h2⟩ := hgo; exact ⟨t, o, castTop (ef_rm14_3_0 m ob) h1, h2⟩
  show Go p e below s _ _ _ (s₁.setTop (mkF m 0 #[.val (.ref ob)] []))
  refine Go.st (fun _ k' => XS.aloadN X0.here hx rfl (hb hby d14_0) rfl rfl k') ?_
  show Go p e below s _ _ _ (s₁.setTop (mkF m 1 #[.val (.ref ob)] [(.ref ob)]))
  obtain ⟨cq1, kq1, q1a, q1b, q1c⟩ := isOf hZ e0 E_o
  obtain ⟨_, _, ⟨T1, L1, k1, n1⟩, -, X1, ⟨Lc1, hQ1, l1, y1, z1⟩, st1⟩ := X0.virtualBack hx (y := (⟨"com/example/reportwire/reportwire/Arguments", "hasNext", "()Z"⟩ : MethodName)) (z := (⟨"com/example/reportwire/reportwire/Arguments", "hasNext", "()Z"⟩ : MethodName)) hown (mvT hZ (wdx hw 100 rfl)) (mvT hZ (wdx hw 101 rfl)) (notFace_of_selects (args := #[]) (mvT hZ (wdx hw 103 rfl))) (mvT hZ (wdx hw 103 rfl)) (mvT hZ (wdx hw 102 rfl)) (by decide) (backOf (W := 0) (rm15_3_0 l Z a0 hw [] ob na kn sa sb sc h0 n0 O0 Fa Fn Va) hZ (wdx hw 104 rfl) (wdx hw 32 rfl) (by decide) (by decide)) q1a q1c (g := (mkF m 1 #[.val (.ref ob)] [(.ref ob)])) rfl (by rw [hml]; rfl) (Steps.refl _) (argsL := []) (rest := []) (lenOf pd___Z rfl) rfl (by show 2 * 0 + _ ≤ _; exact Nat.le_of_eq rfl) (hb hby d14_1) (fun _ _ => ⟨rfl, e0, (by exact Nat.le_of_ble_eq_true rfl), (by exact Nat.le_of_ble_eq_true rfl)⟩)
  dsimp only [Pt.U, Pt.locs, Pt.cells, Pt.slots] at X1 l1 y1 z1 st1 hQ1
  subst l1 y1 z1
  obtain ⟨rfl, Nq1, eq1⟩ := hQ1
  have N1 := Fr.app N0 Nq1
  refine Go.tr st1 ?_
  show Go p e below s _ _ _ (T1.setTop (mkF m 4 #[.val (.ref ob)] [(.int (1 : Int32))]))
  refine Go.st (fun _ k' => XS.ifYes X1.here hx rfl (pc0 := 4) (pc' := 17) rfl (hb hby d14_4) rfl (XT.i0_ne_t (by decide)) (by decide) (by decide) k') ?_
  show Go p e below s _ _ _ (T1.setTop (mkF m 17 #[.val (.ref ob)] []))
  refine Go.st (fun _ k' => XS.aloadN X1.here hx rfl (hb hby d14_17) rfl rfl k') ?_
  show Go p e below s _ _ _ (T1.setTop (mkF m 18 #[.val (.ref ob)] [(.ref ob)]))
  obtain ⟨T2, X2, e2, st2⟩ := getF X1 hx hZ hown (host := "") (Or.inl (wdx hw 87 rfl)) Via.refl eq1 Fa (g := (mkF m 18 #[.val (.ref ob)] [(.ref ob)])) rfl rfl (hb hby d14_18)
  refine Go.st st2 ?_
  show Go p e below s _ _ _ (T2.setTop (mkF m 21 #[.val (.ref ob)] [(.ref na)]))
  refine Go.st (fun _ k' => XS.aloadN X2.here hx rfl (hb hby d14_21) rfl rfl k') ?_
  show Go p e below s _ _ _ (T2.setTop (mkF m 22 #[.val (.ref ob)] [(.ref ob), (.ref na)]))
  obtain ⟨T3, X3, e3, st3⟩ := getF X2 hx hZ hown (host := "") (Or.inl (wdx hw 105 rfl)) Via.refl e2 Fn (g := (mkF m 22 #[.val (.ref ob)] [(.ref ob), (.ref na)])) rfl rfl (hb hby d14_22)
  refine Go.st st3 ?_
  show Go p e below s _ _ _ (T3.setTop (mkF m 25 #[.val (.ref ob)] [(.int (0 : Int32)), (.ref na)]))
  obtain ⟨cl4, Ar4, qc4, Sz4, Nn4, Ha4, Gf4⟩ := id Va
  refine Go.st (fun _ k' => X3.aaload hx (j := (0 : Int32)) (v := (.ref sa)) (by rw [e3]; exact Ar4.1) (State.isArrayOf_alike hZ.alike Ar4.2.1) rfl Ar4.2.2 (inb_of Sz4 ⟨by decide, by decide⟩) (Ha4.at (inb_of Sz4 ⟨by decide, by decide⟩) rfl) (g := (mkF m 25 #[.val (.ref ob)] [(.int (0 : Int32)), (.ref na)])) rfl rfl (hb hby d14_25) _ k') ?_
  show Go p e below s _ _ _ (T3.setTop (mkF m 26 #[.val (.ref ob)] [(.ref sa)]))
  refine Go.ret X3 hx hlk (t := (.object "java/lang/String")) Bd.returns rfl (Or.inr (Or.inr (Or.inr (Or.inr ⟨rfl, rfl, rfl⟩)))) (hb hby d14_26) (by decide) (by decide) e3 ?_
  exact ⟨rfl, N1, rfl⟩
theorem d13_0 : decode prog_7_method_10_code 0 = .ok (.aload_n 0, 1) := by decide +kernel
theorem pd___Ljava_lang_String_ : parseMethodDescriptor "()Ljava/lang/String;" = some ⟨[], some (.object "java/lang/String")⟩ := by decide +kernel
theorem d13_1 : decode prog_7_method_10_code 1 = .ok (.invokevirtual 76, 3) := by decide +kernel
theorem d13_4 : decode prog_7_method_10_code 4 = .ok (.astore_n 1, 1) := by decide +kernel
theorem d13_5 : decode prog_7_method_10_code 5 = .ok (.aload_n 0, 1) := by decide +kernel
theorem d13_6 : decode prog_7_method_10_code 6 = .ok (.dup, 1) := by decide +kernel
theorem d13_7 : decode prog_7_method_10_code 7 = .ok (.getfield 60, 3) := by decide +kernel
theorem d13_10 : decode prog_7_method_10_code 10 = .ok (.iconst 1, 1) := by decide +kernel
theorem d13_11 : decode prog_7_method_10_code 11 = .ok (.iadd, 1) := by decide +kernel
theorem d13_12 : decode prog_7_method_10_code 12 = .ok (.putfield 60, 3) := by decide +kernel
theorem d13_15 : decode prog_7_method_10_code 15 = .ok (.aload_n 1, 1) := by decide +kernel
theorem d13_16 : decode prog_7_method_10_code 16 = .ok (.areturn, 1) := by decide +kernel
theorem ef_rm13_3_0 (m : MethodId) (ob : Addr) : entryFrame m #[(.ref ob)] 2 = mkF m 0 #[.val (.ref ob), .unset] [] := by first | (simp [entryFrame, mkF, argsToLocals, Value.category]; done) | rfl
def Q13_3_0 (Z : State) (ob : Addr) (na : Addr) (kn : ClassId) (sa : Addr) (sb : Addr) (sc : Addr) (h0 : Heap) (n0 : Nat) (v : Option Value) (h : Heap) (L : List Loc) : Prop := v = some (.ref sa) ∧ Fr n0 L ∧ Keep h0 h [ob] ∧ Fld Z h ob "com/example/reportwire/reportwire/Arguments" "args" "[Ljava/lang/String;" (.ref na) ∧ Fld Z h ob "com/example/reportwire/reportwire/Arguments" "next" "I" (.int (1 : Int32))
set_option maxRecDepth 65536 in
set_option maxHeartbeats 40000000 in
theorem rm13_3_0 (l : Launch) (Z : State) (a0 : Array Value) (hw : ∀ d ∈ tables_1, d.before a0 Z = true) (ws : List Jvm.Cond) (ob : Addr) (na : Addr) (kn : ClassId) (sa : Addr) (sb : Addr) (sc : Addr) (h0 : Heap) (n0 : Nat) (O0 : Old Z n0 h0) (E_o : Exa Z h0 ob "com/example/reportwire/reportwire/Arguments") (Fa : Fld Z h0 ob "com/example/reportwire/reportwire/Arguments" "args" "[Ljava/lang/String;" (.ref na)) (Fn : Fld Z h0 ob "com/example/reportwire/reportwire/Arguments" "next" "I" (.int (0 : Int32))) (Va : Arv Z h0 na kn (.object "java/lang/String") (3 : Int32) [(.ref sa), (.ref sb), (.ref sc)] .null) (g_o : n0 ≤ ob) (ne_on : ob ≠ na) :
    MetFree l (⟨"com/example/reportwire/reportwire/Arguments", "next", "()Ljava/lang/String;"⟩ : MethodName) (head1 (Jvm.Cond.code (⟨"com/example/reportwire/reportwire/Arguments", "next", "()Ljava/lang/String;"⟩ : MethodName) prog_7_method_10_code 2 (some (.object "java/lang/String")) :: ws) ({ frames := 2, cells := 0, slots := 0, locals := 24 } : Room)) (fun ay U => ay = #[(.ref ob)] ∧ Z.Warmed39 U.vm ∧ U.heap = h0) (fun _ _ _ _ _ => True) (fun _ U o U' => ∃ v L, o = .returned v ∧ Q13_3_0 Z ob na kn sa sb sc h0 n0 v U'.heap L ∧ FrameEnd U o U' L ({ frames := 2, cells := 0, slots := 0, locals := 24 } : Room).cells ({ frames := 2, cells := 0, slots := 0, locals := 24 } : Room).slots) := by
  refine MetFree.of_bodySF (plainFor_of_name pn_com_example_reportwire_reportwire_Arguments) hisR ?_
  intro p e s m args below meth c s₁ Bd hml0 hP hK
  obtain ⟨rfl, hZ, hh⟩ := hP
  have hx := Bd.exec
  have hby := Bd.bytes
  have hlk : meth.locks = false := BodyLoose.notSynchronized Bd
  have hml : c.maxLocals = 2 := hml0
  have hown : s.vm.findClass "com/example/reportwire/reportwire/Arguments" = some m.cls := findClass_of_methodNamed Bd.named
  have hnm := (name_of_methodNamed Bd.named Bd.method).1
  have X0 : Stand p l e ({ frames := 2, cells := 0, slots := 0, locals := 24 } : Room) s m #[(.ref ob)] below meth c s₁ [] 0 0 := Stand.of_body Bd
  have e0 : s₁.heap = h0 := by rw [← hh, Bd.state]; rfl
  have N0 := Fr.nil n0
  suffices hgo : Go p e below s 0 0 (Q13_3_0 Z ob na kn sa sb sc h0 n0) (s₁.setTop (mkF m 0 #[.val (.ref ob), .unset] [])) by
    obtain ⟨t, o, h1, h2⟩ := hgo; exact ⟨t, o, castTop (ef_rm13_3_0 m ob) h1, h2⟩
  show Go p e below s _ _ _ (s₁.setTop (mkF m 0 #[.val (.ref ob), .unset] []))
  refine Go.st (fun _ k' => XS.aloadN X0.here hx rfl (hb hby d13_0) rfl rfl k') ?_
  show Go p e below s _ _ _ (s₁.setTop (mkF m 1 #[.val (.ref ob), .unset] [(.ref ob)]))
  obtain ⟨cq1, kq1, q1a, q1b, q1c⟩ := isOf hZ e0 E_o
  obtain ⟨_, _, ⟨T1, L1, k1, n1⟩, -, X1, ⟨Lc1, hQ1, l1, y1, z1⟩, st1⟩ := X0.virtualBack hx (y := (⟨"com/example/reportwire/reportwire/Arguments", "peek", "()Ljava/lang/String;"⟩ : MethodName)) (z := (⟨"com/example/reportwire/reportwire/Arguments", "peek", "()Ljava/lang/String;"⟩ : MethodName)) hown (mvT hZ (wdx hw 95 rfl)) (mvT hZ (wdx hw 96 rfl)) (notFace_of_selects (args := #[]) (mvT hZ (wdx hw 98 rfl))) (mvT hZ (wdx hw 98 rfl)) (mvT hZ (wdx hw 97 rfl)) (by decide) (backOf (W := 0) (rm14_3_0 l Z a0 hw [] ob na kn sa sb sc h0 n0 O0 E_o Fa Fn Va) hZ (wdx hw 99 rfl) (wdx hw 32 rfl) (by decide) (by decide)) q1a q1c (g := (mkF m 1 #[.val (.ref ob), .unset] [(.ref ob)])) rfl (by rw [hml]; rfl) (Steps.refl _) (argsL := []) (rest := []) (lenOf pd___Ljava_lang_String_ rfl) rfl (by show 2 * 0 + _ ≤ _; exact Nat.le_of_eq rfl) (hb hby d13_1) (fun _ _ => ⟨rfl, e0, (by exact Nat.le_of_ble_eq_true rfl), (by exact Nat.le_of_ble_eq_true rfl)⟩)
  dsimp only [Pt.U, Pt.locs, Pt.cells, Pt.slots] at X1 l1 y1 z1 st1 hQ1
  subst l1 y1 z1
  obtain ⟨rfl, Nq1, eq1⟩ := hQ1
  have N1 := Fr.app N0 Nq1
  refine Go.tr st1 ?_
  show Go p e below s _ _ _ (T1.setTop (mkF m 4 #[.val (.ref ob), .unset] [(.ref sa)]))
  refine Go.st (fun _ k' => XS.astoreN X1.here hx rfl (hb hby d13_4) rfl rfl (l' := #[.val (.ref ob), .val (.ref sa)]) rfl k') ?_
  show Go p e below s _ _ _ (T1.setTop (mkF m 5 #[.val (.ref ob), .val (.ref sa)] []))
  refine Go.st (fun _ k' => XS.aloadN X1.here hx rfl (hb hby d13_5) rfl rfl k') ?_
  show Go p e below s _ _ _ (T1.setTop (mkF m 6 #[.val (.ref ob), .val (.ref sa)] [(.ref ob)]))
  refine Go.st (fun _ k' => XS.dup X1.here hx rfl (hb hby d13_6) rfl rfl k') ?_
  show Go p e below s _ _ _ (T1.setTop (mkF m 7 #[.val (.ref ob), .val (.ref sa)] [(.ref ob), (.ref ob)]))
  obtain ⟨T2, X2, e2, st2⟩ := getF X1 hx hZ hown (host := "") (Or.inl (wdx hw 105 rfl)) Via.refl eq1 Fn (g := (mkF m 7 #[.val (.ref ob), .val (.ref sa)] [(.ref ob), (.ref ob)])) rfl rfl (hb hby d13_7)
  refine Go.st st2 ?_
  show Go p e below s _ _ _ (T2.setTop (mkF m 10 #[.val (.ref ob), .val (.ref sa)] [(.int (0 : Int32)), (.ref ob)]))
  refine Go.st (fun _ k' => XS.iconst X2.here hx rfl (hb hby d13_10) k') ?_
  show Go p e below s _ _ _ (T2.setTop (mkF m 11 #[.val (.ref ob), .val (.ref sa)] [(.int (1 : Int32)), (.int (0 : Int32)), (.ref ob)]))
  refine Go.st (fun _ k' => XS.iadd X2.here hx rfl (hb hby d13_11) rfl k') ?_
  show Go p e below s _ _ _ (T2.setTop (mkF m 12 #[.val (.ref ob), .val (.ref sa)] [(.int (1 : Int32)), (.ref ob)]))
  obtain ⟨T3, h3, X3, e3, W3, st3⟩ := putF X2 hx hZ hown (host := "") (Or.inl (wdx hw 105 rfl)) Via.refl e2 Fn E_o (Or.inl (wdx hw 106 rfl)) (wdx hw 31 rfl) (ty := .int) (by decide) rfl rfl (g := (mkF m 12 #[.val (.ref ob), .val (.ref sa)] [(.int (1 : Int32)), (.ref ob)])) rfl rfl (hb hby d13_12)
  refine Go.st st3 ?_
  have f4 : Exa Z h3 ob "com/example/reportwire/reportwire/Arguments" := E_o.wr W3
  have f5 : Fld Z h3 ob "com/example/reportwire/reportwire/Arguments" "args" "[Ljava/lang/String;" (.ref na) := Fa.other W3 (Or.inr (slot_ne (Or.inr (wdx hw 88 rfl)) (Or.inl (wdx hw 106 rfl)) (by decide) (t := (.array (.object "java/lang/String"))) (t' := .int) (by decide) (by decide)))
  have f6 : Fld Z h3 ob "com/example/reportwire/reportwire/Arguments" "next" "I" (.int (1 : Int32)) := Fn.same W3
  have f7 : Arv Z h3 na kn (.object "java/lang/String") (3 : Int32) [(.ref sa), (.ref sb), (.ref sc)] .null := Va.other W3 (Ne.symm ne_on)
  have O3 : Old Z n0 h3 := O0.wr W3 g_o
  have N3 := Fr.snoc X3 N1 g_o
  have K3 : Keep h0 h3 [ob] := (Keep.refl h0 [ob]).wr W3 (Or.inl (by simp))
  show Go p e below s _ _ _ (T3.setTop (mkF m 15 #[.val (.ref ob), .val (.ref sa)] []))
  refine Go.st (fun _ k' => XS.aloadN X3.here hx rfl (hb hby d13_15) rfl rfl k') ?_
  show Go p e below s _ _ _ (T3.setTop (mkF m 16 #[.val (.ref ob), .val (.ref sa)] [(.ref sa)]))
  refine Go.ret X3 hx hlk (t := (.object "java/lang/String")) Bd.returns rfl (Or.inr (Or.inr (Or.inr (Or.inr ⟨rfl, rfl, rfl⟩)))) (hb hby d13_16) (by decide) (by decide) e3 ?_
  exact ⟨rfl, N3, K3, f5, f6⟩
theorem ef_rm15_3_1 (m : MethodId) (ob : Addr) : entryFrame m #[(.ref ob)] 1 = mkF m 0 #[.val (.ref ob)] [] := by first | (simp [entryFrame, mkF, argsToLocals, Value.category]; done) | rfl
def Q15_3_1 (Z : State) (ob : Addr) (na : Addr) (kn : ClassId) (sa : Addr) (sb : Addr) (sc : Addr) (h0 : Heap) (n0 : Nat) (v : Option Value) (h : Heap) (L : List Loc) : Prop := v = some (.int (1 : Int32)) ∧ Fr n0 L ∧ h = h0
set_option maxRecDepth 65536 in
set_option maxHeartbeats 40000000 in
theorem rm15_3_1 (l : Launch) (Z : State) (a0 : Array Value) (hw : ∀ d ∈ tables_1, d.before a0 Z = true) (ws : List Jvm.Cond) (ob : Addr) (na : Addr) (kn : ClassId) (sa : Addr) (sb : Addr) (sc : Addr) (h0 : Heap) (n0 : Nat) (O0 : Old Z n0 h0) (Fa : Fld Z h0 ob "com/example/reportwire/reportwire/Arguments" "args" "[Ljava/lang/String;" (.ref na)) (Fn : Fld Z h0 ob "com/example/reportwire/reportwire/Arguments" "next" "I" (.int (1 : Int32))) (Va : Arv Z h0 na kn (.object "java/lang/String") (3 : Int32) [(.ref sa), (.ref sb), (.ref sc)] .null) :
    MetFree l (⟨"com/example/reportwire/reportwire/Arguments", "hasNext", "()Z"⟩ : MethodName) (head1 (Jvm.Cond.code (⟨"com/example/reportwire/reportwire/Arguments", "hasNext", "()Z"⟩ : MethodName) prog_7_method_7_code 1 (some .boolean) :: ws) ({ frames := 0, cells := 0, slots := 0, locals := 0 } : Room)) (fun ay U => ay = #[(.ref ob)] ∧ Z.Warmed39 U.vm ∧ U.heap = h0) (fun _ _ _ _ _ => True) (fun _ U o U' => ∃ v L, o = .returned v ∧ Q15_3_1 Z ob na kn sa sb sc h0 n0 v U'.heap L ∧ FrameEnd U o U' L ({ frames := 0, cells := 0, slots := 0, locals := 0 } : Room).cells ({ frames := 0, cells := 0, slots := 0, locals := 0 } : Room).slots) := by
  refine MetFree.of_bodySF (plainFor_of_name pn_com_example_reportwire_reportwire_Arguments) hisR ?_
  intro p e s m args below meth c s₁ Bd hml0 hP hK
  obtain ⟨rfl, hZ, hh⟩ := hP
  have hx := Bd.exec
  have hby := Bd.bytes
  have hlk : meth.locks = false := BodyLoose.notSynchronized Bd
  have hml : c.maxLocals = 1 := hml0
  have hown : s.vm.findClass "com/example/reportwire/reportwire/Arguments" = some m.cls := findClass_of_methodNamed Bd.named
  have hnm := (name_of_methodNamed Bd.named Bd.method).1
  have X0 : Stand p l e ({ frames := 0, cells := 0, slots := 0, locals := 0 } : Room) s m #[(.ref ob)] below meth c s₁ [] 0 0 := Stand.of_body Bd
  have e0 : s₁.heap = h0 := by rw [← hh, Bd.state]; rfl
  have N0 := Fr.nil n0
  suffices hgo : Go p e below s 0 0 (Q15_3_1 Z ob na kn sa sb sc h0 n0) (s₁.setTop (mkF m 0 #[.val (.ref ob)] [])) by
    obtain ⟨t, o, h1, h2⟩ := hgo; exact ⟨t, o, castTop (ef_rm15_3_1 m ob) h1, h2⟩
  show Go p e below s _ _ _ (s₁.setTop (mkF m 0 #[.val (.ref ob)] []))
  refine Go.st (fun _ k' => XS.aloadN X0.here hx rfl (hb hby d15_0) rfl rfl k') ?_
  show Go p e below s _ _ _ (s₁.setTop (mkF m 1 #[.val (.ref ob)] [(.ref ob)]))
  obtain ⟨T1, X1, e1, st1⟩ := getF X0 hx hZ hown (host := "") (Or.inl (wdx hw 105 rfl)) Via.refl e0 Fn (g := (mkF m 1 #[.val (.ref ob)] [(.ref ob)])) rfl rfl (hb hby d15_1)
  refine Go.st st1 ?_
  show Go p e below s _ _ _ (T1.setTop (mkF m 4 #[.val (.ref ob)] [(.int (1 : Int32))]))
  refine Go.st (fun _ k' => XS.aloadN X1.here hx rfl (hb hby d15_4) rfl rfl k') ?_
  show Go p e below s _ _ _ (T1.setTop (mkF m 5 #[.val (.ref ob)] [(.ref ob), (.int (1 : Int32))]))
  obtain ⟨T2, X2, e2, st2⟩ := getF X1 hx hZ hown (host := "") (Or.inl (wdx hw 87 rfl)) Via.refl e1 Fa (g := (mkF m 5 #[.val (.ref ob)] [(.ref ob), (.int (1 : Int32))])) rfl rfl (hb hby d15_5)
  refine Go.st st2 ?_
  show Go p e below s _ _ _ (T2.setTop (mkF m 8 #[.val (.ref ob)] [(.ref na), (.int (1 : Int32))]))
  obtain ⟨cl3, Ar3, qc3, Sz3, Nn3, Ha3, Gf3⟩ := id Va
  refine Go.st (fun _ k' => X2.arraylength hx (by rw [e2]; exact Ar3.1) (State.isArrayOf_alike hZ.alike Ar3.2.1) (g := (mkF m 8 #[.val (.ref ob)] [(.ref na), (.int (1 : Int32))])) rfl rfl (hb hby d15_8) _ k') ?_
  rw [len_of Sz3 Nn3]
  show Go p e below s _ _ _ (T2.setTop (mkF m 9 #[.val (.ref ob)] [(.int (3 : Int32)), (.int (1 : Int32))]))
  refine Go.st (fun _ k' => XS.icmpNo X2.here hx rfl (hb hby d15_9) rfl (XT.ii_ge_f (by decide)) k') ?_
  show Go p e below s _ _ _ (T2.setTop (mkF m 12 #[.val (.ref ob)] []))
  refine Go.st (fun _ k' => XS.iconst X2.here hx rfl (hb hby d15_12) k') ?_
  show Go p e below s _ _ _ (T2.setTop (mkF m 13 #[.val (.ref ob)] [(.int (1 : Int32))]))
  refine Go.st (fun _ k' => XS.goto X2.here hx rfl (pc0 := 13) (pc' := 17) rfl (hb hby d15_13) (by decide) (by decide) k') ?_
  show Go p e below s _ _ _ (T2.setTop (mkF m 17 #[.val (.ref ob)] [(.int (1 : Int32))]))
  refine Go.retB X2 hx hlk (t := .boolean) Bd.returns (by simp) (hb hby d15_17) (by decide) (by decide) e2 ?_
  exact ⟨rfl, N0, rfl⟩
theorem ef_rm14_3_1 (m : MethodId) (ob : Addr) : entryFrame m #[(.ref ob)] 1 = mkF m 0 #[.val (.ref ob)] [] := by first | (simp [entryFrame, mkF, argsToLocals, Value.category]; done) | rfl
def Q14_3_1 (Z : State) (ob : Addr) (na : Addr) (kn : ClassId) (sa : Addr) (sb : Addr) (sc : Addr) (h0 : Heap) (n0 : Nat) (v : Option Value) (h : Heap) (L : List Loc) : Prop := v = some (.ref sb) ∧ Fr n0 L ∧ h = h0
set_option maxRecDepth 65536 in
set_option maxHeartbeats 40000000 in
theorem rm14_3_1 (l : Launch) (Z : State) (a0 : Array Value) (hw : ∀ d ∈ tables_1, d.before a0 Z = true) (ws : List Jvm.Cond) (ob : Addr) (na : Addr) (kn : ClassId) (sa : Addr) (sb : Addr) (sc : Addr) (h0 : Heap) (n0 : Nat) (O0 : Old Z n0 h0) (E_o : Exa Z h0 ob "com/example/reportwire/reportwire/Arguments") (Fa : Fld Z h0 ob "com/example/reportwire/reportwire/Arguments" "args" "[Ljava/lang/String;" (.ref na)) (Fn : Fld Z h0 ob "com/example/reportwire/reportwire/Arguments" "next" "I" (.int (1 : Int32))) (Va : Arv Z h0 na kn (.object "java/lang/String") (3 : Int32) [(.ref sa), (.ref sb), (.ref sc)] .null) :
    MetFree l (⟨"com/example/reportwire/reportwire/Arguments", "peek", "()Ljava/lang/String;"⟩ : MethodName) (head1 (Jvm.Cond.code (⟨"com/example/reportwire/reportwire/Arguments", "peek", "()Ljava/lang/String;"⟩ : MethodName) prog_7_method_9_code 1 (some (.object "java/lang/String")) :: ws) ({ frames := 1, cells := 0, slots := 0, locals := 12 } : Room)) (fun ay U => ay = #[(.ref ob)] ∧ Z.Warmed39 U.vm ∧ U.heap = h0) (fun _ _ _ _ _ => True) (fun _ U o U' => ∃ v L, o = .returned v ∧ Q14_3_1 Z ob na kn sa sb sc h0 n0 v U'.heap L ∧ FrameEnd U o U' L ({ frames := 1, cells := 0, slots := 0, locals := 12 } : Room).cells ({ frames := 1, cells := 0, slots := 0, locals := 12 } : Room).slots) := by
  refine MetFree.of_bodySF (plainFor_of_name pn_com_example_reportwire_reportwire_Arguments) hisR ?_
  intro p e s m args below meth c s₁ Bd hml0 hP hK
  obtain ⟨rfl, hZ, hh⟩ := hP
  have hx := Bd.exec
  have hby := Bd.bytes
  have hlk : meth.locks = false := BodyLoose.notSynchronized Bd
  have hml : c.maxLocals = 1 := hml0
  have hown : s.vm.findClass "com/example/reportwire/reportwire/Arguments" = some m.cls := findClass_of_methodNamed Bd.named
  have hnm := (name_of_methodNamed Bd.named Bd.method).1
  have X0 : Stand p l e ({ frames := 1, cells := 0, slots := 0, locals := 12 } : Room) s m #[(.ref ob)] below meth c s₁ [] 0 0 := Stand.of_body Bd
  have e0 : s₁.heap = h0 := by rw [← hh, Bd.state]; rfl
  have N0 := Fr.nil n0
  suffices hgo : Go p e below s 0 0 (Q14_3_1 Z ob na kn sa sb sc h0 n0) (s₁.setTop (mkF m 0 #[.val (.ref ob)] [])) by
    obtain ⟨t, o, h1, h2⟩ := hgo; exact ⟨t, o, castTop (ef_rm14_3_1 m ob) h1, h2⟩
  show Go p e below s _ _ _ (s₁.setTop (mkF m 0 #[.val (.ref ob)] []))
  refine Go.st (fun _ k' => XS.aloadN X0.here hx rfl (hb hby d14_0) rfl rfl k') ?_
  show Go p e below s _ _ _ (s₁.setTop (mkF m 1 #[.val (.ref ob)] [(.ref ob)]))
  obtain ⟨cq1, kq1, q1a, q1b, q1c⟩ := isOf hZ e0 E_o
  obtain ⟨_, _, ⟨T1, L1, k1, n1⟩, -, X1, ⟨Lc1, hQ1, l1, y1, z1⟩, st1⟩ := X0.virtualBack hx (y := (⟨"com/example/reportwire/reportwire/Arguments", "hasNext", "()Z"⟩ : MethodName)) (z := (⟨"com/example/reportwire/reportwire/Arguments", "hasNext", "()Z"⟩ : MethodName)) hown (mvT hZ (wdx hw 100 rfl)) (mvT hZ (wdx hw 101 rfl)) (notFace_of_selects (args := #[]) (mvT hZ (wdx hw 103 rfl))) (mvT hZ (wdx hw 103 rfl)) (mvT hZ (wdx hw 102 rfl)) (by decide) (backOf (W := 0) (rm15_3_1 l Z a0 hw [] ob na kn sa sb sc h0 n0 O0 Fa Fn Va) hZ (wdx hw 104 rfl) (wdx hw 32 rfl) (by decide) (by decide)) q1a q1c (g := (mkF m 1 #[.val (.ref ob)] [(.ref ob)])) rfl (by rw [hml]; rfl) (Steps.refl _) (argsL := []) (rest := []) (lenOf pd___Z rfl) rfl (by show 2 * 0 + _ ≤ _; exact Nat.le_of_eq rfl) (hb hby d14_1) (fun _ _ => ⟨rfl, e0, (by exact Nat.le_of_ble_eq_true rfl), (by exact Nat.le_of_ble_eq_true rfl)⟩)
  dsimp only [Pt.U, Pt.locs, Pt.cells, Pt.slots] at X1 l1 y1 z1 st1 hQ1
  subst l1 y1 z1
  obtain ⟨rfl, Nq1, eq1⟩ := hQ1
  have N1 := Fr.app N0 Nq1
  refine Go.tr st1 ?_
  show Go p e below s _ _ _ (T1.setTop (mkF m 4 #[.val (.ref ob)] [(.int (1 : Int32))]))
  refine Go.st (fun _ k' => XS.ifYes X1.here hx rfl (pc0 := 4) (pc' := 17) rfl (hb hby d14_4) rfl (XT.i0_ne_t (by decide)) (by decide) (by decide) k') ?_
  show Go p e below s _ _ _ (T1.setTop (mkF m 17 #[.val (.ref ob)] []))
  refine Go.st (fun _ k' => XS.aloadN X1.here hx rfl (hb hby d14_17) rfl rfl k') ?_
  show Go p e below s _ _ _ (T1.setTop (mkF m 18 #[.val (.ref ob)] [(.ref ob)]))
  obtain ⟨T2, X2, e2, st2⟩ := getF X1 hx hZ hown (host := "") (Or.inl (wdx hw 87 rfl)) Via.refl eq1 Fa (g := (mkF m 18 #[.val (.ref ob)] [(.ref ob)])) rfl rfl (hb hby d14_18)
  refine Go.st st2 ?_
  show Go p e below s _ _ _ (T2.setTop (mkF m 21 #[.val (.ref ob)] [(.ref na)]))
  refine Go.st (fun _ k' => XS.aloadN X2.here hx rfl (hb hby d14_21) rfl rfl k') ?_
  show Go p e below s _ _ _ (T2.setTop (mkF m 22 #[.val (.ref ob)] [(.ref ob), (.ref na)]))
  obtain ⟨T3, X3, e3, st3⟩ := getF X2 hx hZ hown (host := "") (Or.inl (wdx hw 105 rfl)) Via.refl e2 Fn (g := (mkF m 22 #[.val (.ref ob)] [(.ref ob), (.ref na)])) rfl rfl (hb hby d14_22)
  refine Go.st st3 ?_
  show Go p e below s _ _ _ (T3.setTop (mkF m 25 #[.val (.ref ob)] [(.int (1 : Int32)), (.ref na)]))
  obtain ⟨cl4, Ar4, qc4, Sz4, Nn4, Ha4, Gf4⟩ := id Va
  refine Go.st (fun _ k' => X3.aaload hx (j := (1 : Int32)) (v := (.ref sb)) (by rw [e3]; exact Ar4.1) (State.isArrayOf_alike hZ.alike Ar4.2.1) rfl Ar4.2.2 (inb_of Sz4 ⟨by decide, by decide⟩) (Ha4.at (inb_of Sz4 ⟨by decide, by decide⟩) rfl) (g := (mkF m 25 #[.val (.ref ob)] [(.int (1 : Int32)), (.ref na)])) rfl rfl (hb hby d14_25) _ k') ?_
  show Go p e below s _ _ _ (T3.setTop (mkF m 26 #[.val (.ref ob)] [(.ref sb)]))
  refine Go.ret X3 hx hlk (t := (.object "java/lang/String")) Bd.returns rfl (Or.inr (Or.inr (Or.inr (Or.inr ⟨rfl, rfl, rfl⟩)))) (hb hby d14_26) (by decide) (by decide) e3 ?_
  exact ⟨rfl, N1, rfl⟩
theorem ef_rm13_3_1 (m : MethodId) (ob : Addr) : entryFrame m #[(.ref ob)] 2 = mkF m 0 #[.val (.ref ob), .unset] [] := by first | (simp [entryFrame, mkF, argsToLocals, Value.category]; done) | rfl
def Q13_3_1 (Z : State) (ob : Addr) (na : Addr) (kn : ClassId) (sa : Addr) (sb : Addr) (sc : Addr) (h0 : Heap) (n0 : Nat) (v : Option Value) (h : Heap) (L : List Loc) : Prop := v = some (.ref sb) ∧ Fr n0 L ∧ Keep h0 h [ob] ∧ Fld Z h ob "com/example/reportwire/reportwire/Arguments" "args" "[Ljava/lang/String;" (.ref na) ∧ Fld Z h ob "com/example/reportwire/reportwire/Arguments" "next" "I" (.int (2 : Int32))
set_option maxRecDepth 65536 in
set_option maxHeartbeats 40000000 in
theorem rm13_3_1 (l : Launch) (Z : State) (a0 : Array Value) (hw : ∀ d ∈ tables_1, d.before a0 Z = true) (ws : List Jvm.Cond) (ob : Addr) (na : Addr) (kn : ClassId) (sa : Addr) (sb : Addr) (sc : Addr) (h0 : Heap) (n0 : Nat) (O0 : Old Z n0 h0) (E_o : Exa Z h0 ob "com/example/reportwire/reportwire/Arguments") (Fa : Fld Z h0 ob "com/example/reportwire/reportwire/Arguments" "args" "[Ljava/lang/String;" (.ref na)) (Fn : Fld Z h0 ob "com/example/reportwire/reportwire/Arguments" "next" "I" (.int (1 : Int32))) (Va : Arv Z h0 na kn (.object "java/lang/String") (3 : Int32) [(.ref sa), (.ref sb), (.ref sc)] .null) (g_o : n0 ≤ ob) (ne_on : ob ≠ na) :
    MetFree l (⟨"com/example/reportwire/reportwire/Arguments", "next", "()Ljava/lang/String;"⟩ : MethodName) (head1 (Jvm.Cond.code (⟨"com/example/reportwire/reportwire/Arguments", "next", "()Ljava/lang/String;"⟩ : MethodName) prog_7_method_10_code 2 (some (.object "java/lang/String")) :: ws) ({ frames := 2, cells := 0, slots := 0, locals := 24 } : Room)) (fun ay U => ay = #[(.ref ob)] ∧ Z.Warmed39 U.vm ∧ U.heap = h0) (fun _ _ _ _ _ => True) (fun _ U o U' => ∃ v L, o = .returned v ∧ Q13_3_1 Z ob na kn sa sb sc h0 n0 v U'.heap L ∧ FrameEnd U o U' L ({ frames := 2, cells := 0, slots := 0, locals := 24 } : Room).cells ({ frames := 2, cells := 0, slots := 0, locals := 24 } : Room).slots) := by
  refine MetFree.of_bodySF (plainFor_of_name pn_com_example_reportwire_reportwire_Arguments) hisR ?_
  intro p e s m args below meth c s₁ Bd hml0 hP hK
  obtain ⟨rfl, hZ, hh⟩ := hP
  have hx := Bd.exec
  have hby := Bd.bytes
  have hlk : meth.locks = false := BodyLoose.notSynchronized Bd
  have hml : c.maxLocals = 2 := hml0
  have hown : s.vm.findClass "com/example/reportwire/reportwire/Arguments" = some m.cls := findClass_of_methodNamed Bd.named
  have hnm := (name_of_methodNamed Bd.named Bd.method).1
  have X0 : Stand p l e ({ frames := 2, cells := 0, slots := 0, locals := 24 } : Room) s m #[(.ref ob)] below meth c s₁ [] 0 0 := Stand.of_body Bd
  have e0 : s₁.heap = h0 := by rw [← hh, Bd.state]; rfl
  have N0 := Fr.nil n0
  suffices hgo : Go p e below s 0 0 (Q13_3_1 Z ob na kn sa sb sc h0 n0) (s₁.setTop (mkF m 0 #[.val (.ref ob), .unset] [])) by
    obtain ⟨t, o, h1, h2⟩ := hgo; exact ⟨t, o, castTop (ef_rm13_3_1 m ob) h1, h2⟩
  show Go p e below s _ _ _ (s₁.setTop (mkF m 0 #[.val (.ref ob), .unset] []))
  refine Go.st (fun _ k' => XS.aloadN X0.here hx rfl (hb hby d13_0) rfl rfl k') ?_
  show Go p e below s _ _ _ (s₁.setTop (mkF m 1 #[.val (.ref ob), .unset] [(.ref ob)]))
  obtain ⟨cq1, kq1, q1a, q1b, q1c⟩ := isOf hZ e0 E_o
  obtain ⟨_, _, ⟨T1, L1, k1, n1⟩, -, X1, ⟨Lc1, hQ1, l1, y1, z1⟩, st1⟩ := X0.virtualBack hx (y := (⟨"com/example/reportwire/reportwire/Arguments", "peek", "()Ljava/lang/String;"⟩ : MethodName)) (z := (⟨"com/example/reportwire/reportwire/Arguments", "peek", "()Ljava/lang/String;"⟩ : MethodName)) hown (mvT hZ (wdx hw 95 rfl)) (mvT hZ (wdx hw 96 rfl)) (notFace_of_selects (args := #[]) (mvT hZ (wdx hw 98 rfl))) (mvT hZ (wdx hw 98 rfl)) (mvT hZ (wdx hw 97 rfl)) (by decide) (backOf (W := 0) (rm14_3_1 l Z a0 hw [] ob na kn sa sb sc h0 n0 O0 E_o Fa Fn Va) hZ (wdx hw 99 rfl) (wdx hw 32 rfl) (by decide) (by decide)) q1a q1c (g := (mkF m 1 #[.val (.ref ob), .unset] [(.ref ob)])) rfl (by rw [hml]; rfl) (Steps.refl _) (argsL := []) (rest := []) (lenOf pd___Ljava_lang_String_ rfl) rfl (by show 2 * 0 + _ ≤ _; exact Nat.le_of_eq rfl) (hb hby d13_1) (fun _ _ => ⟨rfl, e0, (by exact Nat.le_of_ble_eq_true rfl), (by exact Nat.le_of_ble_eq_true rfl)⟩)
  dsimp only [Pt.U, Pt.locs, Pt.cells, Pt.slots] at X1 l1 y1 z1 st1 hQ1
  subst l1 y1 z1
  obtain ⟨rfl, Nq1, eq1⟩ := hQ1
  have N1 := Fr.app N0 Nq1
  refine Go.tr st1 ?_
  show Go p e below s _ _ _ (T1.setTop (mkF m 4 #[.val (.ref ob), .unset] [(.ref sb)]))
  refine Go.st (fun _ k' => XS.astoreN X1.here hx rfl (hb hby d13_4) rfl rfl (l' := #[.val (.ref ob), .val (.ref sb)]) rfl k') ?_
  show Go p e below s _ _ _ (T1.setTop (mkF m 5 #[.val (.ref ob), .val (.ref sb)] []))
  refine Go.st (fun _ k' => XS.aloadN X1.here hx rfl (hb hby d13_5) rfl rfl k') ?_
  show Go p e below s _ _ _ (T1.setTop (mkF m 6 #[.val (.ref ob), .val (.ref sb)] [(.ref ob)]))
  refine Go.st (fun _ k' => XS.dup X1.here hx rfl (hb hby d13_6) rfl rfl k') ?_
  show Go p e below s _ _ _ (T1.setTop (mkF m 7 #[.val (.ref ob), .val (.ref sb)] [(.ref ob), (.ref ob)]))
  obtain ⟨T2, X2, e2, st2⟩ := getF X1 hx hZ hown (host := "") (Or.inl (wdx hw 105 rfl)) Via.refl eq1 Fn (g := (mkF m 7 #[.val (.ref ob), .val (.ref sb)] [(.ref ob), (.ref ob)])) rfl rfl (hb hby d13_7)
  refine Go.st st2 ?_
  show Go p e below s _ _ _ (T2.setTop (mkF m 10 #[.val (.ref ob), .val (.ref sb)] [(.int (1 : Int32)), (.ref ob)]))
  refine Go.st (fun _ k' => XS.iconst X2.here hx rfl (hb hby d13_10) k') ?_
  show Go p e below s _ _ _ (T2.setTop (mkF m 11 #[.val (.ref ob), .val (.ref sb)] [(.int (1 : Int32)), (.int (1 : Int32)), (.ref ob)]))
  refine Go.st (fun _ k' => XS.iadd X2.here hx rfl (hb hby d13_11) rfl k') ?_
  show Go p e below s _ _ _ (T2.setTop (mkF m 12 #[.val (.ref ob), .val (.ref sb)] [(.int (2 : Int32)), (.ref ob)]))
  obtain ⟨T3, h3, X3, e3, W3, st3⟩ := putF X2 hx hZ hown (host := "") (Or.inl (wdx hw 105 rfl)) Via.refl e2 Fn E_o (Or.inl (wdx hw 106 rfl)) (wdx hw 31 rfl) (ty := .int) (by decide) rfl rfl (g := (mkF m 12 #[.val (.ref ob), .val (.ref sb)] [(.int (2 : Int32)), (.ref ob)])) rfl rfl (hb hby d13_12)
  refine Go.st st3 ?_
  have f4 : Exa Z h3 ob "com/example/reportwire/reportwire/Arguments" := E_o.wr W3
  have f5 : Fld Z h3 ob "com/example/reportwire/reportwire/Arguments" "args" "[Ljava/lang/String;" (.ref na) := Fa.other W3 (Or.inr (slot_ne (Or.inr (wdx hw 88 rfl)) (Or.inl (wdx hw 106 rfl)) (by decide) (t := (.array (.object "java/lang/String"))) (t' := .int) (by decide) (by decide)))
  have f6 : Fld Z h3 ob "com/example/reportwire/reportwire/Arguments" "next" "I" (.int (2 : Int32)) := Fn.same W3
  have f7 : Arv Z h3 na kn (.object "java/lang/String") (3 : Int32) [(.ref sa), (.ref sb), (.ref sc)] .null := Va.other W3 (Ne.symm ne_on)
  have O3 : Old Z n0 h3 := O0.wr W3 g_o
  have N3 := Fr.snoc X3 N1 g_o
  have K3 : Keep h0 h3 [ob] := (Keep.refl h0 [ob]).wr W3 (Or.inl (by simp))
  show Go p e below s _ _ _ (T3.setTop (mkF m 15 #[.val (.ref ob), .val (.ref sb)] []))
  refine Go.st (fun _ k' => XS.aloadN X3.here hx rfl (hb hby d13_15) rfl rfl k') ?_
  show Go p e below s _ _ _ (T3.setTop (mkF m 16 #[.val (.ref ob), .val (.ref sb)] [(.ref sb)]))
  refine Go.ret X3 hx hlk (t := (.object "java/lang/String")) Bd.returns rfl (Or.inr (Or.inr (Or.inr (Or.inr ⟨rfl, rfl, rfl⟩)))) (hb hby d13_16) (by decide) (by decide) e3 ?_
  exact ⟨rfl, N3, K3, f5, f6⟩
theorem ef_rm15_3_2 (m : MethodId) (ob : Addr) : entryFrame m #[(.ref ob)] 1 = mkF m 0 #[.val (.ref ob)] [] := by first | (simp [entryFrame, mkF, argsToLocals, Value.category]; done) | rfl
def Q15_3_2 (Z : State) (ob : Addr) (na : Addr) (kn : ClassId) (sa : Addr) (sb : Addr) (sc : Addr) (h0 : Heap) (n0 : Nat) (v : Option Value) (h : Heap) (L : List Loc) : Prop := v = some (.int (1 : Int32)) ∧ Fr n0 L ∧ h = h0
set_option maxRecDepth 65536 in
set_option maxHeartbeats 40000000 in
theorem rm15_3_2 (l : Launch) (Z : State) (a0 : Array Value) (hw : ∀ d ∈ tables_1, d.before a0 Z = true) (ws : List Jvm.Cond) (ob : Addr) (na : Addr) (kn : ClassId) (sa : Addr) (sb : Addr) (sc : Addr) (h0 : Heap) (n0 : Nat) (O0 : Old Z n0 h0) (Fa : Fld Z h0 ob "com/example/reportwire/reportwire/Arguments" "args" "[Ljava/lang/String;" (.ref na)) (Fn : Fld Z h0 ob "com/example/reportwire/reportwire/Arguments" "next" "I" (.int (2 : Int32))) (Va : Arv Z h0 na kn (.object "java/lang/String") (3 : Int32) [(.ref sa), (.ref sb), (.ref sc)] .null) :
    MetFree l (⟨"com/example/reportwire/reportwire/Arguments", "hasNext", "()Z"⟩ : MethodName) (head1 (Jvm.Cond.code (⟨"com/example/reportwire/reportwire/Arguments", "hasNext", "()Z"⟩ : MethodName) prog_7_method_7_code 1 (some .boolean) :: ws) ({ frames := 0, cells := 0, slots := 0, locals := 0 } : Room)) (fun ay U => ay = #[(.ref ob)] ∧ Z.Warmed39 U.vm ∧ U.heap = h0) (fun _ _ _ _ _ => True) (fun _ U o U' => ∃ v L, o = .returned v ∧ Q15_3_2 Z ob na kn sa sb sc h0 n0 v U'.heap L ∧ FrameEnd U o U' L ({ frames := 0, cells := 0, slots := 0, locals := 0 } : Room).cells ({ frames := 0, cells := 0, slots := 0, locals := 0 } : Room).slots) := by
  refine MetFree.of_bodySF (plainFor_of_name pn_com_example_reportwire_reportwire_Arguments) hisR ?_
  intro p e s m args below meth c s₁ Bd hml0 hP hK
  obtain ⟨rfl, hZ, hh⟩ := hP
  have hx := Bd.exec
  have hby := Bd.bytes
  have hlk : meth.locks = false := BodyLoose.notSynchronized Bd
  have hml : c.maxLocals = 1 := hml0
  have hown : s.vm.findClass "com/example/reportwire/reportwire/Arguments" = some m.cls := findClass_of_methodNamed Bd.named
  have hnm := (name_of_methodNamed Bd.named Bd.method).1
  have X0 : Stand p l e ({ frames := 0, cells := 0, slots := 0, locals := 0 } : Room) s m #[(.ref ob)] below meth c s₁ [] 0 0 := Stand.of_body Bd
  have e0 : s₁.heap = h0 := by rw [← hh, Bd.state]; rfl
  have N0 := Fr.nil n0
  suffices hgo : Go p e below s 0 0 (Q15_3_2 Z ob na kn sa sb sc h0 n0) (s₁.setTop (mkF m 0 #[.val (.ref ob)] [])) by
    obtain ⟨t, o, h1, h2⟩ := hgo; exact ⟨t, o, castTop (ef_rm15_3_2 m ob) h1, h2⟩
  show Go p e below s _ _ _ (s₁.setTop (mkF m 0 #[.val (.ref ob)] []))
  refine Go.st (fun _ k' => XS.aloadN X0.here hx rfl (hb hby d15_0) rfl rfl k') ?_
  show Go p e below s _ _ _ (s₁.setTop (mkF m 1 #[.val (.ref ob)] [(.ref ob)]))
  obtain ⟨T1, X1, e1, st1⟩ := getF X0 hx hZ hown (host := "") (Or.inl (wdx hw 105 rfl)) Via.refl e0 Fn (g := (mkF m 1 #[.val (.ref ob)] [(.ref ob)])) rfl rfl (hb hby d15_1)
  refine Go.st st1 ?_
  show Go p e below s _ _ _ (T1.setTop (mkF m 4 #[.val (.ref ob)] [(.int (2 : Int32))]))
  refine Go.st (fun _ k' => XS.aloadN X1.here hx rfl (hb hby d15_4) rfl rfl k') ?_
  show Go p e below s _ _ _ (T1.setTop (mkF m 5 #[.val (.ref ob)] [(.ref ob), (.int (2 : Int32))]))
  obtain ⟨T2, X2, e2, st2⟩ := getF X1 hx hZ hown (host := "") (Or.inl (wdx hw 87 rfl)) Via.refl e1 Fa (g := (mkF m 5 #[.val (.ref ob)] [(.ref ob), (.int (2 : Int32))])) rfl rfl (hb hby d15_5)
  refine Go.st st2 ?_
  show Go p e below s _ _ _ (T2.setTop (mkF m 8 #[.val (.ref ob)] [(.ref na), (.int (2 : Int32))]))
  obtain ⟨cl3, Ar3, qc3, Sz3, Nn3, Ha3, Gf3⟩ := id Va
  refine Go.st (fun _ k' => X2.arraylength hx (by rw [e2]; exact Ar3.1) (State.isArrayOf_alike hZ.alike Ar3.2.1) (g := (mkF m 8 #[.val (.ref ob)] [(.ref na), (.int (2 : Int32))])) rfl rfl (hb hby d15_8) _ k') ?_
  rw [len_of Sz3 Nn3]
  show Go p e below s _ _ _ (T2.setTop (mkF m 9 #[.val (.ref ob)] [(.int (3 : Int32)), (.int (2 : Int32))]))
  refine Go.st (fun _ k' => XS.icmpNo X2.here hx rfl (hb hby d15_9) rfl (XT.ii_ge_f (by decide)) k') ?_
  show Go p e below s _ _ _ (T2.setTop (mkF m 12 #[.val (.ref ob)] []))
  refine Go.st (fun _ k' => XS.iconst X2.here hx rfl (hb hby d15_12) k') ?_
  show Go p e below s _ _ _ (T2.setTop (mkF m 13 #[.val (.ref ob)] [(.int (1 : Int32))]))
  refine Go.st (fun _ k' => XS.goto X2.here hx rfl (pc0 := 13) (pc' := 17) rfl (hb hby d15_13) (by decide) (by decide) k') ?_
  show Go p e below s _ _ _ (T2.setTop (mkF m 17 #[.val (.ref ob)] [(.int (1 : Int32))]))
  refine Go.retB X2 hx hlk (t := .boolean) Bd.returns (by simp) (hb hby d15_17) (by decide) (by decide) e2 ?_
  exact ⟨rfl, N0, rfl⟩
theorem ef_rm14_3_2 (m : MethodId) (ob : Addr) : entryFrame m #[(.ref ob)] 1 = mkF m 0 #[.val (.ref ob)] [] := by first | (simp [entryFrame, mkF, argsToLocals, Value.category]; done) | rfl
def Q14_3_2 (Z : State) (ob : Addr) (na : Addr) (kn : ClassId) (sa : Addr) (sb : Addr) (sc : Addr) (h0 : Heap) (n0 : Nat) (v : Option Value) (h : Heap) (L : List Loc) : Prop := v = some (.ref sc) ∧ Fr n0 L ∧ h = h0
set_option maxRecDepth 65536 in
set_option maxHeartbeats 40000000 in
theorem rm14_3_2 (l : Launch) (Z : State) (a0 : Array Value) (hw : ∀ d ∈ tables_1, d.before a0 Z = true) (ws : List Jvm.Cond) (ob : Addr) (na : Addr) (kn : ClassId) (sa : Addr) (sb : Addr) (sc : Addr) (h0 : Heap) (n0 : Nat) (O0 : Old Z n0 h0) (E_o : Exa Z h0 ob "com/example/reportwire/reportwire/Arguments") (Fa : Fld Z h0 ob "com/example/reportwire/reportwire/Arguments" "args" "[Ljava/lang/String;" (.ref na)) (Fn : Fld Z h0 ob "com/example/reportwire/reportwire/Arguments" "next" "I" (.int (2 : Int32))) (Va : Arv Z h0 na kn (.object "java/lang/String") (3 : Int32) [(.ref sa), (.ref sb), (.ref sc)] .null) :
    MetFree l (⟨"com/example/reportwire/reportwire/Arguments", "peek", "()Ljava/lang/String;"⟩ : MethodName) (head1 (Jvm.Cond.code (⟨"com/example/reportwire/reportwire/Arguments", "peek", "()Ljava/lang/String;"⟩ : MethodName) prog_7_method_9_code 1 (some (.object "java/lang/String")) :: ws) ({ frames := 1, cells := 0, slots := 0, locals := 12 } : Room)) (fun ay U => ay = #[(.ref ob)] ∧ Z.Warmed39 U.vm ∧ U.heap = h0) (fun _ _ _ _ _ => True) (fun _ U o U' => ∃ v L, o = .returned v ∧ Q14_3_2 Z ob na kn sa sb sc h0 n0 v U'.heap L ∧ FrameEnd U o U' L ({ frames := 1, cells := 0, slots := 0, locals := 12 } : Room).cells ({ frames := 1, cells := 0, slots := 0, locals := 12 } : Room).slots) := by
  refine MetFree.of_bodySF (plainFor_of_name pn_com_example_reportwire_reportwire_Arguments) hisR ?_
  intro p e s m args below meth c s₁ Bd hml0 hP hK
  obtain ⟨rfl, hZ, hh⟩ := hP
  have hx := Bd.exec
  have hby := Bd.bytes
  have hlk : meth.locks = false := BodyLoose.notSynchronized Bd
  have hml : c.maxLocals = 1 := hml0
  have hown : s.vm.findClass "com/example/reportwire/reportwire/Arguments" = some m.cls := findClass_of_methodNamed Bd.named
  have hnm := (name_of_methodNamed Bd.named Bd.method).1
  have X0 : Stand p l e ({ frames := 1, cells := 0, slots := 0, locals := 12 } : Room) s m #[(.ref ob)] below meth c s₁ [] 0 0 := Stand.of_body Bd
  have e0 : s₁.heap = h0 := by rw [← hh, Bd.state]; rfl
  have N0 := Fr.nil n0
  suffices hgo : Go p e below s 0 0 (Q14_3_2 Z ob na kn sa sb sc h0 n0) (s₁.setTop (mkF m 0 #[.val (.ref ob)] [])) by
    obtain ⟨t, o, h1, h2⟩ := hgo; exact ⟨t, o, castTop (ef_rm14_3_2 m ob) h1, h2⟩
  show Go p e below s _ _ _ (s₁.setTop (mkF m 0 #[.val (.ref ob)] []))
  refine Go.st (fun _ k' => XS.aloadN X0.here hx rfl (hb hby d14_0) rfl rfl k') ?_
  show Go p e below s _ _ _ (s₁.setTop (mkF m 1 #[.val (.ref ob)] [(.ref ob)]))
  obtain ⟨cq1, kq1, q1a, q1b, q1c⟩ := isOf hZ e0 E_o
  obtain ⟨_, _, ⟨T1, L1, k1, n1⟩, -, X1, ⟨Lc1, hQ1, l1, y1, z1⟩, st1⟩ := X0.virtualBack hx (y := (⟨"com/example/reportwire/reportwire/Arguments", "hasNext", "()Z"⟩ : MethodName)) (z := (⟨"com/example/reportwire/reportwire/Arguments", "hasNext", "()Z"⟩ : MethodName)) hown (mvT hZ (wdx hw 100 rfl)) (mvT hZ (wdx hw 101 rfl)) (notFace_of_selects (args := #[]) (mvT hZ (wdx hw 103 rfl))) (mvT hZ (wdx hw 103 rfl)) (mvT hZ (wdx hw 102 rfl)) (by decide) (backOf (W := 0) (rm15_3_2 l Z a0 hw [] ob na kn sa sb sc h0 n0 O0 Fa Fn Va) hZ (wdx hw 104 rfl) (wdx hw 32 rfl) (by decide) (by decide)) q1a q1c (g := (mkF m 1 #[.val (.ref ob)] [(.ref ob)])) rfl (by rw [hml]; rfl) (Steps.refl _) (argsL := []) (rest := []) (lenOf pd___Z rfl) rfl (by show 2 * 0 + _ ≤ _; exact Nat.le_of_eq rfl) (hb hby d14_1) (fun _ _ => ⟨rfl, e0, (by exact Nat.le_of_ble_eq_true rfl), (by exact Nat.le_of_ble_eq_true rfl)⟩)
  dsimp only [Pt.U, Pt.locs, Pt.cells, Pt.slots] at X1 l1 y1 z1 st1 hQ1
  subst l1 y1 z1
  obtain ⟨rfl, Nq1, eq1⟩ := hQ1
  have N1 := Fr.app N0 Nq1
  refine Go.tr st1 ?_
  show Go p e below s _ _ _ (T1.setTop (mkF m 4 #[.val (.ref ob)] [(.int (1 : Int32))]))
  refine Go.st (fun _ k' => XS.ifYes X1.here hx rfl (pc0 := 4) (pc' := 17) rfl (hb hby d14_4) rfl (XT.i0_ne_t (by decide)) (by decide) (by decide) k') ?_
  show Go p e below s _ _ _ (T1.setTop (mkF m 17 #[.val (.ref ob)] []))
  refine Go.st (fun _ k' => XS.aloadN X1.here hx rfl (hb hby d14_17) rfl rfl k') ?_
  show Go p e below s _ _ _ (T1.setTop (mkF m 18 #[.val (.ref ob)] [(.ref ob)]))
  obtain ⟨T2, X2, e2, st2⟩ := getF X1 hx hZ hown (host := "") (Or.inl (wdx hw 87 rfl)) Via.refl eq1 Fa (g := (mkF m 18 #[.val (.ref ob)] [(.ref ob)])) rfl rfl (hb hby d14_18)
  refine Go.st st2 ?_
  show Go p e below s _ _ _ (T2.setTop (mkF m 21 #[.val (.ref ob)] [(.ref na)]))
  refine Go.st (fun _ k' => XS.aloadN X2.here hx rfl (hb hby d14_21) rfl rfl k') ?_
  show Go p e below s _ _ _ (T2.setTop (mkF m 22 #[.val (.ref ob)] [(.ref ob), (.ref na)]))
  obtain ⟨T3, X3, e3, st3⟩ := getF X2 hx hZ hown (host := "") (Or.inl (wdx hw 105 rfl)) Via.refl e2 Fn (g := (mkF m 22 #[.val (.ref ob)] [(.ref ob), (.ref na)])) rfl rfl (hb hby d14_22)
  refine Go.st st3 ?_
  show Go p e below s _ _ _ (T3.setTop (mkF m 25 #[.val (.ref ob)] [(.int (2 : Int32)), (.ref na)]))
  obtain ⟨cl4, Ar4, qc4, Sz4, Nn4, Ha4, Gf4⟩ := id Va
  refine Go.st (fun _ k' => X3.aaload hx (j := (2 : Int32)) (v := (.ref sc)) (by rw [e3]; exact Ar4.1) (State.isArrayOf_alike hZ.alike Ar4.2.1) rfl Ar4.2.2 (inb_of Sz4 ⟨by decide, by decide⟩) (Ha4.at (inb_of Sz4 ⟨by decide, by decide⟩) rfl) (g := (mkF m 25 #[.val (.ref ob)] [(.int (2 : Int32)), (.ref na)])) rfl rfl (hb hby d14_25) _ k') ?_
  show Go p e below s _ _ _ (T3.setTop (mkF m 26 #[.val (.ref ob)] [(.ref sc)]))
  refine Go.ret X3 hx hlk (t := (.object "java/lang/String")) Bd.returns rfl (Or.inr (Or.inr (Or.inr (Or.inr ⟨rfl, rfl, rfl⟩)))) (hb hby d14_26) (by decide) (by decide) e3 ?_
  exact ⟨rfl, N1, rfl⟩
theorem ef_rm13_3_2 (m : MethodId) (ob : Addr) : entryFrame m #[(.ref ob)] 2 = mkF m 0 #[.val (.ref ob), .unset] [] := by first | (simp [entryFrame, mkF, argsToLocals, Value.category]; done) | rfl
def Q13_3_2 (Z : State) (ob : Addr) (na : Addr) (kn : ClassId) (sa : Addr) (sb : Addr) (sc : Addr) (h0 : Heap) (n0 : Nat) (v : Option Value) (h : Heap) (L : List Loc) : Prop := v = some (.ref sc) ∧ Fr n0 L ∧ Keep h0 h [ob] ∧ Fld Z h ob "com/example/reportwire/reportwire/Arguments" "args" "[Ljava/lang/String;" (.ref na) ∧ Fld Z h ob "com/example/reportwire/reportwire/Arguments" "next" "I" (.int (3 : Int32))
set_option maxRecDepth 65536 in
set_option maxHeartbeats 40000000 in
theorem rm13_3_2 (l : Launch) (Z : State) (a0 : Array Value) (hw : ∀ d ∈ tables_1, d.before a0 Z = true) (ws : List Jvm.Cond) (ob : Addr) (na : Addr) (kn : ClassId) (sa : Addr) (sb : Addr) (sc : Addr) (h0 : Heap) (n0 : Nat) (O0 : Old Z n0 h0) (E_o : Exa Z h0 ob "com/example/reportwire/reportwire/Arguments") (Fa : Fld Z h0 ob "com/example/reportwire/reportwire/Arguments" "args" "[Ljava/lang/String;" (.ref na)) (Fn : Fld Z h0 ob "com/example/reportwire/reportwire/Arguments" "next" "I" (.int (2 : Int32))) (Va : Arv Z h0 na kn (.object "java/lang/String") (3 : Int32) [(.ref sa), (.ref sb), (.ref sc)] .null) (g_o : n0 ≤ ob) (ne_on : ob ≠ na) :
    MetFree l (⟨"com/example/reportwire/reportwire/Arguments", "next", "()Ljava/lang/String;"⟩ : MethodName) (head1 (Jvm.Cond.code (⟨"com/example/reportwire/reportwire/Arguments", "next", "()Ljava/lang/String;"⟩ : MethodName) prog_7_method_10_code 2 (some (.object "java/lang/String")) :: ws) ({ frames := 2, cells := 0, slots := 0, locals := 24 } : Room)) (fun ay U => ay = #[(.ref ob)] ∧ Z.Warmed39 U.vm ∧ U.heap = h0) (fun _ _ _ _ _ => True) (fun _ U o U' => ∃ v L, o = .returned v ∧ Q13_3_2 Z ob na kn sa sb sc h0 n0 v U'.heap L ∧ FrameEnd U o U' L ({ frames := 2, cells := 0, slots := 0, locals := 24 } : Room).cells ({ frames := 2, cells := 0, slots := 0, locals := 24 } : Room).slots) := by
  refine MetFree.of_bodySF (plainFor_of_name pn_com_example_reportwire_reportwire_Arguments) hisR ?_
  intro p e s m args below meth c s₁ Bd hml0 hP hK
  obtain ⟨rfl, hZ, hh⟩ := hP
  have hx := Bd.exec
  have hby := Bd.bytes
  have hlk : meth.locks = false := BodyLoose.notSynchronized Bd
  have hml : c.maxLocals = 2 := hml0
  have hown : s.vm.findClass "com/example/reportwire/reportwire/Arguments" = some m.cls := findClass_of_methodNamed Bd.named
  have hnm := (name_of_methodNamed Bd.named Bd.method).1
  have X0 : Stand p l e ({ frames := 2, cells := 0, slots := 0, locals := 24 } : Room) s m #[(.ref ob)] below meth c s₁ [] 0 0 := Stand.of_body Bd
  have e0 : s₁.heap = h0 := by rw [← hh, Bd.state]; rfl
  have N0 := Fr.nil n0
  suffices hgo : Go p e below s 0 0 (Q13_3_2 Z ob na kn sa sb sc h0 n0) (s₁.setTop (mkF m 0 #[.val (.ref ob), .unset] [])) by
    obtain ⟨t, o, h1, h2⟩ := hgo; exact ⟨t, o, castTop (ef_rm13_3_2 m ob) h1, h2⟩
  show Go p e below s _ _ _ (s₁.setTop (mkF m 0 #[.val (.ref ob), .unset] []))
  refine Go.st (fun _ k' => XS.aloadN X0.here hx rfl (hb hby d13_0) rfl rfl k') ?_
  show Go p e below s _ _ _ (s₁.setTop (mkF m 1 #[.val (.ref ob), .unset] [(.ref ob)]))
  obtain ⟨cq1, kq1, q1a, q1b, q1c⟩ := isOf hZ e0 E_o
  obtain ⟨_, _, ⟨T1, L1, k1, n1⟩, -, X1, ⟨Lc1, hQ1, l1, y1, z1⟩, st1⟩ := X0.virtualBack hx (y := (⟨"com/example/reportwire/reportwire/Arguments", "peek", "()Ljava/lang/String;"⟩ : MethodName)) (z := (⟨"com/example/reportwire/reportwire/Arguments", "peek", "()Ljava/lang/String;"⟩ : MethodName)) hown (mvT hZ (wdx hw 95 rfl)) (mvT hZ (wdx hw 96 rfl)) (notFace_of_selects (args := #[]) (mvT hZ (wdx hw 98 rfl))) (mvT hZ (wdx hw 98 rfl)) (mvT hZ (wdx hw 97 rfl)) (by decide) (backOf (W := 0) (rm14_3_2 l Z a0 hw [] ob na kn sa sb sc h0 n0 O0 E_o Fa Fn Va) hZ (wdx hw 99 rfl) (wdx hw 32 rfl) (by decide) (by decide)) q1a q1c (g := (mkF m 1 #[.val (.ref ob), .unset] [(.ref ob)])) rfl (by rw [hml]; rfl) (Steps.refl _) (argsL := []) (rest := []) (lenOf pd___Ljava_lang_String_ rfl) rfl (by show 2 * 0 + _ ≤ _; exact Nat.le_of_eq rfl) (hb hby d13_1) (fun _ _ => ⟨rfl, e0, (by exact Nat.le_of_ble_eq_true rfl), (by exact Nat.le_of_ble_eq_true rfl)⟩)
  dsimp only [Pt.U, Pt.locs, Pt.cells, Pt.slots] at X1 l1 y1 z1 st1 hQ1
  subst l1 y1 z1
  obtain ⟨rfl, Nq1, eq1⟩ := hQ1
  have N1 := Fr.app N0 Nq1
  refine Go.tr st1 ?_
  show Go p e below s _ _ _ (T1.setTop (mkF m 4 #[.val (.ref ob), .unset] [(.ref sc)]))
  refine Go.st (fun _ k' => XS.astoreN X1.here hx rfl (hb hby d13_4) rfl rfl (l' := #[.val (.ref ob), .val (.ref sc)]) rfl k') ?_
  show Go p e below s _ _ _ (T1.setTop (mkF m 5 #[.val (.ref ob), .val (.ref sc)] []))
  refine Go.st (fun _ k' => XS.aloadN X1.here hx rfl (hb hby d13_5) rfl rfl k') ?_
  show Go p e below s _ _ _ (T1.setTop (mkF m 6 #[.val (.ref ob), .val (.ref sc)] [(.ref ob)]))
  refine Go.st (fun _ k' => XS.dup X1.here hx rfl (hb hby d13_6) rfl rfl k') ?_
  show Go p e below s _ _ _ (T1.setTop (mkF m 7 #[.val (.ref ob), .val (.ref sc)] [(.ref ob), (.ref ob)]))
  obtain ⟨T2, X2, e2, st2⟩ := getF X1 hx hZ hown (host := "") (Or.inl (wdx hw 105 rfl)) Via.refl eq1 Fn (g := (mkF m 7 #[.val (.ref ob), .val (.ref sc)] [(.ref ob), (.ref ob)])) rfl rfl (hb hby d13_7)
  refine Go.st st2 ?_
  show Go p e below s _ _ _ (T2.setTop (mkF m 10 #[.val (.ref ob), .val (.ref sc)] [(.int (2 : Int32)), (.ref ob)]))
  refine Go.st (fun _ k' => XS.iconst X2.here hx rfl (hb hby d13_10) k') ?_
  show Go p e below s _ _ _ (T2.setTop (mkF m 11 #[.val (.ref ob), .val (.ref sc)] [(.int (1 : Int32)), (.int (2 : Int32)), (.ref ob)]))
  refine Go.st (fun _ k' => XS.iadd X2.here hx rfl (hb hby d13_11) rfl k') ?_
  show Go p e below s _ _ _ (T2.setTop (mkF m 12 #[.val (.ref ob), .val (.ref sc)] [(.int (3 : Int32)), (.ref ob)]))
  obtain ⟨T3, h3, X3, e3, W3, st3⟩ := putF X2 hx hZ hown (host := "") (Or.inl (wdx hw 105 rfl)) Via.refl e2 Fn E_o (Or.inl (wdx hw 106 rfl)) (wdx hw 31 rfl) (ty := .int) (by decide) rfl rfl (g := (mkF m 12 #[.val (.ref ob), .val (.ref sc)] [(.int (3 : Int32)), (.ref ob)])) rfl rfl (hb hby d13_12)
  refine Go.st st3 ?_
  have f4 : Exa Z h3 ob "com/example/reportwire/reportwire/Arguments" := E_o.wr W3
  have f5 : Fld Z h3 ob "com/example/reportwire/reportwire/Arguments" "args" "[Ljava/lang/String;" (.ref na) := Fa.other W3 (Or.inr (slot_ne (Or.inr (wdx hw 88 rfl)) (Or.inl (wdx hw 106 rfl)) (by decide) (t := (.array (.object "java/lang/String"))) (t' := .int) (by decide) (by decide)))
  have f6 : Fld Z h3 ob "com/example/reportwire/reportwire/Arguments" "next" "I" (.int (3 : Int32)) := Fn.same W3
  have f7 : Arv Z h3 na kn (.object "java/lang/String") (3 : Int32) [(.ref sa), (.ref sb), (.ref sc)] .null := Va.other W3 (Ne.symm ne_on)
  have O3 : Old Z n0 h3 := O0.wr W3 g_o
  have N3 := Fr.snoc X3 N1 g_o
  have K3 : Keep h0 h3 [ob] := (Keep.refl h0 [ob]).wr W3 (Or.inl (by simp))
  show Go p e below s _ _ _ (T3.setTop (mkF m 15 #[.val (.ref ob), .val (.ref sc)] []))
  refine Go.st (fun _ k' => XS.aloadN X3.here hx rfl (hb hby d13_15) rfl rfl k') ?_
  show Go p e below s _ _ _ (T3.setTop (mkF m 16 #[.val (.ref ob), .val (.ref sc)] [(.ref sc)]))
  refine Go.ret X3 hx hlk (t := (.object "java/lang/String")) Bd.returns rfl (Or.inr (Or.inr (Or.inr (Or.inr ⟨rfl, rfl, rfl⟩)))) (hb hby d13_16) (by decide) (by decide) e3 ?_
  exact ⟨rfl, N3, K3, f5, f6⟩
theorem d15_16 : decode prog_7_method_7_code 16 = .ok (.iconst 0, 1) := by decide +kernel
theorem ef_rm15_3_3 (m : MethodId) (ob : Addr) : entryFrame m #[(.ref ob)] 1 = mkF m 0 #[.val (.ref ob)] [] := by first | (simp [entryFrame, mkF, argsToLocals, Value.category]; done) | rfl
def Q15_3_3 (Z : State) (ob : Addr) (na : Addr) (kn : ClassId) (sa : Addr) (sb : Addr) (sc : Addr) (h0 : Heap) (n0 : Nat) (v : Option Value) (h : Heap) (L : List Loc) : Prop := v = some (.int (0 : Int32)) ∧ Fr n0 L ∧ h = h0
set_option maxRecDepth 65536 in
set_option maxHeartbeats 40000000 in
theorem rm15_3_3 (l : Launch) (Z : State) (a0 : Array Value) (hw : ∀ d ∈ tables_1, d.before a0 Z = true) (ws : List Jvm.Cond) (ob : Addr) (na : Addr) (kn : ClassId) (sa : Addr) (sb : Addr) (sc : Addr) (h0 : Heap) (n0 : Nat) (O0 : Old Z n0 h0) (Fa : Fld Z h0 ob "com/example/reportwire/reportwire/Arguments" "args" "[Ljava/lang/String;" (.ref na)) (Fn : Fld Z h0 ob "com/example/reportwire/reportwire/Arguments" "next" "I" (.int (3 : Int32))) (Va : Arv Z h0 na kn (.object "java/lang/String") (3 : Int32) [(.ref sa), (.ref sb), (.ref sc)] .null) :
    MetFree l (⟨"com/example/reportwire/reportwire/Arguments", "hasNext", "()Z"⟩ : MethodName) (head1 (Jvm.Cond.code (⟨"com/example/reportwire/reportwire/Arguments", "hasNext", "()Z"⟩ : MethodName) prog_7_method_7_code 1 (some .boolean) :: ws) ({ frames := 0, cells := 0, slots := 0, locals := 0 } : Room)) (fun ay U => ay = #[(.ref ob)] ∧ Z.Warmed39 U.vm ∧ U.heap = h0) (fun _ _ _ _ _ => True) (fun _ U o U' => ∃ v L, o = .returned v ∧ Q15_3_3 Z ob na kn sa sb sc h0 n0 v U'.heap L ∧ FrameEnd U o U' L ({ frames := 0, cells := 0, slots := 0, locals := 0 } : Room).cells ({ frames := 0, cells := 0, slots := 0, locals := 0 } : Room).slots) := by
  refine MetFree.of_bodySF (plainFor_of_name pn_com_example_reportwire_reportwire_Arguments) hisR ?_
  intro p e s m args below meth c s₁ Bd hml0 hP hK
  obtain ⟨rfl, hZ, hh⟩ := hP
  have hx := Bd.exec
  have hby := Bd.bytes
  have hlk : meth.locks = false := BodyLoose.notSynchronized Bd
  have hml : c.maxLocals = 1 := hml0
  have hown : s.vm.findClass "com/example/reportwire/reportwire/Arguments" = some m.cls := findClass_of_methodNamed Bd.named
  have hnm := (name_of_methodNamed Bd.named Bd.method).1
  have X0 : Stand p l e ({ frames := 0, cells := 0, slots := 0, locals := 0 } : Room) s m #[(.ref ob)] below meth c s₁ [] 0 0 := Stand.of_body Bd
  have e0 : s₁.heap = h0 := by rw [← hh, Bd.state]; rfl
  have N0 := Fr.nil n0
  suffices hgo : Go p e below s 0 0 (Q15_3_3 Z ob na kn sa sb sc h0 n0) (s₁.setTop (mkF m 0 #[.val (.ref ob)] [])) by
    obtain ⟨t, o, h1, h2⟩ := hgo; exact ⟨t, o, castTop (ef_rm15_3_3 m ob) h1, h2⟩
  show Go p e below s _ _ _ (s₁.setTop (mkF m 0 #[.val (.ref ob)] []))
  refine Go.st (fun _ k' => XS.aloadN X0.here hx rfl (hb hby d15_0) rfl rfl k') ?_
  show Go p e below s _ _ _ (s₁.setTop (mkF m 1 #[.val (.ref ob)] [(.ref ob)]))
  obtain ⟨T1, X1, e1, st1⟩ := getF X0 hx hZ hown (host := "") (Or.inl (wdx hw 105 rfl)) Via.refl e0 Fn (g := (mkF m 1 #[.val (.ref ob)] [(.ref ob)])) rfl rfl (hb hby d15_1)
  refine Go.st st1 ?_
  show Go p e below s _ _ _ (T1.setTop (mkF m 4 #[.val (.ref ob)] [(.int (3 : Int32))]))
  refine Go.st (fun _ k' => XS.aloadN X1.here hx rfl (hb hby d15_4) rfl rfl k') ?_
  show Go p e below s _ _ _ (T1.setTop (mkF m 5 #[.val (.ref ob)] [(.ref ob), (.int (3 : Int32))]))
  obtain ⟨T2, X2, e2, st2⟩ := getF X1 hx hZ hown (host := "") (Or.inl (wdx hw 87 rfl)) Via.refl e1 Fa (g := (mkF m 5 #[.val (.ref ob)] [(.ref ob), (.int (3 : Int32))])) rfl rfl (hb hby d15_5)
  refine Go.st st2 ?_
  show Go p e below s _ _ _ (T2.setTop (mkF m 8 #[.val (.ref ob)] [(.ref na), (.int (3 : Int32))]))
  obtain ⟨cl3, Ar3, qc3, Sz3, Nn3, Ha3, Gf3⟩ := id Va
  refine Go.st (fun _ k' => X2.arraylength hx (by rw [e2]; exact Ar3.1) (State.isArrayOf_alike hZ.alike Ar3.2.1) (g := (mkF m 8 #[.val (.ref ob)] [(.ref na), (.int (3 : Int32))])) rfl rfl (hb hby d15_8) _ k') ?_
  rw [len_of Sz3 Nn3]
  show Go p e below s _ _ _ (T2.setTop (mkF m 9 #[.val (.ref ob)] [(.int (3 : Int32)), (.int (3 : Int32))]))
  refine Go.st (fun _ k' => XS.icmpYes X2.here hx rfl (pc0 := 9) (pc' := 16) rfl (hb hby d15_9) rfl (XT.ii_ge_t (by decide)) (by decide) (by decide) k') ?_
  show Go p e below s _ _ _ (T2.setTop (mkF m 16 #[.val (.ref ob)] []))
  refine Go.st (fun _ k' => XS.iconst X2.here hx rfl (hb hby d15_16) k') ?_
  show Go p e below s _ _ _ (T2.setTop (mkF m 17 #[.val (.ref ob)] [(.int (0 : Int32))]))
  refine Go.retB X2 hx hlk (t := .boolean) Bd.returns (by simp) (hb hby d15_17) (by decide) (by decide) e2 ?_
  exact ⟨rfl, N0, rfl⟩
theorem d16_0 : decode jdk_42_method_66_code 0 = .ok (.aload_n 0, 1) := by decide +kernel
theorem d16_1 : decode jdk_42_method_66_code 1 = .ok (.aload_n 1, 1) := by decide +kernel
theorem d16_2 : decode jdk_42_method_66_code 2 = .ok (.if_acmp .ne 5, 3) := by decide +kernel
theorem d16_5 : decode jdk_42_method_66_code 5 = .ok (.iconst 1, 1) := by decide +kernel
theorem d16_6 : decode jdk_42_method_66_code 6 = .ok (.ireturn, 1) := by decide +kernel
theorem ef_rm16 (m : MethodId) (ob : Addr) : entryFrame m #[(.ref ob), (.ref ob)] 3 = mkF m 0 #[.val (.ref ob), .val (.ref ob), .unset] [] := by first | (simp [entryFrame, mkF, argsToLocals, Value.category]; done) | rfl
def Q16 (Z : State) (ob : Addr) (h0 : Heap) (n0 : Nat) (v : Option Value) (h : Heap) (L : List Loc) : Prop := v = some (.int (1 : Int32)) ∧ Fr n0 L ∧ h = h0
set_option maxRecDepth 65536 in
set_option maxHeartbeats 40000000 in
theorem rm16 (l : Launch) (Z : State) (a0 : Array Value) (hw : ∀ d ∈ tables_1, d.before a0 Z = true) (ws : List Jvm.Cond) (ob : Addr) (h0 : Heap) (n0 : Nat) (O0 : Old Z n0 h0) :
    MetFree l (⟨"java/lang/String", "equals", "(Ljava/lang/Object;)Z"⟩ : MethodName) (head1 (Jvm.Cond.code (⟨"java/lang/String", "equals", "(Ljava/lang/Object;)Z"⟩ : MethodName) jdk_42_method_66_code 3 (some .boolean) :: ws) ({ frames := 0, cells := 0, slots := 0, locals := 0 } : Room)) (fun ay U => ay = #[(.ref ob), (.ref ob)] ∧ Z.Warmed39 U.vm ∧ U.heap = h0) (fun _ _ _ _ _ => True) (fun _ U o U' => ∃ v L, o = .returned v ∧ Q16 Z ob h0 n0 v U'.heap L ∧ FrameEnd U o U' L ({ frames := 0, cells := 0, slots := 0, locals := 0 } : Room).cells ({ frames := 0, cells := 0, slots := 0, locals := 0 } : Room).slots) := by
  refine MetFree.of_bodySF (plainFor_of_name pn_java_lang_String) hisR ?_
  intro p e s m args below meth c s₁ Bd hml0 hP hK
  obtain ⟨rfl, hZ, hh⟩ := hP
  have hx := Bd.exec
  have hby := Bd.bytes
  have hlk : meth.locks = false := BodyLoose.notSynchronized Bd
  have hml : c.maxLocals = 3 := hml0
  have hown : s.vm.findClass "java/lang/String" = some m.cls := findClass_of_methodNamed Bd.named
  have hnm := (name_of_methodNamed Bd.named Bd.method).1
  have X0 : Stand p l e ({ frames := 0, cells := 0, slots := 0, locals := 0 } : Room) s m #[(.ref ob), (.ref ob)] below meth c s₁ [] 0 0 := Stand.of_body Bd
  have e0 : s₁.heap = h0 := by rw [← hh, Bd.state]; rfl
  have N0 := Fr.nil n0
  suffices hgo : Go p e below s 0 0 (Q16 Z ob h0 n0) (s₁.setTop (mkF m 0 #[.val (.ref ob), .val (.ref ob), .unset] [])) by
    obtain ⟨t, o, h1, h2⟩ := hgo; exact ⟨t, o, castTop (ef_rm16 m ob) h1, h2⟩
  show Go p e below s _ _ _ (s₁.setTop (mkF m 0 #[.val (.ref ob), .val (.ref ob), .unset] []))
  refine Go.st (fun _ k' => XS.aloadN X0.here hx rfl (hb hby d16_0) rfl rfl k') ?_
  show Go p e below s _ _ _ (s₁.setTop (mkF m 1 #[.val (.ref ob), .val (.ref ob), .unset] [(.ref ob)]))
  refine Go.st (fun _ k' => XS.aloadN X0.here hx rfl (hb hby d16_1) rfl rfl k') ?_
  show Go p e below s _ _ _ (s₁.setTop (mkF m 2 #[.val (.ref ob), .val (.ref ob), .unset] [(.ref ob), (.ref ob)]))
  refine Go.st (fun _ k' => Jvm.RoadKit.acmp (g := (mkF m 2 #[.val (.ref ob), .val (.ref ob), .unset] [(.ref ob), (.ref ob)])) X0 hx rfl rfl rfl (pc0 := 2) (pc' := 5) (same := true) rfl (hb hby d16_2) rfl (decide_eq_true rfl) (by decide) (by decide) k') ?_
  show Go p e below s _ _ _ (s₁.setTop (mkF m 5 #[.val (.ref ob), .val (.ref ob), .unset] []))
  refine Go.st (fun _ k' => XS.iconst X0.here hx rfl (hb hby d16_5) k') ?_
  show Go p e below s _ _ _ (s₁.setTop (mkF m 6 #[.val (.ref ob), .val (.ref ob), .unset] [(.int (1 : Int32))]))
  refine Go.retB X0 hx hlk (t := .boolean) Bd.returns (by simp) (hb hby d16_6) (by decide) (by decide) e0 ?_
  exact ⟨rfl, N0, rfl⟩
theorem pd___C_V : parseMethodDescriptor "([C)V" = some ⟨[(.array .char)], none⟩ := by decide +kernel
theorem pd___Ljava_lang_String__V : parseMethodDescriptor "([Ljava/lang/String;)V" = some ⟨[(.array (.object "java/lang/String"))], none⟩ := by decide +kernel
theorem pd__Ljava_lang_Object__Z : parseMethodDescriptor "(Ljava/lang/Object;)Z" = some ⟨[(.object "java/lang/Object")], some .boolean⟩ := by decide +kernel
theorem pn_com_example_reportwire_reportwire_ArgumentsPeekPinLaw : plainName "com/example/reportwire/reportwire/ArgumentsPeekPinLaw" = true := by first | (simp [plainName, overriddenIn]; done) | decide +kernel
theorem ef_rm0 (m : MethodId) (xa : Int32) (xb : Int32) (xc : Int32) (sel : Int32) : entryFrame m #[(.int xa), (.int xb), (.int xc), (.int sel)] maxLocals = mkF m 0 #[.val (.int xa), .val (.int xb), .val (.int xc), .val (.int sel), .unset, .unset, .unset, .unset, .unset, .unset, .unset, .unset, .unset, .unset, .unset, .unset, .unset, .unset, .unset] [] := by first | (simp [entryFrame, mkF, argsToLocals, Value.category, maxLocals]; done) | rfl
def Q0 (Z : State) (xa : Int32) (xb : Int32) (xc : Int32) (sel : Int32) (cs : Int32) (h0 : Heap) (n0 : Nat) (v : Option Value) (h : Heap) (L : List Loc) : Prop := v = some (.int (1 : Int32)) ∧ Fr n0 L ∧ True
set_option maxRecDepth 65536 in
set_option maxHeartbeats 40000000 in
theorem rm0 (l : Launch) (Z : State) (a0 : Array Value) (hw : ∀ d ∈ tables_1, d.before a0 Z = true) (ws : List Jvm.Cond) (xa : Int32) (xb : Int32) (xc : Int32) (sel : Int32) (cs : Int32) (h0 : Heap) (n0 : Nat) (O0 : Old Z n0 h0) (S_cs : Sta Z Z.heap "java/lang/String" "COMPACT_STRINGS" "Z" (.int cs)) (q_cs : ¬ cs = (0 : Int32)) :
    MetFree l x (head1 (Jvm.Cond.code x code maxLocals ret :: ws) room_1) (fun ay U => ay = #[(.int xa), (.int xb), (.int xc), (.int sel)] ∧ Z.Warmed39 U.vm ∧ U.heap = h0) (fun _ _ _ _ _ => True) (fun _ U o U' => ∃ v L, o = .returned v ∧ Q0 Z xa xb xc sel cs h0 n0 v U'.heap L ∧ FrameEnd U o U' L room_1.cells room_1.slots) := by
  refine MetFree.of_bodySF (plainFor_of_name pn_com_example_reportwire_reportwire_ArgumentsPeekPinLaw) hisR ?_
  intro p e s m args below meth c s₁ Bd hml0 hP hK
  obtain ⟨rfl, hZ, hh⟩ := hP
  have hx := Bd.exec
  have hby := Bd.bytes
  have hlk : meth.locks = false := BodyLoose.notSynchronized Bd
  have hml : c.maxLocals = 19 := hml0
  have hown : s.vm.findClass "com/example/reportwire/reportwire/ArgumentsPeekPinLaw" = some m.cls := findClass_of_methodNamed Bd.named
  have hnm := (name_of_methodNamed Bd.named Bd.method).1
  have X0 : Stand p l e room_1 s m #[(.int xa), (.int xb), (.int xc), (.int sel)] below meth c s₁ [] 0 0 := Stand.of_body Bd
  have e0 : s₁.heap = h0 := by rw [← hh, Bd.state]; rfl
  have N0 := Fr.nil n0
  suffices hgo : Go p e below s 40 192 (Q0 Z xa xb xc sel cs h0 n0) (s₁.setTop (mkF m 0 #[.val (.int xa), .val (.int xb), .val (.int xc), .val (.int sel), .unset, .unset, .unset, .unset, .unset, .unset, .unset, .unset, .unset, .unset, .unset, .unset, .unset, .unset, .unset] [])) by
    obtain ⟨t, o, h1, h2⟩ := hgo; exact ⟨t, o, castTop (ef_rm0 m xa xb xc sel) h1, h2⟩
  show Go p e below s _ _ _ (s₁.setTop (mkF m 0 #[.val (.int xa), .val (.int xb), .val (.int xc), .val (.int sel), .unset, .unset, .unset, .unset, .unset, .unset, .unset, .unset, .unset, .unset, .unset, .unset, .unset, .unset, .unset] []))
  refine Go.st (fun _ k' => XS.iloadN X0.here hx rfl (hb hby at_0) rfl k') ?_
  show Go p e below s _ _ _ (s₁.setTop (mkF m 1 #[.val (.int xa), .val (.int xb), .val (.int xc), .val (.int sel), .unset, .unset, .unset, .unset, .unset, .unset, .unset, .unset, .unset, .unset, .unset, .unset, .unset, .unset, .unset] [(.int xa)]))
  refine Go.st (fun _ k' => XS.sipush X0.here hx rfl (hb hby at_1) k') ?_
  show Go p e below s _ _ _ (s₁.setTop (mkF m 4 #[.val (.int xa), .val (.int xb), .val (.int xc), .val (.int sel), .unset, .unset, .unset, .unset, .unset, .unset, .unset, .unset, .unset, .unset, .unset, .unset, .unset, .unset, .unset] [(.int (255 : Int32)), (.int xa)]))
  refine Go.st (fun _ k' => XS.iand X0.here hx rfl (hb hby at_4) rfl k') ?_
  show Go p e below s _ _ _ (s₁.setTop (mkF m 5 #[.val (.int xa), .val (.int xb), .val (.int xc), .val (.int sel), .unset, .unset, .unset, .unset, .unset, .unset, .unset, .unset, .unset, .unset, .unset, .unset, .unset, .unset, .unset] [(.int (xa &&& (255 : Int32)))]))
  refine Go.st (fun _ k' => XS.i2c X0.here hx rfl (hb hby at_5) rfl k') ?_
  show Go p e below s _ _ _ (s₁.setTop (mkF m 6 #[.val (.int xa), .val (.int xb), .val (.int xc), .val (.int sel), .unset, .unset, .unset, .unset, .unset, .unset, .unset, .unset, .unset, .unset, .unset, .unset, .unset, .unset, .unset] [(.int ((xa &&& (255 : Int32)).toUInt32.toUInt16.toUInt32.toInt32))]))
  refine Go.st (fun _ k' => XS.istore X0.here hx rfl (hb hby at_6) rfl (l' := #[.val (.int xa), .val (.int xb), .val (.int xc), .val (.int sel), .val (.int ((xa &&& (255 : Int32)).toUInt32.toUInt16.toUInt32.toInt32)), .unset, .unset, .unset, .unset, .unset, .unset, .unset, .unset, .unset, .unset, .unset, .unset, .unset, .unset]) rfl k') ?_
  show Go p e below s _ _ _ (s₁.setTop (mkF m 8 #[.val (.int xa), .val (.int xb), .val (.int xc), .val (.int sel), .val (.int ((xa &&& (255 : Int32)).toUInt32.toUInt16.toUInt32.toInt32)), .unset, .unset, .unset, .unset, .unset, .unset, .unset, .unset, .unset, .unset, .unset, .unset, .unset, .unset] []))
  refine Go.st (fun _ k' => XS.iloadN X0.here hx rfl (hb hby at_8) rfl k') ?_
  show Go p e below s _ _ _ (s₁.setTop (mkF m 9 #[.val (.int xa), .val (.int xb), .val (.int xc), .val (.int sel), .val (.int ((xa &&& (255 : Int32)).toUInt32.toUInt16.toUInt32.toInt32)), .unset, .unset, .unset, .unset, .unset, .unset, .unset, .unset, .unset, .unset, .unset, .unset, .unset, .unset] [(.int xa)]))
  refine Go.st (fun _ k' => XS.bipush X0.here hx rfl (hb hby at_9) k') ?_
  show Go p e below s _ _ _ (s₁.setTop (mkF m 11 #[.val (.int xa), .val (.int xb), .val (.int xc), .val (.int sel), .val (.int ((xa &&& (255 : Int32)).toUInt32.toUInt16.toUInt32.toInt32)), .unset, .unset, .unset, .unset, .unset, .unset, .unset, .unset, .unset, .unset, .unset, .unset, .unset, .unset] [(.int (8 : Int32)), (.int xa)]))
  refine Go.st (fun _ k' => XS.iushr X0.here hx rfl (hb hby at_11) rfl k') ?_
  show Go p e below s _ _ _ (s₁.setTop (mkF m 12 #[.val (.int xa), .val (.int xb), .val (.int xc), .val (.int sel), .val (.int ((xa &&& (255 : Int32)).toUInt32.toUInt16.toUInt32.toInt32)), .unset, .unset, .unset, .unset, .unset, .unset, .unset, .unset, .unset, .unset, .unset, .unset, .unset, .unset] [(.int ((xa.toUInt32 >>> ((8 : Int32) &&& 31).toUInt32).toInt32))]))
  refine Go.st (fun _ k' => XS.sipush X0.here hx rfl (hb hby at_12) k') ?_
  show Go p e below s _ _ _ (s₁.setTop (mkF m 15 #[.val (.int xa), .val (.int xb), .val (.int xc), .val (.int sel), .val (.int ((xa &&& (255 : Int32)).toUInt32.toUInt16.toUInt32.toInt32)), .unset, .unset, .unset, .unset, .unset, .unset, .unset, .unset, .unset, .unset, .unset, .unset, .unset, .unset] [(.int (255 : Int32)), (.int ((xa.toUInt32 >>> ((8 : Int32) &&& 31).toUInt32).toInt32))]))
  refine Go.st (fun _ k' => XS.iand X0.here hx rfl (hb hby at_15) rfl k') ?_
  show Go p e below s _ _ _ (s₁.setTop (mkF m 16 #[.val (.int xa), .val (.int xb), .val (.int xc), .val (.int sel), .val (.int ((xa &&& (255 : Int32)).toUInt32.toUInt16.toUInt32.toInt32)), .unset, .unset, .unset, .unset, .unset, .unset, .unset, .unset, .unset, .unset, .unset, .unset, .unset, .unset] [(.int (((xa.toUInt32 >>> ((8 : Int32) &&& 31).toUInt32).toInt32) &&& (255 : Int32)))]))
  refine Go.st (fun _ k' => XS.i2c X0.here hx rfl (hb hby at_16) rfl k') ?_
  show Go p e below s _ _ _ (s₁.setTop (mkF m 17 #[.val (.int xa), .val (.int xb), .val (.int xc), .val (.int sel), .val (.int ((xa &&& (255 : Int32)).toUInt32.toUInt16.toUInt32.toInt32)), .unset, .unset, .unset, .unset, .unset, .unset, .unset, .unset, .unset, .unset, .unset, .unset, .unset, .unset] [(.int ((((xa.toUInt32 >>> ((8 : Int32) &&& 31).toUInt32).toInt32) &&& (255 : Int32)).toUInt32.toUInt16.toUInt32.toInt32))]))
  refine Go.st (fun _ k' => XS.istore X0.here hx rfl (hb hby at_17) rfl (l' := #[.val (.int xa), .val (.int xb), .val (.int xc), .val (.int sel), .val (.int ((xa &&& (255 : Int32)).toUInt32.toUInt16.toUInt32.toInt32)), .val (.int ((((xa.toUInt32 >>> ((8 : Int32) &&& 31).toUInt32).toInt32) &&& (255 : Int32)).toUInt32.toUInt16.toUInt32.toInt32)), .unset, .unset, .unset, .unset, .unset, .unset, .unset, .unset, .unset, .unset, .unset, .unset, .unset]) rfl k') ?_
  show Go p e below s _ _ _ (s₁.setTop (mkF m 19 #[.val (.int xa), .val (.int xb), .val (.int xc), .val (.int sel), .val (.int ((xa &&& (255 : Int32)).toUInt32.toUInt16.toUInt32.toInt32)), .val (.int ((((xa.toUInt32 >>> ((8 : Int32) &&& 31).toUInt32).toInt32) &&& (255 : Int32)).toUInt32.toUInt16.toUInt32.toInt32)), .unset, .unset, .unset, .unset, .unset, .unset, .unset, .unset, .unset, .unset, .unset, .unset, .unset] []))
  refine Go.st (fun _ k' => XS.iloadN X0.here hx rfl (hb hby at_19) rfl k') ?_
  show Go p e below s _ _ _ (s₁.setTop (mkF m 20 #[.val (.int xa), .val (.int xb), .val (.int xc), .val (.int sel), .val (.int ((xa &&& (255 : Int32)).toUInt32.toUInt16.toUInt32.toInt32)), .val (.int ((((xa.toUInt32 >>> ((8 : Int32) &&& 31).toUInt32).toInt32) &&& (255 : Int32)).toUInt32.toUInt16.toUInt32.toInt32)), .unset, .unset, .unset, .unset, .unset, .unset, .unset, .unset, .unset, .unset, .unset, .unset, .unset] [(.int xb)]))
  refine Go.st (fun _ k' => XS.sipush X0.here hx rfl (hb hby at_20) k') ?_
  show Go p e below s _ _ _ (s₁.setTop (mkF m 23 #[.val (.int xa), .val (.int xb), .val (.int xc), .val (.int sel), .val (.int ((xa &&& (255 : Int32)).toUInt32.toUInt16.toUInt32.toInt32)), .val (.int ((((xa.toUInt32 >>> ((8 : Int32) &&& 31).toUInt32).toInt32) &&& (255 : Int32)).toUInt32.toUInt16.toUInt32.toInt32)), .unset, .unset, .unset, .unset, .unset, .unset, .unset, .unset, .unset, .unset, .unset, .unset, .unset] [(.int (255 : Int32)), (.int xb)]))
  refine Go.st (fun _ k' => XS.iand X0.here hx rfl (hb hby at_23) rfl k') ?_
  show Go p e below s _ _ _ (s₁.setTop (mkF m 24 #[.val (.int xa), .val (.int xb), .val (.int xc), .val (.int sel), .val (.int ((xa &&& (255 : Int32)).toUInt32.toUInt16.toUInt32.toInt32)), .val (.int ((((xa.toUInt32 >>> ((8 : Int32) &&& 31).toUInt32).toInt32) &&& (255 : Int32)).toUInt32.toUInt16.toUInt32.toInt32)), .unset, .unset, .unset, .unset, .unset, .unset, .unset, .unset, .unset, .unset, .unset, .unset, .unset] [(.int (xb &&& (255 : Int32)))]))
  refine Go.st (fun _ k' => XS.i2c X0.here hx rfl (hb hby at_24) rfl k') ?_
  show Go p e below s _ _ _ (s₁.setTop (mkF m 25 #[.val (.int xa), .val (.int xb), .val (.int xc), .val (.int sel), .val (.int ((xa &&& (255 : Int32)).toUInt32.toUInt16.toUInt32.toInt32)), .val (.int ((((xa.toUInt32 >>> ((8 : Int32) &&& 31).toUInt32).toInt32) &&& (255 : Int32)).toUInt32.toUInt16.toUInt32.toInt32)), .unset, .unset, .unset, .unset, .unset, .unset, .unset, .unset, .unset, .unset, .unset, .unset, .unset] [(.int ((xb &&& (255 : Int32)).toUInt32.toUInt16.toUInt32.toInt32))]))
  refine Go.st (fun _ k' => XS.istore X0.here hx rfl (hb hby at_25) rfl (l' := #[.val (.int xa), .val (.int xb), .val (.int xc), .val (.int sel), .val (.int ((xa &&& (255 : Int32)).toUInt32.toUInt16.toUInt32.toInt32)), .val (.int ((((xa.toUInt32 >>> ((8 : Int32) &&& 31).toUInt32).toInt32) &&& (255 : Int32)).toUInt32.toUInt16.toUInt32.toInt32)), .val (.int ((xb &&& (255 : Int32)).toUInt32.toUInt16.toUInt32.toInt32)), .unset, .unset, .unset, .unset, .unset, .unset, .unset, .unset, .unset, .unset, .unset, .unset]) rfl k') ?_
  show Go p e below s _ _ _ (s₁.setTop (mkF m 27 #[.val (.int xa), .val (.int xb), .val (.int xc), .val (.int sel), .val (.int ((xa &&& (255 : Int32)).toUInt32.toUInt16.toUInt32.toInt32)), .val (.int ((((xa.toUInt32 >>> ((8 : Int32) &&& 31).toUInt32).toInt32) &&& (255 : Int32)).toUInt32.toUInt16.toUInt32.toInt32)), .val (.int ((xb &&& (255 : Int32)).toUInt32.toUInt16.toUInt32.toInt32)), .unset, .unset, .unset, .unset, .unset, .unset, .unset, .unset, .unset, .unset, .unset, .unset] []))
  refine Go.st (fun _ k' => XS.iloadN X0.here hx rfl (hb hby at_27) rfl k') ?_
  show Go p e below s _ _ _ (s₁.setTop (mkF m 28 #[.val (.int xa), .val (.int xb), .val (.int xc), .val (.int sel), .val (.int ((xa &&& (255 : Int32)).toUInt32.toUInt16.toUInt32.toInt32)), .val (.int ((((xa.toUInt32 >>> ((8 : Int32) &&& 31).toUInt32).toInt32) &&& (255 : Int32)).toUInt32.toUInt16.toUInt32.toInt32)), .val (.int ((xb &&& (255 : Int32)).toUInt32.toUInt16.toUInt32.toInt32)), .unset, .unset, .unset, .unset, .unset, .unset, .unset, .unset, .unset, .unset, .unset, .unset] [(.int xb)]))
  refine Go.st (fun _ k' => XS.bipush X0.here hx rfl (hb hby at_28) k') ?_
  show Go p e below s _ _ _ (s₁.setTop (mkF m 30 #[.val (.int xa), .val (.int xb), .val (.int xc), .val (.int sel), .val (.int ((xa &&& (255 : Int32)).toUInt32.toUInt16.toUInt32.toInt32)), .val (.int ((((xa.toUInt32 >>> ((8 : Int32) &&& 31).toUInt32).toInt32) &&& (255 : Int32)).toUInt32.toUInt16.toUInt32.toInt32)), .val (.int ((xb &&& (255 : Int32)).toUInt32.toUInt16.toUInt32.toInt32)), .unset, .unset, .unset, .unset, .unset, .unset, .unset, .unset, .unset, .unset, .unset, .unset] [(.int (8 : Int32)), (.int xb)]))
  refine Go.st (fun _ k' => XS.iushr X0.here hx rfl (hb hby at_30) rfl k') ?_
  show Go p e below s _ _ _ (s₁.setTop (mkF m 31 #[.val (.int xa), .val (.int xb), .val (.int xc), .val (.int sel), .val (.int ((xa &&& (255 : Int32)).toUInt32.toUInt16.toUInt32.toInt32)), .val (.int ((((xa.toUInt32 >>> ((8 : Int32) &&& 31).toUInt32).toInt32) &&& (255 : Int32)).toUInt32.toUInt16.toUInt32.toInt32)), .val (.int ((xb &&& (255 : Int32)).toUInt32.toUInt16.toUInt32.toInt32)), .unset, .unset, .unset, .unset, .unset, .unset, .unset, .unset, .unset, .unset, .unset, .unset] [(.int ((xb.toUInt32 >>> ((8 : Int32) &&& 31).toUInt32).toInt32))]))
  refine Go.st (fun _ k' => XS.sipush X0.here hx rfl (hb hby at_31) k') ?_
  show Go p e below s _ _ _ (s₁.setTop (mkF m 34 #[.val (.int xa), .val (.int xb), .val (.int xc), .val (.int sel), .val (.int ((xa &&& (255 : Int32)).toUInt32.toUInt16.toUInt32.toInt32)), .val (.int ((((xa.toUInt32 >>> ((8 : Int32) &&& 31).toUInt32).toInt32) &&& (255 : Int32)).toUInt32.toUInt16.toUInt32.toInt32)), .val (.int ((xb &&& (255 : Int32)).toUInt32.toUInt16.toUInt32.toInt32)), .unset, .unset, .unset, .unset, .unset, .unset, .unset, .unset, .unset, .unset, .unset, .unset] [(.int (255 : Int32)), (.int ((xb.toUInt32 >>> ((8 : Int32) &&& 31).toUInt32).toInt32))]))
  refine Go.st (fun _ k' => XS.iand X0.here hx rfl (hb hby at_34) rfl k') ?_
  show Go p e below s _ _ _ (s₁.setTop (mkF m 35 #[.val (.int xa), .val (.int xb), .val (.int xc), .val (.int sel), .val (.int ((xa &&& (255 : Int32)).toUInt32.toUInt16.toUInt32.toInt32)), .val (.int ((((xa.toUInt32 >>> ((8 : Int32) &&& 31).toUInt32).toInt32) &&& (255 : Int32)).toUInt32.toUInt16.toUInt32.toInt32)), .val (.int ((xb &&& (255 : Int32)).toUInt32.toUInt16.toUInt32.toInt32)), .unset, .unset, .unset, .unset, .unset, .unset, .unset, .unset, .unset, .unset, .unset, .unset] [(.int (((xb.toUInt32 >>> ((8 : Int32) &&& 31).toUInt32).toInt32) &&& (255 : Int32)))]))
  refine Go.st (fun _ k' => XS.i2c X0.here hx rfl (hb hby at_35) rfl k') ?_
  show Go p e below s _ _ _ (s₁.setTop (mkF m 36 #[.val (.int xa), .val (.int xb), .val (.int xc), .val (.int sel), .val (.int ((xa &&& (255 : Int32)).toUInt32.toUInt16.toUInt32.toInt32)), .val (.int ((((xa.toUInt32 >>> ((8 : Int32) &&& 31).toUInt32).toInt32) &&& (255 : Int32)).toUInt32.toUInt16.toUInt32.toInt32)), .val (.int ((xb &&& (255 : Int32)).toUInt32.toUInt16.toUInt32.toInt32)), .unset, .unset, .unset, .unset, .unset, .unset, .unset, .unset, .unset, .unset, .unset, .unset] [(.int ((((xb.toUInt32 >>> ((8 : Int32) &&& 31).toUInt32).toInt32) &&& (255 : Int32)).toUInt32.toUInt16.toUInt32.toInt32))]))
  refine Go.st (fun _ k' => XS.istore X0.here hx rfl (hb hby at_36) rfl (l' := #[.val (.int xa), .val (.int xb), .val (.int xc), .val (.int sel), .val (.int ((xa &&& (255 : Int32)).toUInt32.toUInt16.toUInt32.toInt32)), .val (.int ((((xa.toUInt32 >>> ((8 : Int32) &&& 31).toUInt32).toInt32) &&& (255 : Int32)).toUInt32.toUInt16.toUInt32.toInt32)), .val (.int ((xb &&& (255 : Int32)).toUInt32.toUInt16.toUInt32.toInt32)), .val (.int ((((xb.toUInt32 >>> ((8 : Int32) &&& 31).toUInt32).toInt32) &&& (255 : Int32)).toUInt32.toUInt16.toUInt32.toInt32)), .unset, .unset, .unset, .unset, .unset, .unset, .unset, .unset, .unset, .unset, .unset]) rfl k') ?_
  show Go p e below s _ _ _ (s₁.setTop (mkF m 38 #[.val (.int xa), .val (.int xb), .val (.int xc), .val (.int sel), .val (.int ((xa &&& (255 : Int32)).toUInt32.toUInt16.toUInt32.toInt32)), .val (.int ((((xa.toUInt32 >>> ((8 : Int32) &&& 31).toUInt32).toInt32) &&& (255 : Int32)).toUInt32.toUInt16.toUInt32.toInt32)), .val (.int ((xb &&& (255 : Int32)).toUInt32.toUInt16.toUInt32.toInt32)), .val (.int ((((xb.toUInt32 >>> ((8 : Int32) &&& 31).toUInt32).toInt32) &&& (255 : Int32)).toUInt32.toUInt16.toUInt32.toInt32)), .unset, .unset, .unset, .unset, .unset, .unset, .unset, .unset, .unset, .unset, .unset] []))
  refine Go.st (fun _ k' => XS.iloadN X0.here hx rfl (hb hby at_38) rfl k') ?_
  show Go p e below s _ _ _ (s₁.setTop (mkF m 39 #[.val (.int xa), .val (.int xb), .val (.int xc), .val (.int sel), .val (.int ((xa &&& (255 : Int32)).toUInt32.toUInt16.toUInt32.toInt32)), .val (.int ((((xa.toUInt32 >>> ((8 : Int32) &&& 31).toUInt32).toInt32) &&& (255 : Int32)).toUInt32.toUInt16.toUInt32.toInt32)), .val (.int ((xb &&& (255 : Int32)).toUInt32.toUInt16.toUInt32.toInt32)), .val (.int ((((xb.toUInt32 >>> ((8 : Int32) &&& 31).toUInt32).toInt32) &&& (255 : Int32)).toUInt32.toUInt16.toUInt32.toInt32)), .unset, .unset, .unset, .unset, .unset, .unset, .unset, .unset, .unset, .unset, .unset] [(.int xc)]))
  refine Go.st (fun _ k' => XS.sipush X0.here hx rfl (hb hby at_39) k') ?_
  show Go p e below s _ _ _ (s₁.setTop (mkF m 42 #[.val (.int xa), .val (.int xb), .val (.int xc), .val (.int sel), .val (.int ((xa &&& (255 : Int32)).toUInt32.toUInt16.toUInt32.toInt32)), .val (.int ((((xa.toUInt32 >>> ((8 : Int32) &&& 31).toUInt32).toInt32) &&& (255 : Int32)).toUInt32.toUInt16.toUInt32.toInt32)), .val (.int ((xb &&& (255 : Int32)).toUInt32.toUInt16.toUInt32.toInt32)), .val (.int ((((xb.toUInt32 >>> ((8 : Int32) &&& 31).toUInt32).toInt32) &&& (255 : Int32)).toUInt32.toUInt16.toUInt32.toInt32)), .unset, .unset, .unset, .unset, .unset, .unset, .unset, .unset, .unset, .unset, .unset] [(.int (255 : Int32)), (.int xc)]))
  refine Go.st (fun _ k' => XS.iand X0.here hx rfl (hb hby at_42) rfl k') ?_
  show Go p e below s _ _ _ (s₁.setTop (mkF m 43 #[.val (.int xa), .val (.int xb), .val (.int xc), .val (.int sel), .val (.int ((xa &&& (255 : Int32)).toUInt32.toUInt16.toUInt32.toInt32)), .val (.int ((((xa.toUInt32 >>> ((8 : Int32) &&& 31).toUInt32).toInt32) &&& (255 : Int32)).toUInt32.toUInt16.toUInt32.toInt32)), .val (.int ((xb &&& (255 : Int32)).toUInt32.toUInt16.toUInt32.toInt32)), .val (.int ((((xb.toUInt32 >>> ((8 : Int32) &&& 31).toUInt32).toInt32) &&& (255 : Int32)).toUInt32.toUInt16.toUInt32.toInt32)), .unset, .unset, .unset, .unset, .unset, .unset, .unset, .unset, .unset, .unset, .unset] [(.int (xc &&& (255 : Int32)))]))
  refine Go.st (fun _ k' => XS.i2c X0.here hx rfl (hb hby at_43) rfl k') ?_
  show Go p e below s _ _ _ (s₁.setTop (mkF m 44 #[.val (.int xa), .val (.int xb), .val (.int xc), .val (.int sel), .val (.int ((xa &&& (255 : Int32)).toUInt32.toUInt16.toUInt32.toInt32)), .val (.int ((((xa.toUInt32 >>> ((8 : Int32) &&& 31).toUInt32).toInt32) &&& (255 : Int32)).toUInt32.toUInt16.toUInt32.toInt32)), .val (.int ((xb &&& (255 : Int32)).toUInt32.toUInt16.toUInt32.toInt32)), .val (.int ((((xb.toUInt32 >>> ((8 : Int32) &&& 31).toUInt32).toInt32) &&& (255 : Int32)).toUInt32.toUInt16.toUInt32.toInt32)), .unset, .unset, .unset, .unset, .unset, .unset, .unset, .unset, .unset, .unset, .unset] [(.int ((xc &&& (255 : Int32)).toUInt32.toUInt16.toUInt32.toInt32))]))
  refine Go.st (fun _ k' => XS.istore X0.here hx rfl (hb hby at_44) rfl (l' := #[.val (.int xa), .val (.int xb), .val (.int xc), .val (.int sel), .val (.int ((xa &&& (255 : Int32)).toUInt32.toUInt16.toUInt32.toInt32)), .val (.int ((((xa.toUInt32 >>> ((8 : Int32) &&& 31).toUInt32).toInt32) &&& (255 : Int32)).toUInt32.toUInt16.toUInt32.toInt32)), .val (.int ((xb &&& (255 : Int32)).toUInt32.toUInt16.toUInt32.toInt32)), .val (.int ((((xb.toUInt32 >>> ((8 : Int32) &&& 31).toUInt32).toInt32) &&& (255 : Int32)).toUInt32.toUInt16.toUInt32.toInt32)), .val (.int ((xc &&& (255 : Int32)).toUInt32.toUInt16.toUInt32.toInt32)), .unset, .unset, .unset, .unset, .unset, .unset, .unset, .unset, .unset, .unset]) rfl k') ?_
  show Go p e below s _ _ _ (s₁.setTop (mkF m 46 #[.val (.int xa), .val (.int xb), .val (.int xc), .val (.int sel), .val (.int ((xa &&& (255 : Int32)).toUInt32.toUInt16.toUInt32.toInt32)), .val (.int ((((xa.toUInt32 >>> ((8 : Int32) &&& 31).toUInt32).toInt32) &&& (255 : Int32)).toUInt32.toUInt16.toUInt32.toInt32)), .val (.int ((xb &&& (255 : Int32)).toUInt32.toUInt16.toUInt32.toInt32)), .val (.int ((((xb.toUInt32 >>> ((8 : Int32) &&& 31).toUInt32).toInt32) &&& (255 : Int32)).toUInt32.toUInt16.toUInt32.toInt32)), .val (.int ((xc &&& (255 : Int32)).toUInt32.toUInt16.toUInt32.toInt32)), .unset, .unset, .unset, .unset, .unset, .unset, .unset, .unset, .unset, .unset] []))
  refine Go.st (fun _ k' => XS.iloadN X0.here hx rfl (hb hby at_46) rfl k') ?_
  show Go p e below s _ _ _ (s₁.setTop (mkF m 47 #[.val (.int xa), .val (.int xb), .val (.int xc), .val (.int sel), .val (.int ((xa &&& (255 : Int32)).toUInt32.toUInt16.toUInt32.toInt32)), .val (.int ((((xa.toUInt32 >>> ((8 : Int32) &&& 31).toUInt32).toInt32) &&& (255 : Int32)).toUInt32.toUInt16.toUInt32.toInt32)), .val (.int ((xb &&& (255 : Int32)).toUInt32.toUInt16.toUInt32.toInt32)), .val (.int ((((xb.toUInt32 >>> ((8 : Int32) &&& 31).toUInt32).toInt32) &&& (255 : Int32)).toUInt32.toUInt16.toUInt32.toInt32)), .val (.int ((xc &&& (255 : Int32)).toUInt32.toUInt16.toUInt32.toInt32)), .unset, .unset, .unset, .unset, .unset, .unset, .unset, .unset, .unset, .unset] [(.int xc)]))
  refine Go.st (fun _ k' => XS.bipush X0.here hx rfl (hb hby at_47) k') ?_
  show Go p e below s _ _ _ (s₁.setTop (mkF m 49 #[.val (.int xa), .val (.int xb), .val (.int xc), .val (.int sel), .val (.int ((xa &&& (255 : Int32)).toUInt32.toUInt16.toUInt32.toInt32)), .val (.int ((((xa.toUInt32 >>> ((8 : Int32) &&& 31).toUInt32).toInt32) &&& (255 : Int32)).toUInt32.toUInt16.toUInt32.toInt32)), .val (.int ((xb &&& (255 : Int32)).toUInt32.toUInt16.toUInt32.toInt32)), .val (.int ((((xb.toUInt32 >>> ((8 : Int32) &&& 31).toUInt32).toInt32) &&& (255 : Int32)).toUInt32.toUInt16.toUInt32.toInt32)), .val (.int ((xc &&& (255 : Int32)).toUInt32.toUInt16.toUInt32.toInt32)), .unset, .unset, .unset, .unset, .unset, .unset, .unset, .unset, .unset, .unset] [(.int (8 : Int32)), (.int xc)]))
  refine Go.st (fun _ k' => XS.iushr X0.here hx rfl (hb hby at_49) rfl k') ?_
  show Go p e below s _ _ _ (s₁.setTop (mkF m 50 #[.val (.int xa), .val (.int xb), .val (.int xc), .val (.int sel), .val (.int ((xa &&& (255 : Int32)).toUInt32.toUInt16.toUInt32.toInt32)), .val (.int ((((xa.toUInt32 >>> ((8 : Int32) &&& 31).toUInt32).toInt32) &&& (255 : Int32)).toUInt32.toUInt16.toUInt32.toInt32)), .val (.int ((xb &&& (255 : Int32)).toUInt32.toUInt16.toUInt32.toInt32)), .val (.int ((((xb.toUInt32 >>> ((8 : Int32) &&& 31).toUInt32).toInt32) &&& (255 : Int32)).toUInt32.toUInt16.toUInt32.toInt32)), .val (.int ((xc &&& (255 : Int32)).toUInt32.toUInt16.toUInt32.toInt32)), .unset, .unset, .unset, .unset, .unset, .unset, .unset, .unset, .unset, .unset] [(.int ((xc.toUInt32 >>> ((8 : Int32) &&& 31).toUInt32).toInt32))]))
  refine Go.st (fun _ k' => XS.sipush X0.here hx rfl (hb hby at_50) k') ?_
  show Go p e below s _ _ _ (s₁.setTop (mkF m 53 #[.val (.int xa), .val (.int xb), .val (.int xc), .val (.int sel), .val (.int ((xa &&& (255 : Int32)).toUInt32.toUInt16.toUInt32.toInt32)), .val (.int ((((xa.toUInt32 >>> ((8 : Int32) &&& 31).toUInt32).toInt32) &&& (255 : Int32)).toUInt32.toUInt16.toUInt32.toInt32)), .val (.int ((xb &&& (255 : Int32)).toUInt32.toUInt16.toUInt32.toInt32)), .val (.int ((((xb.toUInt32 >>> ((8 : Int32) &&& 31).toUInt32).toInt32) &&& (255 : Int32)).toUInt32.toUInt16.toUInt32.toInt32)), .val (.int ((xc &&& (255 : Int32)).toUInt32.toUInt16.toUInt32.toInt32)), .unset, .unset, .unset, .unset, .unset, .unset, .unset, .unset, .unset, .unset] [(.int (255 : Int32)), (.int ((xc.toUInt32 >>> ((8 : Int32) &&& 31).toUInt32).toInt32))]))
  refine Go.st (fun _ k' => XS.iand X0.here hx rfl (hb hby at_53) rfl k') ?_
  show Go p e below s _ _ _ (s₁.setTop (mkF m 54 #[.val (.int xa), .val (.int xb), .val (.int xc), .val (.int sel), .val (.int ((xa &&& (255 : Int32)).toUInt32.toUInt16.toUInt32.toInt32)), .val (.int ((((xa.toUInt32 >>> ((8 : Int32) &&& 31).toUInt32).toInt32) &&& (255 : Int32)).toUInt32.toUInt16.toUInt32.toInt32)), .val (.int ((xb &&& (255 : Int32)).toUInt32.toUInt16.toUInt32.toInt32)), .val (.int ((((xb.toUInt32 >>> ((8 : Int32) &&& 31).toUInt32).toInt32) &&& (255 : Int32)).toUInt32.toUInt16.toUInt32.toInt32)), .val (.int ((xc &&& (255 : Int32)).toUInt32.toUInt16.toUInt32.toInt32)), .unset, .unset, .unset, .unset, .unset, .unset, .unset, .unset, .unset, .unset] [(.int (((xc.toUInt32 >>> ((8 : Int32) &&& 31).toUInt32).toInt32) &&& (255 : Int32)))]))
  refine Go.st (fun _ k' => XS.i2c X0.here hx rfl (hb hby at_54) rfl k') ?_
  show Go p e below s _ _ _ (s₁.setTop (mkF m 55 #[.val (.int xa), .val (.int xb), .val (.int xc), .val (.int sel), .val (.int ((xa &&& (255 : Int32)).toUInt32.toUInt16.toUInt32.toInt32)), .val (.int ((((xa.toUInt32 >>> ((8 : Int32) &&& 31).toUInt32).toInt32) &&& (255 : Int32)).toUInt32.toUInt16.toUInt32.toInt32)), .val (.int ((xb &&& (255 : Int32)).toUInt32.toUInt16.toUInt32.toInt32)), .val (.int ((((xb.toUInt32 >>> ((8 : Int32) &&& 31).toUInt32).toInt32) &&& (255 : Int32)).toUInt32.toUInt16.toUInt32.toInt32)), .val (.int ((xc &&& (255 : Int32)).toUInt32.toUInt16.toUInt32.toInt32)), .unset, .unset, .unset, .unset, .unset, .unset, .unset, .unset, .unset, .unset] [(.int ((((xc.toUInt32 >>> ((8 : Int32) &&& 31).toUInt32).toInt32) &&& (255 : Int32)).toUInt32.toUInt16.toUInt32.toInt32))]))
  refine Go.st (fun _ k' => XS.istore X0.here hx rfl (hb hby at_55) rfl (l' := #[.val (.int xa), .val (.int xb), .val (.int xc), .val (.int sel), .val (.int ((xa &&& (255 : Int32)).toUInt32.toUInt16.toUInt32.toInt32)), .val (.int ((((xa.toUInt32 >>> ((8 : Int32) &&& 31).toUInt32).toInt32) &&& (255 : Int32)).toUInt32.toUInt16.toUInt32.toInt32)), .val (.int ((xb &&& (255 : Int32)).toUInt32.toUInt16.toUInt32.toInt32)), .val (.int ((((xb.toUInt32 >>> ((8 : Int32) &&& 31).toUInt32).toInt32) &&& (255 : Int32)).toUInt32.toUInt16.toUInt32.toInt32)), .val (.int ((xc &&& (255 : Int32)).toUInt32.toUInt16.toUInt32.toInt32)), .val (.int ((((xc.toUInt32 >>> ((8 : Int32) &&& 31).toUInt32).toInt32) &&& (255 : Int32)).toUInt32.toUInt16.toUInt32.toInt32)), .unset, .unset, .unset, .unset, .unset, .unset, .unset, .unset, .unset]) rfl k') ?_
  show Go p e below s _ _ _ (s₁.setTop (mkF m 57 #[.val (.int xa), .val (.int xb), .val (.int xc), .val (.int sel), .val (.int ((xa &&& (255 : Int32)).toUInt32.toUInt16.toUInt32.toInt32)), .val (.int ((((xa.toUInt32 >>> ((8 : Int32) &&& 31).toUInt32).toInt32) &&& (255 : Int32)).toUInt32.toUInt16.toUInt32.toInt32)), .val (.int ((xb &&& (255 : Int32)).toUInt32.toUInt16.toUInt32.toInt32)), .val (.int ((((xb.toUInt32 >>> ((8 : Int32) &&& 31).toUInt32).toInt32) &&& (255 : Int32)).toUInt32.toUInt16.toUInt32.toInt32)), .val (.int ((xc &&& (255 : Int32)).toUInt32.toUInt16.toUInt32.toInt32)), .val (.int ((((xc.toUInt32 >>> ((8 : Int32) &&& 31).toUInt32).toInt32) &&& (255 : Int32)).toUInt32.toUInt16.toUInt32.toInt32)), .unset, .unset, .unset, .unset, .unset, .unset, .unset, .unset, .unset] []))
  obtain ⟨T1, h1, X1, e1, E1, A1, D1, -, st1⟩ := newO X0 hx hZ hown (wdx hw 0 rfl) (wdx hw 1 rfl) (wdx hw 2 rfl) e0 (g := (mkF m 57 #[.val (.int xa), .val (.int xb), .val (.int xc), .val (.int sel), .val (.int ((xa &&& (255 : Int32)).toUInt32.toUInt16.toUInt32.toInt32)), .val (.int ((((xa.toUInt32 >>> ((8 : Int32) &&& 31).toUInt32).toInt32) &&& (255 : Int32)).toUInt32.toUInt16.toUInt32.toInt32)), .val (.int ((xb &&& (255 : Int32)).toUInt32.toUInt16.toUInt32.toInt32)), .val (.int ((((xb.toUInt32 >>> ((8 : Int32) &&& 31).toUInt32).toInt32) &&& (255 : Int32)).toUInt32.toUInt16.toUInt32.toInt32)), .val (.int ((xc &&& (255 : Int32)).toUInt32.toUInt16.toUInt32.toInt32)), .val (.int ((((xc.toUInt32 >>> ((8 : Int32) &&& 31).toUInt32).toInt32) &&& (255 : Int32)).toUInt32.toUInt16.toUInt32.toInt32)), .unset, .unset, .unset, .unset, .unset, .unset, .unset, .unset, .unset] [])) rfl (hb hby at_57) (by decide) (by decide)
  obtain ⟨b1, g1⟩ : ∃ z, z = h0.size := ⟨_, rfl⟩
  rw [← g1] at A1 D1 st1
  refine Go.st st1 ?_
  have g_b1 : n0 ≤ b1 := Nat.le_trans (own_le O0) (Nat.le_of_eq g1.symm)
  have O1 : Old Z n0 h1 := O0.ext E1
  have f2 : Fld Z h1 b1 "java/lang/String" "coder" "B" (.int (0 : Int32)) := D1 (Or.inr (wdx hw 27 rfl)) (ty := .byte) (by decide)
  have f3 : Fld Z h1 b1 "java/lang/String" "value" "[B" .null := D1 (Or.inr (wdx hw 29 rfl)) (ty := (.array .byte)) (by decide)
  show Go p e below s _ _ _ (T1.setTop (mkF m 60 #[.val (.int xa), .val (.int xb), .val (.int xc), .val (.int sel), .val (.int ((xa &&& (255 : Int32)).toUInt32.toUInt16.toUInt32.toInt32)), .val (.int ((((xa.toUInt32 >>> ((8 : Int32) &&& 31).toUInt32).toInt32) &&& (255 : Int32)).toUInt32.toUInt16.toUInt32.toInt32)), .val (.int ((xb &&& (255 : Int32)).toUInt32.toUInt16.toUInt32.toInt32)), .val (.int ((((xb.toUInt32 >>> ((8 : Int32) &&& 31).toUInt32).toInt32) &&& (255 : Int32)).toUInt32.toUInt16.toUInt32.toInt32)), .val (.int ((xc &&& (255 : Int32)).toUInt32.toUInt16.toUInt32.toInt32)), .val (.int ((((xc.toUInt32 >>> ((8 : Int32) &&& 31).toUInt32).toInt32) &&& (255 : Int32)).toUInt32.toUInt16.toUInt32.toInt32)), .unset, .unset, .unset, .unset, .unset, .unset, .unset, .unset, .unset] [(.ref b1)]))
  refine Go.st (fun _ k' => XS.dup X1.here hx rfl (hb hby at_60) rfl rfl k') ?_
  show Go p e below s _ _ _ (T1.setTop (mkF m 61 #[.val (.int xa), .val (.int xb), .val (.int xc), .val (.int sel), .val (.int ((xa &&& (255 : Int32)).toUInt32.toUInt16.toUInt32.toInt32)), .val (.int ((((xa.toUInt32 >>> ((8 : Int32) &&& 31).toUInt32).toInt32) &&& (255 : Int32)).toUInt32.toUInt16.toUInt32.toInt32)), .val (.int ((xb &&& (255 : Int32)).toUInt32.toUInt16.toUInt32.toInt32)), .val (.int ((((xb.toUInt32 >>> ((8 : Int32) &&& 31).toUInt32).toInt32) &&& (255 : Int32)).toUInt32.toUInt16.toUInt32.toInt32)), .val (.int ((xc &&& (255 : Int32)).toUInt32.toUInt16.toUInt32.toInt32)), .val (.int ((((xc.toUInt32 >>> ((8 : Int32) &&& 31).toUInt32).toInt32) &&& (255 : Int32)).toUInt32.toUInt16.toUInt32.toInt32)), .unset, .unset, .unset, .unset, .unset, .unset, .unset, .unset, .unset] [(.ref b1), (.ref b1)]))
  refine Go.st (fun _ k' => XS.iconst X1.here hx rfl (hb hby at_61) k') ?_
  show Go p e below s _ _ _ (T1.setTop (mkF m 62 #[.val (.int xa), .val (.int xb), .val (.int xc), .val (.int sel), .val (.int ((xa &&& (255 : Int32)).toUInt32.toUInt16.toUInt32.toInt32)), .val (.int ((((xa.toUInt32 >>> ((8 : Int32) &&& 31).toUInt32).toInt32) &&& (255 : Int32)).toUInt32.toUInt16.toUInt32.toInt32)), .val (.int ((xb &&& (255 : Int32)).toUInt32.toUInt16.toUInt32.toInt32)), .val (.int ((((xb.toUInt32 >>> ((8 : Int32) &&& 31).toUInt32).toInt32) &&& (255 : Int32)).toUInt32.toUInt16.toUInt32.toInt32)), .val (.int ((xc &&& (255 : Int32)).toUInt32.toUInt16.toUInt32.toInt32)), .val (.int ((((xc.toUInt32 >>> ((8 : Int32) &&& 31).toUInt32).toInt32) &&& (255 : Int32)).toUInt32.toUInt16.toUInt32.toInt32)), .unset, .unset, .unset, .unset, .unset, .unset, .unset, .unset, .unset] [(.int (1 : Int32)), (.ref b1), (.ref b1)]))
  obtain ⟨T4, h4, k4, X4, e4, E4, A4, st4⟩ := newP X1 hx hZ (wdx hw 3 rfl) e1 (g := (mkF m 62 #[.val (.int xa), .val (.int xb), .val (.int xc), .val (.int sel), .val (.int ((xa &&& (255 : Int32)).toUInt32.toUInt16.toUInt32.toInt32)), .val (.int ((((xa.toUInt32 >>> ((8 : Int32) &&& 31).toUInt32).toInt32) &&& (255 : Int32)).toUInt32.toUInt16.toUInt32.toInt32)), .val (.int ((xb &&& (255 : Int32)).toUInt32.toUInt16.toUInt32.toInt32)), .val (.int ((((xb.toUInt32 >>> ((8 : Int32) &&& 31).toUInt32).toInt32) &&& (255 : Int32)).toUInt32.toUInt16.toUInt32.toInt32)), .val (.int ((xc &&& (255 : Int32)).toUInt32.toUInt16.toUInt32.toInt32)), .val (.int ((((xc.toUInt32 >>> ((8 : Int32) &&& 31).toUInt32).toInt32) &&& (255 : Int32)).toUInt32.toUInt16.toUInt32.toInt32)), .unset, .unset, .unset, .unset, .unset, .unset, .unset, .unset, .unset] [(.int (1 : Int32)), (.ref b1), (.ref b1)])) rfl (hb hby at_62) rfl (by decide) (cap := 1) (by decide) (by decide) (by decide) (by decide)
  obtain ⟨b4, g4⟩ : ∃ z, z = h1.size := ⟨_, rfl⟩
  rw [← g4] at A4 st4
  refine Go.st st4 ?_
  have g_b4 : n0 ≤ b4 := Nat.le_trans (own_le O1) (Nat.le_of_eq g4.symm)
  have ne5 : b1 ≠ b4 := Nat.ne_of_lt (Nat.lt_of_lt_of_le A1.lt (Nat.le_of_eq g4.symm))
  have f6 : Exa Z h4 b1 "java/lang/String" := A1.ext E4
  have f7 : Fld Z h4 b1 "java/lang/String" "coder" "B" (.int (0 : Int32)) := f2.ext E4
  have f8 : Fld Z h4 b1 "java/lang/String" "value" "[B" .null := f3.ext E4
  have O4 : Old Z n0 h4 := O1.ext E4
  have f9 : Arv Z h4 b4 k4 .char (1 : Int32) [(.int (0 : Int32))] (.int (0 : Int32)) := (Arv.new A4 (by decide)).pad (pad_rep [] (.int (0 : Int32)) 1)
  show Go p e below s _ _ _ (T4.setTop (mkF m 64 #[.val (.int xa), .val (.int xb), .val (.int xc), .val (.int sel), .val (.int ((xa &&& (255 : Int32)).toUInt32.toUInt16.toUInt32.toInt32)), .val (.int ((((xa.toUInt32 >>> ((8 : Int32) &&& 31).toUInt32).toInt32) &&& (255 : Int32)).toUInt32.toUInt16.toUInt32.toInt32)), .val (.int ((xb &&& (255 : Int32)).toUInt32.toUInt16.toUInt32.toInt32)), .val (.int ((((xb.toUInt32 >>> ((8 : Int32) &&& 31).toUInt32).toInt32) &&& (255 : Int32)).toUInt32.toUInt16.toUInt32.toInt32)), .val (.int ((xc &&& (255 : Int32)).toUInt32.toUInt16.toUInt32.toInt32)), .val (.int ((((xc.toUInt32 >>> ((8 : Int32) &&& 31).toUInt32).toInt32) &&& (255 : Int32)).toUInt32.toUInt16.toUInt32.toInt32)), .unset, .unset, .unset, .unset, .unset, .unset, .unset, .unset, .unset] [(.ref b4), (.ref b1), (.ref b1)]))
  refine Go.st (fun _ k' => XS.dup X4.here hx rfl (hb hby at_64) rfl rfl k') ?_
  show Go p e below s _ _ _ (T4.setTop (mkF m 65 #[.val (.int xa), .val (.int xb), .val (.int xc), .val (.int sel), .val (.int ((xa &&& (255 : Int32)).toUInt32.toUInt16.toUInt32.toInt32)), .val (.int ((((xa.toUInt32 >>> ((8 : Int32) &&& 31).toUInt32).toInt32) &&& (255 : Int32)).toUInt32.toUInt16.toUInt32.toInt32)), .val (.int ((xb &&& (255 : Int32)).toUInt32.toUInt16.toUInt32.toInt32)), .val (.int ((((xb.toUInt32 >>> ((8 : Int32) &&& 31).toUInt32).toInt32) &&& (255 : Int32)).toUInt32.toUInt16.toUInt32.toInt32)), .val (.int ((xc &&& (255 : Int32)).toUInt32.toUInt16.toUInt32.toInt32)), .val (.int ((((xc.toUInt32 >>> ((8 : Int32) &&& 31).toUInt32).toInt32) &&& (255 : Int32)).toUInt32.toUInt16.toUInt32.toInt32)), .unset, .unset, .unset, .unset, .unset, .unset, .unset, .unset, .unset] [(.ref b4), (.ref b4), (.ref b1), (.ref b1)]))
  refine Go.st (fun _ k' => XS.iconst X4.here hx rfl (hb hby at_65) k') ?_
  show Go p e below s _ _ _ (T4.setTop (mkF m 66 #[.val (.int xa), .val (.int xb), .val (.int xc), .val (.int sel), .val (.int ((xa &&& (255 : Int32)).toUInt32.toUInt16.toUInt32.toInt32)), .val (.int ((((xa.toUInt32 >>> ((8 : Int32) &&& 31).toUInt32).toInt32) &&& (255 : Int32)).toUInt32.toUInt16.toUInt32.toInt32)), .val (.int ((xb &&& (255 : Int32)).toUInt32.toUInt16.toUInt32.toInt32)), .val (.int ((((xb.toUInt32 >>> ((8 : Int32) &&& 31).toUInt32).toInt32) &&& (255 : Int32)).toUInt32.toUInt16.toUInt32.toInt32)), .val (.int ((xc &&& (255 : Int32)).toUInt32.toUInt16.toUInt32.toInt32)), .val (.int ((((xc.toUInt32 >>> ((8 : Int32) &&& 31).toUInt32).toInt32) &&& (255 : Int32)).toUInt32.toUInt16.toUInt32.toInt32)), .unset, .unset, .unset, .unset, .unset, .unset, .unset, .unset, .unset] [(.int (0 : Int32)), (.ref b4), (.ref b4), (.ref b1), (.ref b1)]))
  refine Go.st (fun _ k' => XS.iload X4.here hx rfl (hb hby at_66) rfl k') ?_
  show Go p e below s _ _ _ (T4.setTop (mkF m 68 #[.val (.int xa), .val (.int xb), .val (.int xc), .val (.int sel), .val (.int ((xa &&& (255 : Int32)).toUInt32.toUInt16.toUInt32.toInt32)), .val (.int ((((xa.toUInt32 >>> ((8 : Int32) &&& 31).toUInt32).toInt32) &&& (255 : Int32)).toUInt32.toUInt16.toUInt32.toInt32)), .val (.int ((xb &&& (255 : Int32)).toUInt32.toUInt16.toUInt32.toInt32)), .val (.int ((((xb.toUInt32 >>> ((8 : Int32) &&& 31).toUInt32).toInt32) &&& (255 : Int32)).toUInt32.toUInt16.toUInt32.toInt32)), .val (.int ((xc &&& (255 : Int32)).toUInt32.toUInt16.toUInt32.toInt32)), .val (.int ((((xc.toUInt32 >>> ((8 : Int32) &&& 31).toUInt32).toInt32) &&& (255 : Int32)).toUInt32.toUInt16.toUInt32.toInt32)), .unset, .unset, .unset, .unset, .unset, .unset, .unset, .unset, .unset] [(.int ((xa &&& (255 : Int32)).toUInt32.toUInt16.toUInt32.toInt32)), (.int (0 : Int32)), (.ref b4), (.ref b4), (.ref b1), (.ref b1)]))
  obtain ⟨cl10, Ar10, qc10, Sz10, Nn10, Ha10, Gf10⟩ := id f9
  obtain ⟨T10, h10, X10, e10, W10, st10⟩ := stC X4 hx hZ e4 Ar10 (j := (0 : Int32)) (inb_of Sz10 ⟨by decide, by decide⟩) (g := (mkF m 68 #[.val (.int xa), .val (.int xb), .val (.int xc), .val (.int sel), .val (.int ((xa &&& (255 : Int32)).toUInt32.toUInt16.toUInt32.toInt32)), .val (.int ((((xa.toUInt32 >>> ((8 : Int32) &&& 31).toUInt32).toInt32) &&& (255 : Int32)).toUInt32.toUInt16.toUInt32.toInt32)), .val (.int ((xb &&& (255 : Int32)).toUInt32.toUInt16.toUInt32.toInt32)), .val (.int ((((xb.toUInt32 >>> ((8 : Int32) &&& 31).toUInt32).toInt32) &&& (255 : Int32)).toUInt32.toUInt16.toUInt32.toInt32)), .val (.int ((xc &&& (255 : Int32)).toUInt32.toUInt16.toUInt32.toInt32)), .val (.int ((((xc.toUInt32 >>> ((8 : Int32) &&& 31).toUInt32).toInt32) &&& (255 : Int32)).toUInt32.toUInt16.toUInt32.toInt32)), .unset, .unset, .unset, .unset, .unset, .unset, .unset, .unset, .unset] [(.int ((xa &&& (255 : Int32)).toUInt32.toUInt16.toUInt32.toInt32)), (.int (0 : Int32)), (.ref b4), (.ref b4), (.ref b1), (.ref b1)])) rfl rfl (hb hby at_68)
  refine Go.st st10 ?_
  have f12 : Exa Z h10 b1 "java/lang/String" := f6.wr W10
  have f13 : Fld Z h10 b1 "java/lang/String" "coder" "B" (.int (0 : Int32)) := f7.other W10 (Or.inl ne5)
  have f14 : Fld Z h10 b1 "java/lang/String" "value" "[B" .null := f8.other W10 (Or.inl ne5)
  have O10 : Old Z n0 h10 := O4.wr W10 g_b4
  have N10 := Fr.snoc X10 N0 g_b4
  have f11 : Arv Z h10 b4 k4 .char (1 : Int32) [(.int (nar .char ((xa &&& (255 : Int32)).toUInt32.toUInt16.toUInt32.toInt32)))] (.int (0 : Int32)) := Arv.set Ar10 qc10 Sz10 Nn10 Ha10 Gf10 (fits_nar_char _) W10 0 rfl (Nat.le_of_ble_eq_true rfl)
  show Go p e below s _ _ _ (T10.setTop (mkF m 69 #[.val (.int xa), .val (.int xb), .val (.int xc), .val (.int sel), .val (.int ((xa &&& (255 : Int32)).toUInt32.toUInt16.toUInt32.toInt32)), .val (.int ((((xa.toUInt32 >>> ((8 : Int32) &&& 31).toUInt32).toInt32) &&& (255 : Int32)).toUInt32.toUInt16.toUInt32.toInt32)), .val (.int ((xb &&& (255 : Int32)).toUInt32.toUInt16.toUInt32.toInt32)), .val (.int ((((xb.toUInt32 >>> ((8 : Int32) &&& 31).toUInt32).toInt32) &&& (255 : Int32)).toUInt32.toUInt16.toUInt32.toInt32)), .val (.int ((xc &&& (255 : Int32)).toUInt32.toUInt16.toUInt32.toInt32)), .val (.int ((((xc.toUInt32 >>> ((8 : Int32) &&& 31).toUInt32).toInt32) &&& (255 : Int32)).toUInt32.toUInt16.toUInt32.toInt32)), .unset, .unset, .unset, .unset, .unset, .unset, .unset, .unset, .unset] [(.ref b4), (.ref b1), (.ref b1)]))
  obtain ⟨_, _, ⟨T15, L15, k15, n15⟩, -, X15, ⟨Lc15, hQ15, l15, y15, z15⟩, st15⟩ := X10.specialBack hx (y := (⟨"java/lang/String", "<init>", "([C)V"⟩ : MethodName)) rfl hown (mvT hZ (wdx hw 4 rfl)) (mvT hZ (wdx hw 5 rfl)) (mvT hZ (wdx hw 6 rfl)) (by decide) (backOf (W := 1) (rm1_1 l Z a0 hw [] b1 b4 k4 cs (nar .char ((xa &&& (255 : Int32)).toUInt32.toUInt16.toUInt32.toInt32)) h10 n0 O10 f12 f14 f13 f11 S_cs q_cs (own_cn _) g_b1 ne5) hZ (wdx hw 6 rfl) (wdx hw 2 rfl) (by decide) (by decide)) (g := (mkF m 69 #[.val (.int xa), .val (.int xb), .val (.int xc), .val (.int sel), .val (.int ((xa &&& (255 : Int32)).toUInt32.toUInt16.toUInt32.toInt32)), .val (.int ((((xa.toUInt32 >>> ((8 : Int32) &&& 31).toUInt32).toInt32) &&& (255 : Int32)).toUInt32.toUInt16.toUInt32.toInt32)), .val (.int ((xb &&& (255 : Int32)).toUInt32.toUInt16.toUInt32.toInt32)), .val (.int ((((xb.toUInt32 >>> ((8 : Int32) &&& 31).toUInt32).toInt32) &&& (255 : Int32)).toUInt32.toUInt16.toUInt32.toInt32)), .val (.int ((xc &&& (255 : Int32)).toUInt32.toUInt16.toUInt32.toInt32)), .val (.int ((((xc.toUInt32 >>> ((8 : Int32) &&& 31).toUInt32).toInt32) &&& (255 : Int32)).toUInt32.toUInt16.toUInt32.toInt32)), .unset, .unset, .unset, .unset, .unset, .unset, .unset, .unset, .unset] [(.ref b4), (.ref b1), (.ref b1)])) rfl (by rw [hml]; rfl) (Steps.refl _) (a := b1) (argsL := [(.ref b4)]) (rest := [(.ref b1)]) (lenOf pd___C_V rfl) rfl (by show 2 * 0 + _ ≤ _; exact Nat.le_of_eq rfl) (hb hby at_69) (fun _ _ => ⟨rfl, e10, (by exact Nat.le_of_ble_eq_true rfl), (by exact Nat.le_of_ble_eq_true rfl)⟩)
  dsimp only [Pt.U, Pt.locs, Pt.cells, Pt.slots] at X15 l15 y15 z15 st15 hQ15
  subst l15 y15 z15
  obtain ⟨rfl, Nq15, Kq15⟩ := hQ15
  have N15 := Fr.app N10 Nq15
  refine Go.tr st15 ?_
  have f16 : Exa Z T15.heap b1 "java/lang/String" := f12.keep Kq15
  have f17 : Arv Z T15.heap b4 k4 .char (1 : Int32) [(.int (nar .char ((xa &&& (255 : Int32)).toUInt32.toUInt16.toUInt32.toInt32)))] (.int (0 : Int32)) := f11.keep Kq15 (ninS (Ne.symm ne5) nin0)
  have O15 : Old Z n0 T15.heap := O10.keep Kq15 (allS g_b1 all0)
  show Go p e below s _ _ _ (T15.setTop (mkF m 72 #[.val (.int xa), .val (.int xb), .val (.int xc), .val (.int sel), .val (.int ((xa &&& (255 : Int32)).toUInt32.toUInt16.toUInt32.toInt32)), .val (.int ((((xa.toUInt32 >>> ((8 : Int32) &&& 31).toUInt32).toInt32) &&& (255 : Int32)).toUInt32.toUInt16.toUInt32.toInt32)), .val (.int ((xb &&& (255 : Int32)).toUInt32.toUInt16.toUInt32.toInt32)), .val (.int ((((xb.toUInt32 >>> ((8 : Int32) &&& 31).toUInt32).toInt32) &&& (255 : Int32)).toUInt32.toUInt16.toUInt32.toInt32)), .val (.int ((xc &&& (255 : Int32)).toUInt32.toUInt16.toUInt32.toInt32)), .val (.int ((((xc.toUInt32 >>> ((8 : Int32) &&& 31).toUInt32).toInt32) &&& (255 : Int32)).toUInt32.toUInt16.toUInt32.toInt32)), .unset, .unset, .unset, .unset, .unset, .unset, .unset, .unset, .unset] [(.ref b1)]))
  refine Go.st (fun _ k' => XS.astore X15.here hx rfl (hb hby at_72) rfl rfl (l' := #[.val (.int xa), .val (.int xb), .val (.int xc), .val (.int sel), .val (.int ((xa &&& (255 : Int32)).toUInt32.toUInt16.toUInt32.toInt32)), .val (.int ((((xa.toUInt32 >>> ((8 : Int32) &&& 31).toUInt32).toInt32) &&& (255 : Int32)).toUInt32.toUInt16.toUInt32.toInt32)), .val (.int ((xb &&& (255 : Int32)).toUInt32.toUInt16.toUInt32.toInt32)), .val (.int ((((xb.toUInt32 >>> ((8 : Int32) &&& 31).toUInt32).toInt32) &&& (255 : Int32)).toUInt32.toUInt16.toUInt32.toInt32)), .val (.int ((xc &&& (255 : Int32)).toUInt32.toUInt16.toUInt32.toInt32)), .val (.int ((((xc.toUInt32 >>> ((8 : Int32) &&& 31).toUInt32).toInt32) &&& (255 : Int32)).toUInt32.toUInt16.toUInt32.toInt32)), .val (.ref b1), .unset, .unset, .unset, .unset, .unset, .unset, .unset, .unset]) rfl k') ?_
  show Go p e below s _ _ _ (T15.setTop (mkF m 74 #[.val (.int xa), .val (.int xb), .val (.int xc), .val (.int sel), .val (.int ((xa &&& (255 : Int32)).toUInt32.toUInt16.toUInt32.toInt32)), .val (.int ((((xa.toUInt32 >>> ((8 : Int32) &&& 31).toUInt32).toInt32) &&& (255 : Int32)).toUInt32.toUInt16.toUInt32.toInt32)), .val (.int ((xb &&& (255 : Int32)).toUInt32.toUInt16.toUInt32.toInt32)), .val (.int ((((xb.toUInt32 >>> ((8 : Int32) &&& 31).toUInt32).toInt32) &&& (255 : Int32)).toUInt32.toUInt16.toUInt32.toInt32)), .val (.int ((xc &&& (255 : Int32)).toUInt32.toUInt16.toUInt32.toInt32)), .val (.int ((((xc.toUInt32 >>> ((8 : Int32) &&& 31).toUInt32).toInt32) &&& (255 : Int32)).toUInt32.toUInt16.toUInt32.toInt32)), .val (.ref b1), .unset, .unset, .unset, .unset, .unset, .unset, .unset, .unset] []))
  obtain ⟨T18, h18, X18, e18, E18, A18, D18, -, st18⟩ := newO X15 hx hZ hown (wdx hw 0 rfl) (wdx hw 1 rfl) (wdx hw 2 rfl) rfl (g := (mkF m 74 #[.val (.int xa), .val (.int xb), .val (.int xc), .val (.int sel), .val (.int ((xa &&& (255 : Int32)).toUInt32.toUInt16.toUInt32.toInt32)), .val (.int ((((xa.toUInt32 >>> ((8 : Int32) &&& 31).toUInt32).toInt32) &&& (255 : Int32)).toUInt32.toUInt16.toUInt32.toInt32)), .val (.int ((xb &&& (255 : Int32)).toUInt32.toUInt16.toUInt32.toInt32)), .val (.int ((((xb.toUInt32 >>> ((8 : Int32) &&& 31).toUInt32).toInt32) &&& (255 : Int32)).toUInt32.toUInt16.toUInt32.toInt32)), .val (.int ((xc &&& (255 : Int32)).toUInt32.toUInt16.toUInt32.toInt32)), .val (.int ((((xc.toUInt32 >>> ((8 : Int32) &&& 31).toUInt32).toInt32) &&& (255 : Int32)).toUInt32.toUInt16.toUInt32.toInt32)), .val (.ref b1), .unset, .unset, .unset, .unset, .unset, .unset, .unset, .unset] [])) rfl (hb hby at_74) (by decide) (by decide)
  obtain ⟨b18, g18⟩ : ∃ z, z = T15.heap.size := ⟨_, rfl⟩
  rw [← g18] at A18 D18 st18
  refine Go.st st18 ?_
  have g_b18 : n0 ≤ b18 := Nat.le_trans (own_le O15) (Nat.le_of_eq g18.symm)
  have ne19 : b1 ≠ b18 := Nat.ne_of_lt (Nat.lt_of_lt_of_le f16.lt (Nat.le_of_eq g18.symm))
  have ne20 : b4 ≠ b18 := Nat.ne_of_lt (Nat.lt_of_lt_of_le f17.lt (Nat.le_of_eq g18.symm))
  have f21 : Exa Z h18 b1 "java/lang/String" := f16.ext E18
  have f22 : Arv Z h18 b4 k4 .char (1 : Int32) [(.int (nar .char ((xa &&& (255 : Int32)).toUInt32.toUInt16.toUInt32.toInt32)))] (.int (0 : Int32)) := f17.ext E18
  have O18 : Old Z n0 h18 := O15.ext E18
  have f23 : Fld Z h18 b18 "java/lang/String" "coder" "B" (.int (0 : Int32)) := D18 (Or.inr (wdx hw 27 rfl)) (ty := .byte) (by decide)
  have f24 : Fld Z h18 b18 "java/lang/String" "value" "[B" .null := D18 (Or.inr (wdx hw 29 rfl)) (ty := (.array .byte)) (by decide)
  show Go p e below s _ _ _ (T18.setTop (mkF m 77 #[.val (.int xa), .val (.int xb), .val (.int xc), .val (.int sel), .val (.int ((xa &&& (255 : Int32)).toUInt32.toUInt16.toUInt32.toInt32)), .val (.int ((((xa.toUInt32 >>> ((8 : Int32) &&& 31).toUInt32).toInt32) &&& (255 : Int32)).toUInt32.toUInt16.toUInt32.toInt32)), .val (.int ((xb &&& (255 : Int32)).toUInt32.toUInt16.toUInt32.toInt32)), .val (.int ((((xb.toUInt32 >>> ((8 : Int32) &&& 31).toUInt32).toInt32) &&& (255 : Int32)).toUInt32.toUInt16.toUInt32.toInt32)), .val (.int ((xc &&& (255 : Int32)).toUInt32.toUInt16.toUInt32.toInt32)), .val (.int ((((xc.toUInt32 >>> ((8 : Int32) &&& 31).toUInt32).toInt32) &&& (255 : Int32)).toUInt32.toUInt16.toUInt32.toInt32)), .val (.ref b1), .unset, .unset, .unset, .unset, .unset, .unset, .unset, .unset] [(.ref b18)]))
  refine Go.st (fun _ k' => XS.dup X18.here hx rfl (hb hby at_77) rfl rfl k') ?_
  show Go p e below s _ _ _ (T18.setTop (mkF m 78 #[.val (.int xa), .val (.int xb), .val (.int xc), .val (.int sel), .val (.int ((xa &&& (255 : Int32)).toUInt32.toUInt16.toUInt32.toInt32)), .val (.int ((((xa.toUInt32 >>> ((8 : Int32) &&& 31).toUInt32).toInt32) &&& (255 : Int32)).toUInt32.toUInt16.toUInt32.toInt32)), .val (.int ((xb &&& (255 : Int32)).toUInt32.toUInt16.toUInt32.toInt32)), .val (.int ((((xb.toUInt32 >>> ((8 : Int32) &&& 31).toUInt32).toInt32) &&& (255 : Int32)).toUInt32.toUInt16.toUInt32.toInt32)), .val (.int ((xc &&& (255 : Int32)).toUInt32.toUInt16.toUInt32.toInt32)), .val (.int ((((xc.toUInt32 >>> ((8 : Int32) &&& 31).toUInt32).toInt32) &&& (255 : Int32)).toUInt32.toUInt16.toUInt32.toInt32)), .val (.ref b1), .unset, .unset, .unset, .unset, .unset, .unset, .unset, .unset] [(.ref b18), (.ref b18)]))
  refine Go.st (fun _ k' => XS.iconst X18.here hx rfl (hb hby at_78) k') ?_
  show Go p e below s _ _ _ (T18.setTop (mkF m 79 #[.val (.int xa), .val (.int xb), .val (.int xc), .val (.int sel), .val (.int ((xa &&& (255 : Int32)).toUInt32.toUInt16.toUInt32.toInt32)), .val (.int ((((xa.toUInt32 >>> ((8 : Int32) &&& 31).toUInt32).toInt32) &&& (255 : Int32)).toUInt32.toUInt16.toUInt32.toInt32)), .val (.int ((xb &&& (255 : Int32)).toUInt32.toUInt16.toUInt32.toInt32)), .val (.int ((((xb.toUInt32 >>> ((8 : Int32) &&& 31).toUInt32).toInt32) &&& (255 : Int32)).toUInt32.toUInt16.toUInt32.toInt32)), .val (.int ((xc &&& (255 : Int32)).toUInt32.toUInt16.toUInt32.toInt32)), .val (.int ((((xc.toUInt32 >>> ((8 : Int32) &&& 31).toUInt32).toInt32) &&& (255 : Int32)).toUInt32.toUInt16.toUInt32.toInt32)), .val (.ref b1), .unset, .unset, .unset, .unset, .unset, .unset, .unset, .unset] [(.int (2 : Int32)), (.ref b18), (.ref b18)]))
  obtain ⟨T25, h25, k25, X25, e25, E25, A25, st25⟩ := newP X18 hx hZ (wdx hw 3 rfl) e18 (g := (mkF m 79 #[.val (.int xa), .val (.int xb), .val (.int xc), .val (.int sel), .val (.int ((xa &&& (255 : Int32)).toUInt32.toUInt16.toUInt32.toInt32)), .val (.int ((((xa.toUInt32 >>> ((8 : Int32) &&& 31).toUInt32).toInt32) &&& (255 : Int32)).toUInt32.toUInt16.toUInt32.toInt32)), .val (.int ((xb &&& (255 : Int32)).toUInt32.toUInt16.toUInt32.toInt32)), .val (.int ((((xb.toUInt32 >>> ((8 : Int32) &&& 31).toUInt32).toInt32) &&& (255 : Int32)).toUInt32.toUInt16.toUInt32.toInt32)), .val (.int ((xc &&& (255 : Int32)).toUInt32.toUInt16.toUInt32.toInt32)), .val (.int ((((xc.toUInt32 >>> ((8 : Int32) &&& 31).toUInt32).toInt32) &&& (255 : Int32)).toUInt32.toUInt16.toUInt32.toInt32)), .val (.ref b1), .unset, .unset, .unset, .unset, .unset, .unset, .unset, .unset] [(.int (2 : Int32)), (.ref b18), (.ref b18)])) rfl (hb hby at_79) rfl (by decide) (cap := 2) (by decide) (by decide) (by decide) (by decide)
  obtain ⟨b25, g25⟩ : ∃ z, z = h18.size := ⟨_, rfl⟩
  rw [← g25] at A25 st25
  refine Go.st st25 ?_
  have g_b25 : n0 ≤ b25 := Nat.le_trans (own_le O18) (Nat.le_of_eq g25.symm)
  have ne26 : b1 ≠ b25 := Nat.ne_of_lt (Nat.lt_of_lt_of_le f21.lt (Nat.le_of_eq g25.symm))
  have ne27 : b4 ≠ b25 := Nat.ne_of_lt (Nat.lt_of_lt_of_le f22.lt (Nat.le_of_eq g25.symm))
  have ne28 : b18 ≠ b25 := Nat.ne_of_lt (Nat.lt_of_lt_of_le A18.lt (Nat.le_of_eq g25.symm))
  have f29 : Exa Z h25 b1 "java/lang/String" := f21.ext E25
  have f30 : Arv Z h25 b4 k4 .char (1 : Int32) [(.int (nar .char ((xa &&& (255 : Int32)).toUInt32.toUInt16.toUInt32.toInt32)))] (.int (0 : Int32)) := f22.ext E25
  have f31 : Exa Z h25 b18 "java/lang/String" := A18.ext E25
  have f32 : Fld Z h25 b18 "java/lang/String" "coder" "B" (.int (0 : Int32)) := f23.ext E25
  have f33 : Fld Z h25 b18 "java/lang/String" "value" "[B" .null := f24.ext E25
  have O25 : Old Z n0 h25 := O18.ext E25
  have f34 : Arv Z h25 b25 k25 .char (2 : Int32) [(.int (0 : Int32)), (.int (0 : Int32))] (.int (0 : Int32)) := (Arv.new A25 (by decide)).pad (pad_rep [] (.int (0 : Int32)) 2)
  show Go p e below s _ _ _ (T25.setTop (mkF m 81 #[.val (.int xa), .val (.int xb), .val (.int xc), .val (.int sel), .val (.int ((xa &&& (255 : Int32)).toUInt32.toUInt16.toUInt32.toInt32)), .val (.int ((((xa.toUInt32 >>> ((8 : Int32) &&& 31).toUInt32).toInt32) &&& (255 : Int32)).toUInt32.toUInt16.toUInt32.toInt32)), .val (.int ((xb &&& (255 : Int32)).toUInt32.toUInt16.toUInt32.toInt32)), .val (.int ((((xb.toUInt32 >>> ((8 : Int32) &&& 31).toUInt32).toInt32) &&& (255 : Int32)).toUInt32.toUInt16.toUInt32.toInt32)), .val (.int ((xc &&& (255 : Int32)).toUInt32.toUInt16.toUInt32.toInt32)), .val (.int ((((xc.toUInt32 >>> ((8 : Int32) &&& 31).toUInt32).toInt32) &&& (255 : Int32)).toUInt32.toUInt16.toUInt32.toInt32)), .val (.ref b1), .unset, .unset, .unset, .unset, .unset, .unset, .unset, .unset] [(.ref b25), (.ref b18), (.ref b18)]))
  refine Go.st (fun _ k' => XS.dup X25.here hx rfl (hb hby at_81) rfl rfl k') ?_
  show Go p e below s _ _ _ (T25.setTop (mkF m 82 #[.val (.int xa), .val (.int xb), .val (.int xc), .val (.int sel), .val (.int ((xa &&& (255 : Int32)).toUInt32.toUInt16.toUInt32.toInt32)), .val (.int ((((xa.toUInt32 >>> ((8 : Int32) &&& 31).toUInt32).toInt32) &&& (255 : Int32)).toUInt32.toUInt16.toUInt32.toInt32)), .val (.int ((xb &&& (255 : Int32)).toUInt32.toUInt16.toUInt32.toInt32)), .val (.int ((((xb.toUInt32 >>> ((8 : Int32) &&& 31).toUInt32).toInt32) &&& (255 : Int32)).toUInt32.toUInt16.toUInt32.toInt32)), .val (.int ((xc &&& (255 : Int32)).toUInt32.toUInt16.toUInt32.toInt32)), .val (.int ((((xc.toUInt32 >>> ((8 : Int32) &&& 31).toUInt32).toInt32) &&& (255 : Int32)).toUInt32.toUInt16.toUInt32.toInt32)), .val (.ref b1), .unset, .unset, .unset, .unset, .unset, .unset, .unset, .unset] [(.ref b25), (.ref b25), (.ref b18), (.ref b18)]))
  refine Go.st (fun _ k' => XS.iconst X25.here hx rfl (hb hby at_82) k') ?_
  show Go p e below s _ _ _ (T25.setTop (mkF m 83 #[.val (.int xa), .val (.int xb), .val (.int xc), .val (.int sel), .val (.int ((xa &&& (255 : Int32)).toUInt32.toUInt16.toUInt32.toInt32)), .val (.int ((((xa.toUInt32 >>> ((8 : Int32) &&& 31).toUInt32).toInt32) &&& (255 : Int32)).toUInt32.toUInt16.toUInt32.toInt32)), .val (.int ((xb &&& (255 : Int32)).toUInt32.toUInt16.toUInt32.toInt32)), .val (.int ((((xb.toUInt32 >>> ((8 : Int32) &&& 31).toUInt32).toInt32) &&& (255 : Int32)).toUInt32.toUInt16.toUInt32.toInt32)), .val (.int ((xc &&& (255 : Int32)).toUInt32.toUInt16.toUInt32.toInt32)), .val (.int ((((xc.toUInt32 >>> ((8 : Int32) &&& 31).toUInt32).toInt32) &&& (255 : Int32)).toUInt32.toUInt16.toUInt32.toInt32)), .val (.ref b1), .unset, .unset, .unset, .unset, .unset, .unset, .unset, .unset] [(.int (0 : Int32)), (.ref b25), (.ref b25), (.ref b18), (.ref b18)]))
  refine Go.st (fun _ k' => XS.iload X25.here hx rfl (hb hby at_83) rfl k') ?_
  show Go p e below s _ _ _ (T25.setTop (mkF m 85 #[.val (.int xa), .val (.int xb), .val (.int xc), .val (.int sel), .val (.int ((xa &&& (255 : Int32)).toUInt32.toUInt16.toUInt32.toInt32)), .val (.int ((((xa.toUInt32 >>> ((8 : Int32) &&& 31).toUInt32).toInt32) &&& (255 : Int32)).toUInt32.toUInt16.toUInt32.toInt32)), .val (.int ((xb &&& (255 : Int32)).toUInt32.toUInt16.toUInt32.toInt32)), .val (.int ((((xb.toUInt32 >>> ((8 : Int32) &&& 31).toUInt32).toInt32) &&& (255 : Int32)).toUInt32.toUInt16.toUInt32.toInt32)), .val (.int ((xc &&& (255 : Int32)).toUInt32.toUInt16.toUInt32.toInt32)), .val (.int ((((xc.toUInt32 >>> ((8 : Int32) &&& 31).toUInt32).toInt32) &&& (255 : Int32)).toUInt32.toUInt16.toUInt32.toInt32)), .val (.ref b1), .unset, .unset, .unset, .unset, .unset, .unset, .unset, .unset] [(.int ((((xa.toUInt32 >>> ((8 : Int32) &&& 31).toUInt32).toInt32) &&& (255 : Int32)).toUInt32.toUInt16.toUInt32.toInt32)), (.int (0 : Int32)), (.ref b25), (.ref b25), (.ref b18), (.ref b18)]))
  obtain ⟨cl35, Ar35, qc35, Sz35, Nn35, Ha35, Gf35⟩ := id f34
  obtain ⟨T35, h35, X35, e35, W35, st35⟩ := stC X25 hx hZ e25 Ar35 (j := (0 : Int32)) (inb_of Sz35 ⟨by decide, by decide⟩) (g := (mkF m 85 #[.val (.int xa), .val (.int xb), .val (.int xc), .val (.int sel), .val (.int ((xa &&& (255 : Int32)).toUInt32.toUInt16.toUInt32.toInt32)), .val (.int ((((xa.toUInt32 >>> ((8 : Int32) &&& 31).toUInt32).toInt32) &&& (255 : Int32)).toUInt32.toUInt16.toUInt32.toInt32)), .val (.int ((xb &&& (255 : Int32)).toUInt32.toUInt16.toUInt32.toInt32)), .val (.int ((((xb.toUInt32 >>> ((8 : Int32) &&& 31).toUInt32).toInt32) &&& (255 : Int32)).toUInt32.toUInt16.toUInt32.toInt32)), .val (.int ((xc &&& (255 : Int32)).toUInt32.toUInt16.toUInt32.toInt32)), .val (.int ((((xc.toUInt32 >>> ((8 : Int32) &&& 31).toUInt32).toInt32) &&& (255 : Int32)).toUInt32.toUInt16.toUInt32.toInt32)), .val (.ref b1), .unset, .unset, .unset, .unset, .unset, .unset, .unset, .unset] [(.int ((((xa.toUInt32 >>> ((8 : Int32) &&& 31).toUInt32).toInt32) &&& (255 : Int32)).toUInt32.toUInt16.toUInt32.toInt32)), (.int (0 : Int32)), (.ref b25), (.ref b25), (.ref b18), (.ref b18)])) rfl rfl (hb hby at_85)
  refine Go.st st35 ?_
  have f37 : Exa Z h35 b1 "java/lang/String" := f29.wr W35
  have f38 : Arv Z h35 b4 k4 .char (1 : Int32) [(.int (nar .char ((xa &&& (255 : Int32)).toUInt32.toUInt16.toUInt32.toInt32)))] (.int (0 : Int32)) := f30.other W35 ne27
  have f39 : Exa Z h35 b18 "java/lang/String" := f31.wr W35
  have f40 : Fld Z h35 b18 "java/lang/String" "coder" "B" (.int (0 : Int32)) := f32.other W35 (Or.inl ne28)
  have f41 : Fld Z h35 b18 "java/lang/String" "value" "[B" .null := f33.other W35 (Or.inl ne28)
  have O35 : Old Z n0 h35 := O25.wr W35 g_b25
  have N35 := Fr.snoc X35 N15 g_b25
  have f36 : Arv Z h35 b25 k25 .char (2 : Int32) [(.int (nar .char ((((xa.toUInt32 >>> ((8 : Int32) &&& 31).toUInt32).toInt32) &&& (255 : Int32)).toUInt32.toUInt16.toUInt32.toInt32))), (.int (0 : Int32))] (.int (0 : Int32)) := Arv.set Ar35 qc35 Sz35 Nn35 Ha35 Gf35 (fits_nar_char _) W35 0 rfl (Nat.le_of_ble_eq_true rfl)
  show Go p e below s _ _ _ (T35.setTop (mkF m 86 #[.val (.int xa), .val (.int xb), .val (.int xc), .val (.int sel), .val (.int ((xa &&& (255 : Int32)).toUInt32.toUInt16.toUInt32.toInt32)), .val (.int ((((xa.toUInt32 >>> ((8 : Int32) &&& 31).toUInt32).toInt32) &&& (255 : Int32)).toUInt32.toUInt16.toUInt32.toInt32)), .val (.int ((xb &&& (255 : Int32)).toUInt32.toUInt16.toUInt32.toInt32)), .val (.int ((((xb.toUInt32 >>> ((8 : Int32) &&& 31).toUInt32).toInt32) &&& (255 : Int32)).toUInt32.toUInt16.toUInt32.toInt32)), .val (.int ((xc &&& (255 : Int32)).toUInt32.toUInt16.toUInt32.toInt32)), .val (.int ((((xc.toUInt32 >>> ((8 : Int32) &&& 31).toUInt32).toInt32) &&& (255 : Int32)).toUInt32.toUInt16.toUInt32.toInt32)), .val (.ref b1), .unset, .unset, .unset, .unset, .unset, .unset, .unset, .unset] [(.ref b25), (.ref b18), (.ref b18)]))
  refine Go.st (fun _ k' => XS.dup X35.here hx rfl (hb hby at_86) rfl rfl k') ?_
  show Go p e below s _ _ _ (T35.setTop (mkF m 87 #[.val (.int xa), .val (.int xb), .val (.int xc), .val (.int sel), .val (.int ((xa &&& (255 : Int32)).toUInt32.toUInt16.toUInt32.toInt32)), .val (.int ((((xa.toUInt32 >>> ((8 : Int32) &&& 31).toUInt32).toInt32) &&& (255 : Int32)).toUInt32.toUInt16.toUInt32.toInt32)), .val (.int ((xb &&& (255 : Int32)).toUInt32.toUInt16.toUInt32.toInt32)), .val (.int ((((xb.toUInt32 >>> ((8 : Int32) &&& 31).toUInt32).toInt32) &&& (255 : Int32)).toUInt32.toUInt16.toUInt32.toInt32)), .val (.int ((xc &&& (255 : Int32)).toUInt32.toUInt16.toUInt32.toInt32)), .val (.int ((((xc.toUInt32 >>> ((8 : Int32) &&& 31).toUInt32).toInt32) &&& (255 : Int32)).toUInt32.toUInt16.toUInt32.toInt32)), .val (.ref b1), .unset, .unset, .unset, .unset, .unset, .unset, .unset, .unset] [(.ref b25), (.ref b25), (.ref b18), (.ref b18)]))
  refine Go.st (fun _ k' => XS.iconst X35.here hx rfl (hb hby at_87) k') ?_
  show Go p e below s _ _ _ (T35.setTop (mkF m 88 #[.val (.int xa), .val (.int xb), .val (.int xc), .val (.int sel), .val (.int ((xa &&& (255 : Int32)).toUInt32.toUInt16.toUInt32.toInt32)), .val (.int ((((xa.toUInt32 >>> ((8 : Int32) &&& 31).toUInt32).toInt32) &&& (255 : Int32)).toUInt32.toUInt16.toUInt32.toInt32)), .val (.int ((xb &&& (255 : Int32)).toUInt32.toUInt16.toUInt32.toInt32)), .val (.int ((((xb.toUInt32 >>> ((8 : Int32) &&& 31).toUInt32).toInt32) &&& (255 : Int32)).toUInt32.toUInt16.toUInt32.toInt32)), .val (.int ((xc &&& (255 : Int32)).toUInt32.toUInt16.toUInt32.toInt32)), .val (.int ((((xc.toUInt32 >>> ((8 : Int32) &&& 31).toUInt32).toInt32) &&& (255 : Int32)).toUInt32.toUInt16.toUInt32.toInt32)), .val (.ref b1), .unset, .unset, .unset, .unset, .unset, .unset, .unset, .unset] [(.int (1 : Int32)), (.ref b25), (.ref b25), (.ref b18), (.ref b18)]))
  refine Go.st (fun _ k' => XS.iload X35.here hx rfl (hb hby at_88) rfl k') ?_
  show Go p e below s _ _ _ (T35.setTop (mkF m 90 #[.val (.int xa), .val (.int xb), .val (.int xc), .val (.int sel), .val (.int ((xa &&& (255 : Int32)).toUInt32.toUInt16.toUInt32.toInt32)), .val (.int ((((xa.toUInt32 >>> ((8 : Int32) &&& 31).toUInt32).toInt32) &&& (255 : Int32)).toUInt32.toUInt16.toUInt32.toInt32)), .val (.int ((xb &&& (255 : Int32)).toUInt32.toUInt16.toUInt32.toInt32)), .val (.int ((((xb.toUInt32 >>> ((8 : Int32) &&& 31).toUInt32).toInt32) &&& (255 : Int32)).toUInt32.toUInt16.toUInt32.toInt32)), .val (.int ((xc &&& (255 : Int32)).toUInt32.toUInt16.toUInt32.toInt32)), .val (.int ((((xc.toUInt32 >>> ((8 : Int32) &&& 31).toUInt32).toInt32) &&& (255 : Int32)).toUInt32.toUInt16.toUInt32.toInt32)), .val (.ref b1), .unset, .unset, .unset, .unset, .unset, .unset, .unset, .unset] [(.int ((xb &&& (255 : Int32)).toUInt32.toUInt16.toUInt32.toInt32)), (.int (1 : Int32)), (.ref b25), (.ref b25), (.ref b18), (.ref b18)]))
  obtain ⟨cl42, Ar42, qc42, Sz42, Nn42, Ha42, Gf42⟩ := id f36
  obtain ⟨T42, h42, X42, e42, W42, st42⟩ := stC X35 hx hZ e35 Ar42 (j := (1 : Int32)) (inb_of Sz42 ⟨by decide, by decide⟩) (g := (mkF m 90 #[.val (.int xa), .val (.int xb), .val (.int xc), .val (.int sel), .val (.int ((xa &&& (255 : Int32)).toUInt32.toUInt16.toUInt32.toInt32)), .val (.int ((((xa.toUInt32 >>> ((8 : Int32) &&& 31).toUInt32).toInt32) &&& (255 : Int32)).toUInt32.toUInt16.toUInt32.toInt32)), .val (.int ((xb &&& (255 : Int32)).toUInt32.toUInt16.toUInt32.toInt32)), .val (.int ((((xb.toUInt32 >>> ((8 : Int32) &&& 31).toUInt32).toInt32) &&& (255 : Int32)).toUInt32.toUInt16.toUInt32.toInt32)), .val (.int ((xc &&& (255 : Int32)).toUInt32.toUInt16.toUInt32.toInt32)), .val (.int ((((xc.toUInt32 >>> ((8 : Int32) &&& 31).toUInt32).toInt32) &&& (255 : Int32)).toUInt32.toUInt16.toUInt32.toInt32)), .val (.ref b1), .unset, .unset, .unset, .unset, .unset, .unset, .unset, .unset] [(.int ((xb &&& (255 : Int32)).toUInt32.toUInt16.toUInt32.toInt32)), (.int (1 : Int32)), (.ref b25), (.ref b25), (.ref b18), (.ref b18)])) rfl rfl (hb hby at_90)
  refine Go.st st42 ?_
  have f44 : Exa Z h42 b1 "java/lang/String" := f37.wr W42
  have f45 : Arv Z h42 b4 k4 .char (1 : Int32) [(.int (nar .char ((xa &&& (255 : Int32)).toUInt32.toUInt16.toUInt32.toInt32)))] (.int (0 : Int32)) := f38.other W42 ne27
  have f46 : Exa Z h42 b18 "java/lang/String" := f39.wr W42
  have f47 : Fld Z h42 b18 "java/lang/String" "coder" "B" (.int (0 : Int32)) := f40.other W42 (Or.inl ne28)
  have f48 : Fld Z h42 b18 "java/lang/String" "value" "[B" .null := f41.other W42 (Or.inl ne28)
  have O42 : Old Z n0 h42 := O35.wr W42 g_b25
  have N42 := Fr.snoc X42 N35 g_b25
  have f43 : Arv Z h42 b25 k25 .char (2 : Int32) [(.int (nar .char ((((xa.toUInt32 >>> ((8 : Int32) &&& 31).toUInt32).toInt32) &&& (255 : Int32)).toUInt32.toUInt16.toUInt32.toInt32))), (.int (nar .char ((xb &&& (255 : Int32)).toUInt32.toUInt16.toUInt32.toInt32)))] (.int (0 : Int32)) := Arv.set Ar42 qc42 Sz42 Nn42 Ha42 Gf42 (fits_nar_char _) W42 1 rfl (Nat.le_of_ble_eq_true rfl)
  show Go p e below s _ _ _ (T42.setTop (mkF m 91 #[.val (.int xa), .val (.int xb), .val (.int xc), .val (.int sel), .val (.int ((xa &&& (255 : Int32)).toUInt32.toUInt16.toUInt32.toInt32)), .val (.int ((((xa.toUInt32 >>> ((8 : Int32) &&& 31).toUInt32).toInt32) &&& (255 : Int32)).toUInt32.toUInt16.toUInt32.toInt32)), .val (.int ((xb &&& (255 : Int32)).toUInt32.toUInt16.toUInt32.toInt32)), .val (.int ((((xb.toUInt32 >>> ((8 : Int32) &&& 31).toUInt32).toInt32) &&& (255 : Int32)).toUInt32.toUInt16.toUInt32.toInt32)), .val (.int ((xc &&& (255 : Int32)).toUInt32.toUInt16.toUInt32.toInt32)), .val (.int ((((xc.toUInt32 >>> ((8 : Int32) &&& 31).toUInt32).toInt32) &&& (255 : Int32)).toUInt32.toUInt16.toUInt32.toInt32)), .val (.ref b1), .unset, .unset, .unset, .unset, .unset, .unset, .unset, .unset] [(.ref b25), (.ref b18), (.ref b18)]))
  obtain ⟨_, _, ⟨T49, L49, k49, n49⟩, -, X49, ⟨Lc49, hQ49, l49, y49, z49⟩, st49⟩ := X42.specialBack hx (y := (⟨"java/lang/String", "<init>", "([C)V"⟩ : MethodName)) rfl hown (mvT hZ (wdx hw 4 rfl)) (mvT hZ (wdx hw 5 rfl)) (mvT hZ (wdx hw 6 rfl)) (by decide) (backOf (W := 1) (rm1_2 l Z a0 hw [] b18 b25 k25 cs (nar .char ((((xa.toUInt32 >>> ((8 : Int32) &&& 31).toUInt32).toInt32) &&& (255 : Int32)).toUInt32.toUInt16.toUInt32.toInt32)) (nar .char ((xb &&& (255 : Int32)).toUInt32.toUInt16.toUInt32.toInt32)) h42 n0 O42 f46 f48 f47 f43 S_cs q_cs (own_cn _) (own_cn _) g_b18 ne28) hZ (wdx hw 6 rfl) (wdx hw 2 rfl) (by decide) (by decide)) (g := (mkF m 91 #[.val (.int xa), .val (.int xb), .val (.int xc), .val (.int sel), .val (.int ((xa &&& (255 : Int32)).toUInt32.toUInt16.toUInt32.toInt32)), .val (.int ((((xa.toUInt32 >>> ((8 : Int32) &&& 31).toUInt32).toInt32) &&& (255 : Int32)).toUInt32.toUInt16.toUInt32.toInt32)), .val (.int ((xb &&& (255 : Int32)).toUInt32.toUInt16.toUInt32.toInt32)), .val (.int ((((xb.toUInt32 >>> ((8 : Int32) &&& 31).toUInt32).toInt32) &&& (255 : Int32)).toUInt32.toUInt16.toUInt32.toInt32)), .val (.int ((xc &&& (255 : Int32)).toUInt32.toUInt16.toUInt32.toInt32)), .val (.int ((((xc.toUInt32 >>> ((8 : Int32) &&& 31).toUInt32).toInt32) &&& (255 : Int32)).toUInt32.toUInt16.toUInt32.toInt32)), .val (.ref b1), .unset, .unset, .unset, .unset, .unset, .unset, .unset, .unset] [(.ref b25), (.ref b18), (.ref b18)])) rfl (by rw [hml]; rfl) (Steps.refl _) (a := b18) (argsL := [(.ref b25)]) (rest := [(.ref b18)]) (lenOf pd___C_V rfl) rfl (by show 2 * 0 + _ ≤ _; exact Nat.le_of_eq rfl) (hb hby at_91) (fun _ _ => ⟨rfl, e42, (by exact Nat.le_of_ble_eq_true rfl), (by exact Nat.le_of_ble_eq_true rfl)⟩)
  dsimp only [Pt.U, Pt.locs, Pt.cells, Pt.slots] at X49 l49 y49 z49 st49 hQ49
  subst l49 y49 z49
  obtain ⟨rfl, Nq49, Kq49⟩ := hQ49
  have N49 := Fr.app N42 Nq49
  refine Go.tr st49 ?_
  have f50 : Exa Z T49.heap b1 "java/lang/String" := f44.keep Kq49
  have f51 : Arv Z T49.heap b4 k4 .char (1 : Int32) [(.int (nar .char ((xa &&& (255 : Int32)).toUInt32.toUInt16.toUInt32.toInt32)))] (.int (0 : Int32)) := f45.keep Kq49 (ninS ne20 nin0)
  have f52 : Exa Z T49.heap b18 "java/lang/String" := f46.keep Kq49
  have f53 : Arv Z T49.heap b25 k25 .char (2 : Int32) [(.int (nar .char ((((xa.toUInt32 >>> ((8 : Int32) &&& 31).toUInt32).toInt32) &&& (255 : Int32)).toUInt32.toUInt16.toUInt32.toInt32))), (.int (nar .char ((xb &&& (255 : Int32)).toUInt32.toUInt16.toUInt32.toInt32)))] (.int (0 : Int32)) := f43.keep Kq49 (ninS (Ne.symm ne28) nin0)
  have O49 : Old Z n0 T49.heap := O42.keep Kq49 (allS g_b18 all0)
  show Go p e below s _ _ _ (T49.setTop (mkF m 94 #[.val (.int xa), .val (.int xb), .val (.int xc), .val (.int sel), .val (.int ((xa &&& (255 : Int32)).toUInt32.toUInt16.toUInt32.toInt32)), .val (.int ((((xa.toUInt32 >>> ((8 : Int32) &&& 31).toUInt32).toInt32) &&& (255 : Int32)).toUInt32.toUInt16.toUInt32.toInt32)), .val (.int ((xb &&& (255 : Int32)).toUInt32.toUInt16.toUInt32.toInt32)), .val (.int ((((xb.toUInt32 >>> ((8 : Int32) &&& 31).toUInt32).toInt32) &&& (255 : Int32)).toUInt32.toUInt16.toUInt32.toInt32)), .val (.int ((xc &&& (255 : Int32)).toUInt32.toUInt16.toUInt32.toInt32)), .val (.int ((((xc.toUInt32 >>> ((8 : Int32) &&& 31).toUInt32).toInt32) &&& (255 : Int32)).toUInt32.toUInt16.toUInt32.toInt32)), .val (.ref b1), .unset, .unset, .unset, .unset, .unset, .unset, .unset, .unset] [(.ref b18)]))
  refine Go.st (fun _ k' => XS.astore X49.here hx rfl (hb hby at_94) rfl rfl (l' := #[.val (.int xa), .val (.int xb), .val (.int xc), .val (.int sel), .val (.int ((xa &&& (255 : Int32)).toUInt32.toUInt16.toUInt32.toInt32)), .val (.int ((((xa.toUInt32 >>> ((8 : Int32) &&& 31).toUInt32).toInt32) &&& (255 : Int32)).toUInt32.toUInt16.toUInt32.toInt32)), .val (.int ((xb &&& (255 : Int32)).toUInt32.toUInt16.toUInt32.toInt32)), .val (.int ((((xb.toUInt32 >>> ((8 : Int32) &&& 31).toUInt32).toInt32) &&& (255 : Int32)).toUInt32.toUInt16.toUInt32.toInt32)), .val (.int ((xc &&& (255 : Int32)).toUInt32.toUInt16.toUInt32.toInt32)), .val (.int ((((xc.toUInt32 >>> ((8 : Int32) &&& 31).toUInt32).toInt32) &&& (255 : Int32)).toUInt32.toUInt16.toUInt32.toInt32)), .val (.ref b1), .val (.ref b18), .unset, .unset, .unset, .unset, .unset, .unset, .unset]) rfl k') ?_
  show Go p e below s _ _ _ (T49.setTop (mkF m 96 #[.val (.int xa), .val (.int xb), .val (.int xc), .val (.int sel), .val (.int ((xa &&& (255 : Int32)).toUInt32.toUInt16.toUInt32.toInt32)), .val (.int ((((xa.toUInt32 >>> ((8 : Int32) &&& 31).toUInt32).toInt32) &&& (255 : Int32)).toUInt32.toUInt16.toUInt32.toInt32)), .val (.int ((xb &&& (255 : Int32)).toUInt32.toUInt16.toUInt32.toInt32)), .val (.int ((((xb.toUInt32 >>> ((8 : Int32) &&& 31).toUInt32).toInt32) &&& (255 : Int32)).toUInt32.toUInt16.toUInt32.toInt32)), .val (.int ((xc &&& (255 : Int32)).toUInt32.toUInt16.toUInt32.toInt32)), .val (.int ((((xc.toUInt32 >>> ((8 : Int32) &&& 31).toUInt32).toInt32) &&& (255 : Int32)).toUInt32.toUInt16.toUInt32.toInt32)), .val (.ref b1), .val (.ref b18), .unset, .unset, .unset, .unset, .unset, .unset, .unset] []))
  obtain ⟨T54, h54, X54, e54, E54, A54, D54, -, st54⟩ := newO X49 hx hZ hown (wdx hw 0 rfl) (wdx hw 1 rfl) (wdx hw 2 rfl) rfl (g := (mkF m 96 #[.val (.int xa), .val (.int xb), .val (.int xc), .val (.int sel), .val (.int ((xa &&& (255 : Int32)).toUInt32.toUInt16.toUInt32.toInt32)), .val (.int ((((xa.toUInt32 >>> ((8 : Int32) &&& 31).toUInt32).toInt32) &&& (255 : Int32)).toUInt32.toUInt16.toUInt32.toInt32)), .val (.int ((xb &&& (255 : Int32)).toUInt32.toUInt16.toUInt32.toInt32)), .val (.int ((((xb.toUInt32 >>> ((8 : Int32) &&& 31).toUInt32).toInt32) &&& (255 : Int32)).toUInt32.toUInt16.toUInt32.toInt32)), .val (.int ((xc &&& (255 : Int32)).toUInt32.toUInt16.toUInt32.toInt32)), .val (.int ((((xc.toUInt32 >>> ((8 : Int32) &&& 31).toUInt32).toInt32) &&& (255 : Int32)).toUInt32.toUInt16.toUInt32.toInt32)), .val (.ref b1), .val (.ref b18), .unset, .unset, .unset, .unset, .unset, .unset, .unset] [])) rfl (hb hby at_96) (by decide) (by decide)
  obtain ⟨b54, g54⟩ : ∃ z, z = T49.heap.size := ⟨_, rfl⟩
  rw [← g54] at A54 D54 st54
  refine Go.st st54 ?_
  have g_b54 : n0 ≤ b54 := Nat.le_trans (own_le O49) (Nat.le_of_eq g54.symm)
  have ne55 : b1 ≠ b54 := Nat.ne_of_lt (Nat.lt_of_lt_of_le f50.lt (Nat.le_of_eq g54.symm))
  have ne56 : b4 ≠ b54 := Nat.ne_of_lt (Nat.lt_of_lt_of_le f51.lt (Nat.le_of_eq g54.symm))
  have ne57 : b18 ≠ b54 := Nat.ne_of_lt (Nat.lt_of_lt_of_le f52.lt (Nat.le_of_eq g54.symm))
  have ne58 : b25 ≠ b54 := Nat.ne_of_lt (Nat.lt_of_lt_of_le f53.lt (Nat.le_of_eq g54.symm))
  have f59 : Exa Z h54 b1 "java/lang/String" := f50.ext E54
  have f60 : Arv Z h54 b4 k4 .char (1 : Int32) [(.int (nar .char ((xa &&& (255 : Int32)).toUInt32.toUInt16.toUInt32.toInt32)))] (.int (0 : Int32)) := f51.ext E54
  have f61 : Exa Z h54 b18 "java/lang/String" := f52.ext E54
  have f62 : Arv Z h54 b25 k25 .char (2 : Int32) [(.int (nar .char ((((xa.toUInt32 >>> ((8 : Int32) &&& 31).toUInt32).toInt32) &&& (255 : Int32)).toUInt32.toUInt16.toUInt32.toInt32))), (.int (nar .char ((xb &&& (255 : Int32)).toUInt32.toUInt16.toUInt32.toInt32)))] (.int (0 : Int32)) := f53.ext E54
  have O54 : Old Z n0 h54 := O49.ext E54
  have f63 : Fld Z h54 b54 "java/lang/String" "coder" "B" (.int (0 : Int32)) := D54 (Or.inr (wdx hw 27 rfl)) (ty := .byte) (by decide)
  have f64 : Fld Z h54 b54 "java/lang/String" "value" "[B" .null := D54 (Or.inr (wdx hw 29 rfl)) (ty := (.array .byte)) (by decide)
  show Go p e below s _ _ _ (T54.setTop (mkF m 99 #[.val (.int xa), .val (.int xb), .val (.int xc), .val (.int sel), .val (.int ((xa &&& (255 : Int32)).toUInt32.toUInt16.toUInt32.toInt32)), .val (.int ((((xa.toUInt32 >>> ((8 : Int32) &&& 31).toUInt32).toInt32) &&& (255 : Int32)).toUInt32.toUInt16.toUInt32.toInt32)), .val (.int ((xb &&& (255 : Int32)).toUInt32.toUInt16.toUInt32.toInt32)), .val (.int ((((xb.toUInt32 >>> ((8 : Int32) &&& 31).toUInt32).toInt32) &&& (255 : Int32)).toUInt32.toUInt16.toUInt32.toInt32)), .val (.int ((xc &&& (255 : Int32)).toUInt32.toUInt16.toUInt32.toInt32)), .val (.int ((((xc.toUInt32 >>> ((8 : Int32) &&& 31).toUInt32).toInt32) &&& (255 : Int32)).toUInt32.toUInt16.toUInt32.toInt32)), .val (.ref b1), .val (.ref b18), .unset, .unset, .unset, .unset, .unset, .unset, .unset] [(.ref b54)]))
  refine Go.st (fun _ k' => XS.dup X54.here hx rfl (hb hby at_99) rfl rfl k') ?_
  show Go p e below s _ _ _ (T54.setTop (mkF m 100 #[.val (.int xa), .val (.int xb), .val (.int xc), .val (.int sel), .val (.int ((xa &&& (255 : Int32)).toUInt32.toUInt16.toUInt32.toInt32)), .val (.int ((((xa.toUInt32 >>> ((8 : Int32) &&& 31).toUInt32).toInt32) &&& (255 : Int32)).toUInt32.toUInt16.toUInt32.toInt32)), .val (.int ((xb &&& (255 : Int32)).toUInt32.toUInt16.toUInt32.toInt32)), .val (.int ((((xb.toUInt32 >>> ((8 : Int32) &&& 31).toUInt32).toInt32) &&& (255 : Int32)).toUInt32.toUInt16.toUInt32.toInt32)), .val (.int ((xc &&& (255 : Int32)).toUInt32.toUInt16.toUInt32.toInt32)), .val (.int ((((xc.toUInt32 >>> ((8 : Int32) &&& 31).toUInt32).toInt32) &&& (255 : Int32)).toUInt32.toUInt16.toUInt32.toInt32)), .val (.ref b1), .val (.ref b18), .unset, .unset, .unset, .unset, .unset, .unset, .unset] [(.ref b54), (.ref b54)]))
  refine Go.st (fun _ k' => XS.iconst X54.here hx rfl (hb hby at_100) k') ?_
  show Go p e below s _ _ _ (T54.setTop (mkF m 101 #[.val (.int xa), .val (.int xb), .val (.int xc), .val (.int sel), .val (.int ((xa &&& (255 : Int32)).toUInt32.toUInt16.toUInt32.toInt32)), .val (.int ((((xa.toUInt32 >>> ((8 : Int32) &&& 31).toUInt32).toInt32) &&& (255 : Int32)).toUInt32.toUInt16.toUInt32.toInt32)), .val (.int ((xb &&& (255 : Int32)).toUInt32.toUInt16.toUInt32.toInt32)), .val (.int ((((xb.toUInt32 >>> ((8 : Int32) &&& 31).toUInt32).toInt32) &&& (255 : Int32)).toUInt32.toUInt16.toUInt32.toInt32)), .val (.int ((xc &&& (255 : Int32)).toUInt32.toUInt16.toUInt32.toInt32)), .val (.int ((((xc.toUInt32 >>> ((8 : Int32) &&& 31).toUInt32).toInt32) &&& (255 : Int32)).toUInt32.toUInt16.toUInt32.toInt32)), .val (.ref b1), .val (.ref b18), .unset, .unset, .unset, .unset, .unset, .unset, .unset] [(.int (3 : Int32)), (.ref b54), (.ref b54)]))
  obtain ⟨T65, h65, k65, X65, e65, E65, A65, st65⟩ := newP X54 hx hZ (wdx hw 3 rfl) e54 (g := (mkF m 101 #[.val (.int xa), .val (.int xb), .val (.int xc), .val (.int sel), .val (.int ((xa &&& (255 : Int32)).toUInt32.toUInt16.toUInt32.toInt32)), .val (.int ((((xa.toUInt32 >>> ((8 : Int32) &&& 31).toUInt32).toInt32) &&& (255 : Int32)).toUInt32.toUInt16.toUInt32.toInt32)), .val (.int ((xb &&& (255 : Int32)).toUInt32.toUInt16.toUInt32.toInt32)), .val (.int ((((xb.toUInt32 >>> ((8 : Int32) &&& 31).toUInt32).toInt32) &&& (255 : Int32)).toUInt32.toUInt16.toUInt32.toInt32)), .val (.int ((xc &&& (255 : Int32)).toUInt32.toUInt16.toUInt32.toInt32)), .val (.int ((((xc.toUInt32 >>> ((8 : Int32) &&& 31).toUInt32).toInt32) &&& (255 : Int32)).toUInt32.toUInt16.toUInt32.toInt32)), .val (.ref b1), .val (.ref b18), .unset, .unset, .unset, .unset, .unset, .unset, .unset] [(.int (3 : Int32)), (.ref b54), (.ref b54)])) rfl (hb hby at_101) rfl (by decide) (cap := 3) (by decide) (by decide) (by decide) (by decide)
  obtain ⟨b65, g65⟩ : ∃ z, z = h54.size := ⟨_, rfl⟩
  rw [← g65] at A65 st65
  refine Go.st st65 ?_
  have g_b65 : n0 ≤ b65 := Nat.le_trans (own_le O54) (Nat.le_of_eq g65.symm)
  have ne66 : b1 ≠ b65 := Nat.ne_of_lt (Nat.lt_of_lt_of_le f59.lt (Nat.le_of_eq g65.symm))
  have ne67 : b4 ≠ b65 := Nat.ne_of_lt (Nat.lt_of_lt_of_le f60.lt (Nat.le_of_eq g65.symm))
  have ne68 : b18 ≠ b65 := Nat.ne_of_lt (Nat.lt_of_lt_of_le f61.lt (Nat.le_of_eq g65.symm))
  have ne69 : b25 ≠ b65 := Nat.ne_of_lt (Nat.lt_of_lt_of_le f62.lt (Nat.le_of_eq g65.symm))
  have ne70 : b54 ≠ b65 := Nat.ne_of_lt (Nat.lt_of_lt_of_le A54.lt (Nat.le_of_eq g65.symm))
  have f71 : Exa Z h65 b1 "java/lang/String" := f59.ext E65
  have f72 : Arv Z h65 b4 k4 .char (1 : Int32) [(.int (nar .char ((xa &&& (255 : Int32)).toUInt32.toUInt16.toUInt32.toInt32)))] (.int (0 : Int32)) := f60.ext E65
  have f73 : Exa Z h65 b18 "java/lang/String" := f61.ext E65
  have f74 : Arv Z h65 b25 k25 .char (2 : Int32) [(.int (nar .char ((((xa.toUInt32 >>> ((8 : Int32) &&& 31).toUInt32).toInt32) &&& (255 : Int32)).toUInt32.toUInt16.toUInt32.toInt32))), (.int (nar .char ((xb &&& (255 : Int32)).toUInt32.toUInt16.toUInt32.toInt32)))] (.int (0 : Int32)) := f62.ext E65
  have f75 : Exa Z h65 b54 "java/lang/String" := A54.ext E65
  have f76 : Fld Z h65 b54 "java/lang/String" "coder" "B" (.int (0 : Int32)) := f63.ext E65
  have f77 : Fld Z h65 b54 "java/lang/String" "value" "[B" .null := f64.ext E65
  have O65 : Old Z n0 h65 := O54.ext E65
  have f78 : Arv Z h65 b65 k65 .char (3 : Int32) [(.int (0 : Int32)), (.int (0 : Int32)), (.int (0 : Int32))] (.int (0 : Int32)) := (Arv.new A65 (by decide)).pad (pad_rep [] (.int (0 : Int32)) 3)
  show Go p e below s _ _ _ (T65.setTop (mkF m 103 #[.val (.int xa), .val (.int xb), .val (.int xc), .val (.int sel), .val (.int ((xa &&& (255 : Int32)).toUInt32.toUInt16.toUInt32.toInt32)), .val (.int ((((xa.toUInt32 >>> ((8 : Int32) &&& 31).toUInt32).toInt32) &&& (255 : Int32)).toUInt32.toUInt16.toUInt32.toInt32)), .val (.int ((xb &&& (255 : Int32)).toUInt32.toUInt16.toUInt32.toInt32)), .val (.int ((((xb.toUInt32 >>> ((8 : Int32) &&& 31).toUInt32).toInt32) &&& (255 : Int32)).toUInt32.toUInt16.toUInt32.toInt32)), .val (.int ((xc &&& (255 : Int32)).toUInt32.toUInt16.toUInt32.toInt32)), .val (.int ((((xc.toUInt32 >>> ((8 : Int32) &&& 31).toUInt32).toInt32) &&& (255 : Int32)).toUInt32.toUInt16.toUInt32.toInt32)), .val (.ref b1), .val (.ref b18), .unset, .unset, .unset, .unset, .unset, .unset, .unset] [(.ref b65), (.ref b54), (.ref b54)]))
  refine Go.st (fun _ k' => XS.dup X65.here hx rfl (hb hby at_103) rfl rfl k') ?_
  show Go p e below s _ _ _ (T65.setTop (mkF m 104 #[.val (.int xa), .val (.int xb), .val (.int xc), .val (.int sel), .val (.int ((xa &&& (255 : Int32)).toUInt32.toUInt16.toUInt32.toInt32)), .val (.int ((((xa.toUInt32 >>> ((8 : Int32) &&& 31).toUInt32).toInt32) &&& (255 : Int32)).toUInt32.toUInt16.toUInt32.toInt32)), .val (.int ((xb &&& (255 : Int32)).toUInt32.toUInt16.toUInt32.toInt32)), .val (.int ((((xb.toUInt32 >>> ((8 : Int32) &&& 31).toUInt32).toInt32) &&& (255 : Int32)).toUInt32.toUInt16.toUInt32.toInt32)), .val (.int ((xc &&& (255 : Int32)).toUInt32.toUInt16.toUInt32.toInt32)), .val (.int ((((xc.toUInt32 >>> ((8 : Int32) &&& 31).toUInt32).toInt32) &&& (255 : Int32)).toUInt32.toUInt16.toUInt32.toInt32)), .val (.ref b1), .val (.ref b18), .unset, .unset, .unset, .unset, .unset, .unset, .unset] [(.ref b65), (.ref b65), (.ref b54), (.ref b54)]))
  refine Go.st (fun _ k' => XS.iconst X65.here hx rfl (hb hby at_104) k') ?_
  show Go p e below s _ _ _ (T65.setTop (mkF m 105 #[.val (.int xa), .val (.int xb), .val (.int xc), .val (.int sel), .val (.int ((xa &&& (255 : Int32)).toUInt32.toUInt16.toUInt32.toInt32)), .val (.int ((((xa.toUInt32 >>> ((8 : Int32) &&& 31).toUInt32).toInt32) &&& (255 : Int32)).toUInt32.toUInt16.toUInt32.toInt32)), .val (.int ((xb &&& (255 : Int32)).toUInt32.toUInt16.toUInt32.toInt32)), .val (.int ((((xb.toUInt32 >>> ((8 : Int32) &&& 31).toUInt32).toInt32) &&& (255 : Int32)).toUInt32.toUInt16.toUInt32.toInt32)), .val (.int ((xc &&& (255 : Int32)).toUInt32.toUInt16.toUInt32.toInt32)), .val (.int ((((xc.toUInt32 >>> ((8 : Int32) &&& 31).toUInt32).toInt32) &&& (255 : Int32)).toUInt32.toUInt16.toUInt32.toInt32)), .val (.ref b1), .val (.ref b18), .unset, .unset, .unset, .unset, .unset, .unset, .unset] [(.int (0 : Int32)), (.ref b65), (.ref b65), (.ref b54), (.ref b54)]))
  refine Go.st (fun _ k' => XS.iload X65.here hx rfl (hb hby at_105) rfl k') ?_
  show Go p e below s _ _ _ (T65.setTop (mkF m 107 #[.val (.int xa), .val (.int xb), .val (.int xc), .val (.int sel), .val (.int ((xa &&& (255 : Int32)).toUInt32.toUInt16.toUInt32.toInt32)), .val (.int ((((xa.toUInt32 >>> ((8 : Int32) &&& 31).toUInt32).toInt32) &&& (255 : Int32)).toUInt32.toUInt16.toUInt32.toInt32)), .val (.int ((xb &&& (255 : Int32)).toUInt32.toUInt16.toUInt32.toInt32)), .val (.int ((((xb.toUInt32 >>> ((8 : Int32) &&& 31).toUInt32).toInt32) &&& (255 : Int32)).toUInt32.toUInt16.toUInt32.toInt32)), .val (.int ((xc &&& (255 : Int32)).toUInt32.toUInt16.toUInt32.toInt32)), .val (.int ((((xc.toUInt32 >>> ((8 : Int32) &&& 31).toUInt32).toInt32) &&& (255 : Int32)).toUInt32.toUInt16.toUInt32.toInt32)), .val (.ref b1), .val (.ref b18), .unset, .unset, .unset, .unset, .unset, .unset, .unset] [(.int ((((xb.toUInt32 >>> ((8 : Int32) &&& 31).toUInt32).toInt32) &&& (255 : Int32)).toUInt32.toUInt16.toUInt32.toInt32)), (.int (0 : Int32)), (.ref b65), (.ref b65), (.ref b54), (.ref b54)]))
  obtain ⟨cl79, Ar79, qc79, Sz79, Nn79, Ha79, Gf79⟩ := id f78
  obtain ⟨T79, h79, X79, e79, W79, st79⟩ := stC X65 hx hZ e65 Ar79 (j := (0 : Int32)) (inb_of Sz79 ⟨by decide, by decide⟩) (g := (mkF m 107 #[.val (.int xa), .val (.int xb), .val (.int xc), .val (.int sel), .val (.int ((xa &&& (255 : Int32)).toUInt32.toUInt16.toUInt32.toInt32)), .val (.int ((((xa.toUInt32 >>> ((8 : Int32) &&& 31).toUInt32).toInt32) &&& (255 : Int32)).toUInt32.toUInt16.toUInt32.toInt32)), .val (.int ((xb &&& (255 : Int32)).toUInt32.toUInt16.toUInt32.toInt32)), .val (.int ((((xb.toUInt32 >>> ((8 : Int32) &&& 31).toUInt32).toInt32) &&& (255 : Int32)).toUInt32.toUInt16.toUInt32.toInt32)), .val (.int ((xc &&& (255 : Int32)).toUInt32.toUInt16.toUInt32.toInt32)), .val (.int ((((xc.toUInt32 >>> ((8 : Int32) &&& 31).toUInt32).toInt32) &&& (255 : Int32)).toUInt32.toUInt16.toUInt32.toInt32)), .val (.ref b1), .val (.ref b18), .unset, .unset, .unset, .unset, .unset, .unset, .unset] [(.int ((((xb.toUInt32 >>> ((8 : Int32) &&& 31).toUInt32).toInt32) &&& (255 : Int32)).toUInt32.toUInt16.toUInt32.toInt32)), (.int (0 : Int32)), (.ref b65), (.ref b65), (.ref b54), (.ref b54)])) rfl rfl (hb hby at_107)
  refine Go.st st79 ?_
  have f81 : Exa Z h79 b1 "java/lang/String" := f71.wr W79
  have f82 : Arv Z h79 b4 k4 .char (1 : Int32) [(.int (nar .char ((xa &&& (255 : Int32)).toUInt32.toUInt16.toUInt32.toInt32)))] (.int (0 : Int32)) := f72.other W79 ne67
  have f83 : Exa Z h79 b18 "java/lang/String" := f73.wr W79
  have f84 : Arv Z h79 b25 k25 .char (2 : Int32) [(.int (nar .char ((((xa.toUInt32 >>> ((8 : Int32) &&& 31).toUInt32).toInt32) &&& (255 : Int32)).toUInt32.toUInt16.toUInt32.toInt32))), (.int (nar .char ((xb &&& (255 : Int32)).toUInt32.toUInt16.toUInt32.toInt32)))] (.int (0 : Int32)) := f74.other W79 ne69
  have f85 : Exa Z h79 b54 "java/lang/String" := f75.wr W79
  have f86 : Fld Z h79 b54 "java/lang/String" "coder" "B" (.int (0 : Int32)) := f76.other W79 (Or.inl ne70)
  have f87 : Fld Z h79 b54 "java/lang/String" "value" "[B" .null := f77.other W79 (Or.inl ne70)
  have O79 : Old Z n0 h79 := O65.wr W79 g_b65
  have N79 := Fr.snoc X79 N49 g_b65
  have f80 : Arv Z h79 b65 k65 .char (3 : Int32) [(.int (nar .char ((((xb.toUInt32 >>> ((8 : Int32) &&& 31).toUInt32).toInt32) &&& (255 : Int32)).toUInt32.toUInt16.toUInt32.toInt32))), (.int (0 : Int32)), (.int (0 : Int32))] (.int (0 : Int32)) := Arv.set Ar79 qc79 Sz79 Nn79 Ha79 Gf79 (fits_nar_char _) W79 0 rfl (Nat.le_of_ble_eq_true rfl)
  show Go p e below s _ _ _ (T79.setTop (mkF m 108 #[.val (.int xa), .val (.int xb), .val (.int xc), .val (.int sel), .val (.int ((xa &&& (255 : Int32)).toUInt32.toUInt16.toUInt32.toInt32)), .val (.int ((((xa.toUInt32 >>> ((8 : Int32) &&& 31).toUInt32).toInt32) &&& (255 : Int32)).toUInt32.toUInt16.toUInt32.toInt32)), .val (.int ((xb &&& (255 : Int32)).toUInt32.toUInt16.toUInt32.toInt32)), .val (.int ((((xb.toUInt32 >>> ((8 : Int32) &&& 31).toUInt32).toInt32) &&& (255 : Int32)).toUInt32.toUInt16.toUInt32.toInt32)), .val (.int ((xc &&& (255 : Int32)).toUInt32.toUInt16.toUInt32.toInt32)), .val (.int ((((xc.toUInt32 >>> ((8 : Int32) &&& 31).toUInt32).toInt32) &&& (255 : Int32)).toUInt32.toUInt16.toUInt32.toInt32)), .val (.ref b1), .val (.ref b18), .unset, .unset, .unset, .unset, .unset, .unset, .unset] [(.ref b65), (.ref b54), (.ref b54)]))
  refine Go.st (fun _ k' => XS.dup X79.here hx rfl (hb hby at_108) rfl rfl k') ?_
  show Go p e below s _ _ _ (T79.setTop (mkF m 109 #[.val (.int xa), .val (.int xb), .val (.int xc), .val (.int sel), .val (.int ((xa &&& (255 : Int32)).toUInt32.toUInt16.toUInt32.toInt32)), .val (.int ((((xa.toUInt32 >>> ((8 : Int32) &&& 31).toUInt32).toInt32) &&& (255 : Int32)).toUInt32.toUInt16.toUInt32.toInt32)), .val (.int ((xb &&& (255 : Int32)).toUInt32.toUInt16.toUInt32.toInt32)), .val (.int ((((xb.toUInt32 >>> ((8 : Int32) &&& 31).toUInt32).toInt32) &&& (255 : Int32)).toUInt32.toUInt16.toUInt32.toInt32)), .val (.int ((xc &&& (255 : Int32)).toUInt32.toUInt16.toUInt32.toInt32)), .val (.int ((((xc.toUInt32 >>> ((8 : Int32) &&& 31).toUInt32).toInt32) &&& (255 : Int32)).toUInt32.toUInt16.toUInt32.toInt32)), .val (.ref b1), .val (.ref b18), .unset, .unset, .unset, .unset, .unset, .unset, .unset] [(.ref b65), (.ref b65), (.ref b54), (.ref b54)]))
  refine Go.st (fun _ k' => XS.iconst X79.here hx rfl (hb hby at_109) k') ?_
  show Go p e below s _ _ _ (T79.setTop (mkF m 110 #[.val (.int xa), .val (.int xb), .val (.int xc), .val (.int sel), .val (.int ((xa &&& (255 : Int32)).toUInt32.toUInt16.toUInt32.toInt32)), .val (.int ((((xa.toUInt32 >>> ((8 : Int32) &&& 31).toUInt32).toInt32) &&& (255 : Int32)).toUInt32.toUInt16.toUInt32.toInt32)), .val (.int ((xb &&& (255 : Int32)).toUInt32.toUInt16.toUInt32.toInt32)), .val (.int ((((xb.toUInt32 >>> ((8 : Int32) &&& 31).toUInt32).toInt32) &&& (255 : Int32)).toUInt32.toUInt16.toUInt32.toInt32)), .val (.int ((xc &&& (255 : Int32)).toUInt32.toUInt16.toUInt32.toInt32)), .val (.int ((((xc.toUInt32 >>> ((8 : Int32) &&& 31).toUInt32).toInt32) &&& (255 : Int32)).toUInt32.toUInt16.toUInt32.toInt32)), .val (.ref b1), .val (.ref b18), .unset, .unset, .unset, .unset, .unset, .unset, .unset] [(.int (1 : Int32)), (.ref b65), (.ref b65), (.ref b54), (.ref b54)]))
  refine Go.st (fun _ k' => XS.iload X79.here hx rfl (hb hby at_110) rfl k') ?_
  show Go p e below s _ _ _ (T79.setTop (mkF m 112 #[.val (.int xa), .val (.int xb), .val (.int xc), .val (.int sel), .val (.int ((xa &&& (255 : Int32)).toUInt32.toUInt16.toUInt32.toInt32)), .val (.int ((((xa.toUInt32 >>> ((8 : Int32) &&& 31).toUInt32).toInt32) &&& (255 : Int32)).toUInt32.toUInt16.toUInt32.toInt32)), .val (.int ((xb &&& (255 : Int32)).toUInt32.toUInt16.toUInt32.toInt32)), .val (.int ((((xb.toUInt32 >>> ((8 : Int32) &&& 31).toUInt32).toInt32) &&& (255 : Int32)).toUInt32.toUInt16.toUInt32.toInt32)), .val (.int ((xc &&& (255 : Int32)).toUInt32.toUInt16.toUInt32.toInt32)), .val (.int ((((xc.toUInt32 >>> ((8 : Int32) &&& 31).toUInt32).toInt32) &&& (255 : Int32)).toUInt32.toUInt16.toUInt32.toInt32)), .val (.ref b1), .val (.ref b18), .unset, .unset, .unset, .unset, .unset, .unset, .unset] [(.int ((xc &&& (255 : Int32)).toUInt32.toUInt16.toUInt32.toInt32)), (.int (1 : Int32)), (.ref b65), (.ref b65), (.ref b54), (.ref b54)]))
  obtain ⟨cl88, Ar88, qc88, Sz88, Nn88, Ha88, Gf88⟩ := id f80
  obtain ⟨T88, h88, X88, e88, W88, st88⟩ := stC X79 hx hZ e79 Ar88 (j := (1 : Int32)) (inb_of Sz88 ⟨by decide, by decide⟩) (g := (mkF m 112 #[.val (.int xa), .val (.int xb), .val (.int xc), .val (.int sel), .val (.int ((xa &&& (255 : Int32)).toUInt32.toUInt16.toUInt32.toInt32)), .val (.int ((((xa.toUInt32 >>> ((8 : Int32) &&& 31).toUInt32).toInt32) &&& (255 : Int32)).toUInt32.toUInt16.toUInt32.toInt32)), .val (.int ((xb &&& (255 : Int32)).toUInt32.toUInt16.toUInt32.toInt32)), .val (.int ((((xb.toUInt32 >>> ((8 : Int32) &&& 31).toUInt32).toInt32) &&& (255 : Int32)).toUInt32.toUInt16.toUInt32.toInt32)), .val (.int ((xc &&& (255 : Int32)).toUInt32.toUInt16.toUInt32.toInt32)), .val (.int ((((xc.toUInt32 >>> ((8 : Int32) &&& 31).toUInt32).toInt32) &&& (255 : Int32)).toUInt32.toUInt16.toUInt32.toInt32)), .val (.ref b1), .val (.ref b18), .unset, .unset, .unset, .unset, .unset, .unset, .unset] [(.int ((xc &&& (255 : Int32)).toUInt32.toUInt16.toUInt32.toInt32)), (.int (1 : Int32)), (.ref b65), (.ref b65), (.ref b54), (.ref b54)])) rfl rfl (hb hby at_112)
  refine Go.st st88 ?_
  have f90 : Exa Z h88 b1 "java/lang/String" := f81.wr W88
  have f91 : Arv Z h88 b4 k4 .char (1 : Int32) [(.int (nar .char ((xa &&& (255 : Int32)).toUInt32.toUInt16.toUInt32.toInt32)))] (.int (0 : Int32)) := f82.other W88 ne67
  have f92 : Exa Z h88 b18 "java/lang/String" := f83.wr W88
  have f93 : Arv Z h88 b25 k25 .char (2 : Int32) [(.int (nar .char ((((xa.toUInt32 >>> ((8 : Int32) &&& 31).toUInt32).toInt32) &&& (255 : Int32)).toUInt32.toUInt16.toUInt32.toInt32))), (.int (nar .char ((xb &&& (255 : Int32)).toUInt32.toUInt16.toUInt32.toInt32)))] (.int (0 : Int32)) := f84.other W88 ne69
  have f94 : Exa Z h88 b54 "java/lang/String" := f85.wr W88
  have f95 : Fld Z h88 b54 "java/lang/String" "coder" "B" (.int (0 : Int32)) := f86.other W88 (Or.inl ne70)
  have f96 : Fld Z h88 b54 "java/lang/String" "value" "[B" .null := f87.other W88 (Or.inl ne70)
  have O88 : Old Z n0 h88 := O79.wr W88 g_b65
  have N88 := Fr.snoc X88 N79 g_b65
  have f89 : Arv Z h88 b65 k65 .char (3 : Int32) [(.int (nar .char ((((xb.toUInt32 >>> ((8 : Int32) &&& 31).toUInt32).toInt32) &&& (255 : Int32)).toUInt32.toUInt16.toUInt32.toInt32))), (.int (nar .char ((xc &&& (255 : Int32)).toUInt32.toUInt16.toUInt32.toInt32))), (.int (0 : Int32))] (.int (0 : Int32)) := Arv.set Ar88 qc88 Sz88 Nn88 Ha88 Gf88 (fits_nar_char _) W88 1 rfl (Nat.le_of_ble_eq_true rfl)
  show Go p e below s _ _ _ (T88.setTop (mkF m 113 #[.val (.int xa), .val (.int xb), .val (.int xc), .val (.int sel), .val (.int ((xa &&& (255 : Int32)).toUInt32.toUInt16.toUInt32.toInt32)), .val (.int ((((xa.toUInt32 >>> ((8 : Int32) &&& 31).toUInt32).toInt32) &&& (255 : Int32)).toUInt32.toUInt16.toUInt32.toInt32)), .val (.int ((xb &&& (255 : Int32)).toUInt32.toUInt16.toUInt32.toInt32)), .val (.int ((((xb.toUInt32 >>> ((8 : Int32) &&& 31).toUInt32).toInt32) &&& (255 : Int32)).toUInt32.toUInt16.toUInt32.toInt32)), .val (.int ((xc &&& (255 : Int32)).toUInt32.toUInt16.toUInt32.toInt32)), .val (.int ((((xc.toUInt32 >>> ((8 : Int32) &&& 31).toUInt32).toInt32) &&& (255 : Int32)).toUInt32.toUInt16.toUInt32.toInt32)), .val (.ref b1), .val (.ref b18), .unset, .unset, .unset, .unset, .unset, .unset, .unset] [(.ref b65), (.ref b54), (.ref b54)]))
  refine Go.st (fun _ k' => XS.dup X88.here hx rfl (hb hby at_113) rfl rfl k') ?_
  show Go p e below s _ _ _ (T88.setTop (mkF m 114 #[.val (.int xa), .val (.int xb), .val (.int xc), .val (.int sel), .val (.int ((xa &&& (255 : Int32)).toUInt32.toUInt16.toUInt32.toInt32)), .val (.int ((((xa.toUInt32 >>> ((8 : Int32) &&& 31).toUInt32).toInt32) &&& (255 : Int32)).toUInt32.toUInt16.toUInt32.toInt32)), .val (.int ((xb &&& (255 : Int32)).toUInt32.toUInt16.toUInt32.toInt32)), .val (.int ((((xb.toUInt32 >>> ((8 : Int32) &&& 31).toUInt32).toInt32) &&& (255 : Int32)).toUInt32.toUInt16.toUInt32.toInt32)), .val (.int ((xc &&& (255 : Int32)).toUInt32.toUInt16.toUInt32.toInt32)), .val (.int ((((xc.toUInt32 >>> ((8 : Int32) &&& 31).toUInt32).toInt32) &&& (255 : Int32)).toUInt32.toUInt16.toUInt32.toInt32)), .val (.ref b1), .val (.ref b18), .unset, .unset, .unset, .unset, .unset, .unset, .unset] [(.ref b65), (.ref b65), (.ref b54), (.ref b54)]))
  refine Go.st (fun _ k' => XS.iconst X88.here hx rfl (hb hby at_114) k') ?_
  show Go p e below s _ _ _ (T88.setTop (mkF m 115 #[.val (.int xa), .val (.int xb), .val (.int xc), .val (.int sel), .val (.int ((xa &&& (255 : Int32)).toUInt32.toUInt16.toUInt32.toInt32)), .val (.int ((((xa.toUInt32 >>> ((8 : Int32) &&& 31).toUInt32).toInt32) &&& (255 : Int32)).toUInt32.toUInt16.toUInt32.toInt32)), .val (.int ((xb &&& (255 : Int32)).toUInt32.toUInt16.toUInt32.toInt32)), .val (.int ((((xb.toUInt32 >>> ((8 : Int32) &&& 31).toUInt32).toInt32) &&& (255 : Int32)).toUInt32.toUInt16.toUInt32.toInt32)), .val (.int ((xc &&& (255 : Int32)).toUInt32.toUInt16.toUInt32.toInt32)), .val (.int ((((xc.toUInt32 >>> ((8 : Int32) &&& 31).toUInt32).toInt32) &&& (255 : Int32)).toUInt32.toUInt16.toUInt32.toInt32)), .val (.ref b1), .val (.ref b18), .unset, .unset, .unset, .unset, .unset, .unset, .unset] [(.int (2 : Int32)), (.ref b65), (.ref b65), (.ref b54), (.ref b54)]))
  refine Go.st (fun _ k' => XS.iload X88.here hx rfl (hb hby at_115) rfl k') ?_
  show Go p e below s _ _ _ (T88.setTop (mkF m 117 #[.val (.int xa), .val (.int xb), .val (.int xc), .val (.int sel), .val (.int ((xa &&& (255 : Int32)).toUInt32.toUInt16.toUInt32.toInt32)), .val (.int ((((xa.toUInt32 >>> ((8 : Int32) &&& 31).toUInt32).toInt32) &&& (255 : Int32)).toUInt32.toUInt16.toUInt32.toInt32)), .val (.int ((xb &&& (255 : Int32)).toUInt32.toUInt16.toUInt32.toInt32)), .val (.int ((((xb.toUInt32 >>> ((8 : Int32) &&& 31).toUInt32).toInt32) &&& (255 : Int32)).toUInt32.toUInt16.toUInt32.toInt32)), .val (.int ((xc &&& (255 : Int32)).toUInt32.toUInt16.toUInt32.toInt32)), .val (.int ((((xc.toUInt32 >>> ((8 : Int32) &&& 31).toUInt32).toInt32) &&& (255 : Int32)).toUInt32.toUInt16.toUInt32.toInt32)), .val (.ref b1), .val (.ref b18), .unset, .unset, .unset, .unset, .unset, .unset, .unset] [(.int ((((xc.toUInt32 >>> ((8 : Int32) &&& 31).toUInt32).toInt32) &&& (255 : Int32)).toUInt32.toUInt16.toUInt32.toInt32)), (.int (2 : Int32)), (.ref b65), (.ref b65), (.ref b54), (.ref b54)]))
  obtain ⟨cl97, Ar97, qc97, Sz97, Nn97, Ha97, Gf97⟩ := id f89
  obtain ⟨T97, h97, X97, e97, W97, st97⟩ := stC X88 hx hZ e88 Ar97 (j := (2 : Int32)) (inb_of Sz97 ⟨by decide, by decide⟩) (g := (mkF m 117 #[.val (.int xa), .val (.int xb), .val (.int xc), .val (.int sel), .val (.int ((xa &&& (255 : Int32)).toUInt32.toUInt16.toUInt32.toInt32)), .val (.int ((((xa.toUInt32 >>> ((8 : Int32) &&& 31).toUInt32).toInt32) &&& (255 : Int32)).toUInt32.toUInt16.toUInt32.toInt32)), .val (.int ((xb &&& (255 : Int32)).toUInt32.toUInt16.toUInt32.toInt32)), .val (.int ((((xb.toUInt32 >>> ((8 : Int32) &&& 31).toUInt32).toInt32) &&& (255 : Int32)).toUInt32.toUInt16.toUInt32.toInt32)), .val (.int ((xc &&& (255 : Int32)).toUInt32.toUInt16.toUInt32.toInt32)), .val (.int ((((xc.toUInt32 >>> ((8 : Int32) &&& 31).toUInt32).toInt32) &&& (255 : Int32)).toUInt32.toUInt16.toUInt32.toInt32)), .val (.ref b1), .val (.ref b18), .unset, .unset, .unset, .unset, .unset, .unset, .unset] [(.int ((((xc.toUInt32 >>> ((8 : Int32) &&& 31).toUInt32).toInt32) &&& (255 : Int32)).toUInt32.toUInt16.toUInt32.toInt32)), (.int (2 : Int32)), (.ref b65), (.ref b65), (.ref b54), (.ref b54)])) rfl rfl (hb hby at_117)
  refine Go.st st97 ?_
  have f99 : Exa Z h97 b1 "java/lang/String" := f90.wr W97
  have f100 : Arv Z h97 b4 k4 .char (1 : Int32) [(.int (nar .char ((xa &&& (255 : Int32)).toUInt32.toUInt16.toUInt32.toInt32)))] (.int (0 : Int32)) := f91.other W97 ne67
  have f101 : Exa Z h97 b18 "java/lang/String" := f92.wr W97
  have f102 : Arv Z h97 b25 k25 .char (2 : Int32) [(.int (nar .char ((((xa.toUInt32 >>> ((8 : Int32) &&& 31).toUInt32).toInt32) &&& (255 : Int32)).toUInt32.toUInt16.toUInt32.toInt32))), (.int (nar .char ((xb &&& (255 : Int32)).toUInt32.toUInt16.toUInt32.toInt32)))] (.int (0 : Int32)) := f93.other W97 ne69
  have f103 : Exa Z h97 b54 "java/lang/String" := f94.wr W97
  have f104 : Fld Z h97 b54 "java/lang/String" "coder" "B" (.int (0 : Int32)) := f95.other W97 (Or.inl ne70)
  have f105 : Fld Z h97 b54 "java/lang/String" "value" "[B" .null := f96.other W97 (Or.inl ne70)
  have O97 : Old Z n0 h97 := O88.wr W97 g_b65
  have N97 := Fr.snoc X97 N88 g_b65
  have f98 : Arv Z h97 b65 k65 .char (3 : Int32) [(.int (nar .char ((((xb.toUInt32 >>> ((8 : Int32) &&& 31).toUInt32).toInt32) &&& (255 : Int32)).toUInt32.toUInt16.toUInt32.toInt32))), (.int (nar .char ((xc &&& (255 : Int32)).toUInt32.toUInt16.toUInt32.toInt32))), (.int (nar .char ((((xc.toUInt32 >>> ((8 : Int32) &&& 31).toUInt32).toInt32) &&& (255 : Int32)).toUInt32.toUInt16.toUInt32.toInt32)))] (.int (0 : Int32)) := Arv.set Ar97 qc97 Sz97 Nn97 Ha97 Gf97 (fits_nar_char _) W97 2 rfl (Nat.le_of_ble_eq_true rfl)
  show Go p e below s _ _ _ (T97.setTop (mkF m 118 #[.val (.int xa), .val (.int xb), .val (.int xc), .val (.int sel), .val (.int ((xa &&& (255 : Int32)).toUInt32.toUInt16.toUInt32.toInt32)), .val (.int ((((xa.toUInt32 >>> ((8 : Int32) &&& 31).toUInt32).toInt32) &&& (255 : Int32)).toUInt32.toUInt16.toUInt32.toInt32)), .val (.int ((xb &&& (255 : Int32)).toUInt32.toUInt16.toUInt32.toInt32)), .val (.int ((((xb.toUInt32 >>> ((8 : Int32) &&& 31).toUInt32).toInt32) &&& (255 : Int32)).toUInt32.toUInt16.toUInt32.toInt32)), .val (.int ((xc &&& (255 : Int32)).toUInt32.toUInt16.toUInt32.toInt32)), .val (.int ((((xc.toUInt32 >>> ((8 : Int32) &&& 31).toUInt32).toInt32) &&& (255 : Int32)).toUInt32.toUInt16.toUInt32.toInt32)), .val (.ref b1), .val (.ref b18), .unset, .unset, .unset, .unset, .unset, .unset, .unset] [(.ref b65), (.ref b54), (.ref b54)]))
  obtain ⟨_, _, ⟨T106, L106, k106, n106⟩, -, X106, ⟨Lc106, hQ106, l106, y106, z106⟩, st106⟩ := X97.specialBack hx (y := (⟨"java/lang/String", "<init>", "([C)V"⟩ : MethodName)) rfl hown (mvT hZ (wdx hw 4 rfl)) (mvT hZ (wdx hw 5 rfl)) (mvT hZ (wdx hw 6 rfl)) (by decide) (backOf (W := 1) (rm1_3 l Z a0 hw [] b54 b65 k65 cs (nar .char ((((xb.toUInt32 >>> ((8 : Int32) &&& 31).toUInt32).toInt32) &&& (255 : Int32)).toUInt32.toUInt16.toUInt32.toInt32)) (nar .char ((xc &&& (255 : Int32)).toUInt32.toUInt16.toUInt32.toInt32)) (nar .char ((((xc.toUInt32 >>> ((8 : Int32) &&& 31).toUInt32).toInt32) &&& (255 : Int32)).toUInt32.toUInt16.toUInt32.toInt32)) h97 n0 O97 f103 f105 f104 f98 S_cs q_cs (own_cn _) (own_cn _) (own_cn _) g_b54 ne70) hZ (wdx hw 6 rfl) (wdx hw 2 rfl) (by decide) (by decide)) (g := (mkF m 118 #[.val (.int xa), .val (.int xb), .val (.int xc), .val (.int sel), .val (.int ((xa &&& (255 : Int32)).toUInt32.toUInt16.toUInt32.toInt32)), .val (.int ((((xa.toUInt32 >>> ((8 : Int32) &&& 31).toUInt32).toInt32) &&& (255 : Int32)).toUInt32.toUInt16.toUInt32.toInt32)), .val (.int ((xb &&& (255 : Int32)).toUInt32.toUInt16.toUInt32.toInt32)), .val (.int ((((xb.toUInt32 >>> ((8 : Int32) &&& 31).toUInt32).toInt32) &&& (255 : Int32)).toUInt32.toUInt16.toUInt32.toInt32)), .val (.int ((xc &&& (255 : Int32)).toUInt32.toUInt16.toUInt32.toInt32)), .val (.int ((((xc.toUInt32 >>> ((8 : Int32) &&& 31).toUInt32).toInt32) &&& (255 : Int32)).toUInt32.toUInt16.toUInt32.toInt32)), .val (.ref b1), .val (.ref b18), .unset, .unset, .unset, .unset, .unset, .unset, .unset] [(.ref b65), (.ref b54), (.ref b54)])) rfl (by rw [hml]; rfl) (Steps.refl _) (a := b54) (argsL := [(.ref b65)]) (rest := [(.ref b54)]) (lenOf pd___C_V rfl) rfl (by show 2 * 0 + _ ≤ _; exact Nat.le_of_eq rfl) (hb hby at_118) (fun _ _ => ⟨rfl, e97, (by exact Nat.le_of_ble_eq_true rfl), (by exact Nat.le_of_ble_eq_true rfl)⟩)
  dsimp only [Pt.U, Pt.locs, Pt.cells, Pt.slots] at X106 l106 y106 z106 st106 hQ106
  subst l106 y106 z106
  obtain ⟨rfl, Nq106, Kq106⟩ := hQ106
  have N106 := Fr.app N97 Nq106
  refine Go.tr st106 ?_
  have f107 : Exa Z T106.heap b1 "java/lang/String" := f99.keep Kq106
  have f108 : Arv Z T106.heap b4 k4 .char (1 : Int32) [(.int (nar .char ((xa &&& (255 : Int32)).toUInt32.toUInt16.toUInt32.toInt32)))] (.int (0 : Int32)) := f100.keep Kq106 (ninS ne56 nin0)
  have f109 : Exa Z T106.heap b18 "java/lang/String" := f101.keep Kq106
  have f110 : Arv Z T106.heap b25 k25 .char (2 : Int32) [(.int (nar .char ((((xa.toUInt32 >>> ((8 : Int32) &&& 31).toUInt32).toInt32) &&& (255 : Int32)).toUInt32.toUInt16.toUInt32.toInt32))), (.int (nar .char ((xb &&& (255 : Int32)).toUInt32.toUInt16.toUInt32.toInt32)))] (.int (0 : Int32)) := f102.keep Kq106 (ninS ne58 nin0)
  have f111 : Exa Z T106.heap b54 "java/lang/String" := f103.keep Kq106
  have f112 : Arv Z T106.heap b65 k65 .char (3 : Int32) [(.int (nar .char ((((xb.toUInt32 >>> ((8 : Int32) &&& 31).toUInt32).toInt32) &&& (255 : Int32)).toUInt32.toUInt16.toUInt32.toInt32))), (.int (nar .char ((xc &&& (255 : Int32)).toUInt32.toUInt16.toUInt32.toInt32))), (.int (nar .char ((((xc.toUInt32 >>> ((8 : Int32) &&& 31).toUInt32).toInt32) &&& (255 : Int32)).toUInt32.toUInt16.toUInt32.toInt32)))] (.int (0 : Int32)) := f98.keep Kq106 (ninS (Ne.symm ne70) nin0)
  have O106 : Old Z n0 T106.heap := O97.keep Kq106 (allS g_b54 all0)
  show Go p e below s _ _ _ (T106.setTop (mkF m 121 #[.val (.int xa), .val (.int xb), .val (.int xc), .val (.int sel), .val (.int ((xa &&& (255 : Int32)).toUInt32.toUInt16.toUInt32.toInt32)), .val (.int ((((xa.toUInt32 >>> ((8 : Int32) &&& 31).toUInt32).toInt32) &&& (255 : Int32)).toUInt32.toUInt16.toUInt32.toInt32)), .val (.int ((xb &&& (255 : Int32)).toUInt32.toUInt16.toUInt32.toInt32)), .val (.int ((((xb.toUInt32 >>> ((8 : Int32) &&& 31).toUInt32).toInt32) &&& (255 : Int32)).toUInt32.toUInt16.toUInt32.toInt32)), .val (.int ((xc &&& (255 : Int32)).toUInt32.toUInt16.toUInt32.toInt32)), .val (.int ((((xc.toUInt32 >>> ((8 : Int32) &&& 31).toUInt32).toInt32) &&& (255 : Int32)).toUInt32.toUInt16.toUInt32.toInt32)), .val (.ref b1), .val (.ref b18), .unset, .unset, .unset, .unset, .unset, .unset, .unset] [(.ref b54)]))
  refine Go.st (fun _ k' => XS.astore X106.here hx rfl (hb hby at_121) rfl rfl (l' := #[.val (.int xa), .val (.int xb), .val (.int xc), .val (.int sel), .val (.int ((xa &&& (255 : Int32)).toUInt32.toUInt16.toUInt32.toInt32)), .val (.int ((((xa.toUInt32 >>> ((8 : Int32) &&& 31).toUInt32).toInt32) &&& (255 : Int32)).toUInt32.toUInt16.toUInt32.toInt32)), .val (.int ((xb &&& (255 : Int32)).toUInt32.toUInt16.toUInt32.toInt32)), .val (.int ((((xb.toUInt32 >>> ((8 : Int32) &&& 31).toUInt32).toInt32) &&& (255 : Int32)).toUInt32.toUInt16.toUInt32.toInt32)), .val (.int ((xc &&& (255 : Int32)).toUInt32.toUInt16.toUInt32.toInt32)), .val (.int ((((xc.toUInt32 >>> ((8 : Int32) &&& 31).toUInt32).toInt32) &&& (255 : Int32)).toUInt32.toUInt16.toUInt32.toInt32)), .val (.ref b1), .val (.ref b18), .val (.ref b54), .unset, .unset, .unset, .unset, .unset, .unset]) rfl k') ?_
  show Go p e below s _ _ _ (T106.setTop (mkF m 123 #[.val (.int xa), .val (.int xb), .val (.int xc), .val (.int sel), .val (.int ((xa &&& (255 : Int32)).toUInt32.toUInt16.toUInt32.toInt32)), .val (.int ((((xa.toUInt32 >>> ((8 : Int32) &&& 31).toUInt32).toInt32) &&& (255 : Int32)).toUInt32.toUInt16.toUInt32.toInt32)), .val (.int ((xb &&& (255 : Int32)).toUInt32.toUInt16.toUInt32.toInt32)), .val (.int ((((xb.toUInt32 >>> ((8 : Int32) &&& 31).toUInt32).toInt32) &&& (255 : Int32)).toUInt32.toUInt16.toUInt32.toInt32)), .val (.int ((xc &&& (255 : Int32)).toUInt32.toUInt16.toUInt32.toInt32)), .val (.int ((((xc.toUInt32 >>> ((8 : Int32) &&& 31).toUInt32).toInt32) &&& (255 : Int32)).toUInt32.toUInt16.toUInt32.toInt32)), .val (.ref b1), .val (.ref b18), .val (.ref b54), .unset, .unset, .unset, .unset, .unset, .unset] []))
  obtain ⟨T113, h113, X113, e113, E113, A113, D113, -, st113⟩ := newO X106 hx hZ hown (wdx hw 30 rfl) (wdx hw 31 rfl) (wdx hw 32 rfl) rfl (g := (mkF m 123 #[.val (.int xa), .val (.int xb), .val (.int xc), .val (.int sel), .val (.int ((xa &&& (255 : Int32)).toUInt32.toUInt16.toUInt32.toInt32)), .val (.int ((((xa.toUInt32 >>> ((8 : Int32) &&& 31).toUInt32).toInt32) &&& (255 : Int32)).toUInt32.toUInt16.toUInt32.toInt32)), .val (.int ((xb &&& (255 : Int32)).toUInt32.toUInt16.toUInt32.toInt32)), .val (.int ((((xb.toUInt32 >>> ((8 : Int32) &&& 31).toUInt32).toInt32) &&& (255 : Int32)).toUInt32.toUInt16.toUInt32.toInt32)), .val (.int ((xc &&& (255 : Int32)).toUInt32.toUInt16.toUInt32.toInt32)), .val (.int ((((xc.toUInt32 >>> ((8 : Int32) &&& 31).toUInt32).toInt32) &&& (255 : Int32)).toUInt32.toUInt16.toUInt32.toInt32)), .val (.ref b1), .val (.ref b18), .val (.ref b54), .unset, .unset, .unset, .unset, .unset, .unset] [])) rfl (hb hby at_123) (by decide) (by decide)
  obtain ⟨b113, g113⟩ : ∃ z, z = T106.heap.size := ⟨_, rfl⟩
  rw [← g113] at A113 D113 st113
  refine Go.st st113 ?_
  have g_b113 : n0 ≤ b113 := Nat.le_trans (own_le O106) (Nat.le_of_eq g113.symm)
  have ne114 : b1 ≠ b113 := Nat.ne_of_lt (Nat.lt_of_lt_of_le f107.lt (Nat.le_of_eq g113.symm))
  have ne115 : b4 ≠ b113 := Nat.ne_of_lt (Nat.lt_of_lt_of_le f108.lt (Nat.le_of_eq g113.symm))
  have ne116 : b18 ≠ b113 := Nat.ne_of_lt (Nat.lt_of_lt_of_le f109.lt (Nat.le_of_eq g113.symm))
  have ne117 : b25 ≠ b113 := Nat.ne_of_lt (Nat.lt_of_lt_of_le f110.lt (Nat.le_of_eq g113.symm))
  have ne118 : b54 ≠ b113 := Nat.ne_of_lt (Nat.lt_of_lt_of_le f111.lt (Nat.le_of_eq g113.symm))
  have ne119 : b65 ≠ b113 := Nat.ne_of_lt (Nat.lt_of_lt_of_le f112.lt (Nat.le_of_eq g113.symm))
  have f120 : Exa Z h113 b1 "java/lang/String" := f107.ext E113
  have f121 : Arv Z h113 b4 k4 .char (1 : Int32) [(.int (nar .char ((xa &&& (255 : Int32)).toUInt32.toUInt16.toUInt32.toInt32)))] (.int (0 : Int32)) := f108.ext E113
  have f122 : Exa Z h113 b18 "java/lang/String" := f109.ext E113
  have f123 : Arv Z h113 b25 k25 .char (2 : Int32) [(.int (nar .char ((((xa.toUInt32 >>> ((8 : Int32) &&& 31).toUInt32).toInt32) &&& (255 : Int32)).toUInt32.toUInt16.toUInt32.toInt32))), (.int (nar .char ((xb &&& (255 : Int32)).toUInt32.toUInt16.toUInt32.toInt32)))] (.int (0 : Int32)) := f110.ext E113
  have f124 : Exa Z h113 b54 "java/lang/String" := f111.ext E113
  have f125 : Arv Z h113 b65 k65 .char (3 : Int32) [(.int (nar .char ((((xb.toUInt32 >>> ((8 : Int32) &&& 31).toUInt32).toInt32) &&& (255 : Int32)).toUInt32.toUInt16.toUInt32.toInt32))), (.int (nar .char ((xc &&& (255 : Int32)).toUInt32.toUInt16.toUInt32.toInt32))), (.int (nar .char ((((xc.toUInt32 >>> ((8 : Int32) &&& 31).toUInt32).toInt32) &&& (255 : Int32)).toUInt32.toUInt16.toUInt32.toInt32)))] (.int (0 : Int32)) := f112.ext E113
  have O113 : Old Z n0 h113 := O106.ext E113
  have f126 : Fld Z h113 b113 "com/example/reportwire/reportwire/Arguments" "optionsGiven" "Ljava/util/Set;" .null := D113 (Or.inr (wdx hw 77 rfl)) (ty := (.object "java/util/Set")) (by decide)
  have f127 : Fld Z h113 b113 "com/example/reportwire/reportwire/Arguments" "args" "[Ljava/lang/String;" .null := D113 (Or.inr (wdx hw 88 rfl)) (ty := (.array (.object "java/lang/String"))) (by decide)
  have f128 : Fld Z h113 b113 "com/example/reportwire/reportwire/Arguments" "next" "I" (.int (0 : Int32)) := D113 (Or.inl (wdx hw 106 rfl)) (ty := .int) (by decide)
  show Go p e below s _ _ _ (T113.setTop (mkF m 126 #[.val (.int xa), .val (.int xb), .val (.int xc), .val (.int sel), .val (.int ((xa &&& (255 : Int32)).toUInt32.toUInt16.toUInt32.toInt32)), .val (.int ((((xa.toUInt32 >>> ((8 : Int32) &&& 31).toUInt32).toInt32) &&& (255 : Int32)).toUInt32.toUInt16.toUInt32.toInt32)), .val (.int ((xb &&& (255 : Int32)).toUInt32.toUInt16.toUInt32.toInt32)), .val (.int ((((xb.toUInt32 >>> ((8 : Int32) &&& 31).toUInt32).toInt32) &&& (255 : Int32)).toUInt32.toUInt16.toUInt32.toInt32)), .val (.int ((xc &&& (255 : Int32)).toUInt32.toUInt16.toUInt32.toInt32)), .val (.int ((((xc.toUInt32 >>> ((8 : Int32) &&& 31).toUInt32).toInt32) &&& (255 : Int32)).toUInt32.toUInt16.toUInt32.toInt32)), .val (.ref b1), .val (.ref b18), .val (.ref b54), .unset, .unset, .unset, .unset, .unset, .unset] [(.ref b113)]))
  refine Go.st (fun _ k' => XS.dup X113.here hx rfl (hb hby at_126) rfl rfl k') ?_
  show Go p e below s _ _ _ (T113.setTop (mkF m 127 #[.val (.int xa), .val (.int xb), .val (.int xc), .val (.int sel), .val (.int ((xa &&& (255 : Int32)).toUInt32.toUInt16.toUInt32.toInt32)), .val (.int ((((xa.toUInt32 >>> ((8 : Int32) &&& 31).toUInt32).toInt32) &&& (255 : Int32)).toUInt32.toUInt16.toUInt32.toInt32)), .val (.int ((xb &&& (255 : Int32)).toUInt32.toUInt16.toUInt32.toInt32)), .val (.int ((((xb.toUInt32 >>> ((8 : Int32) &&& 31).toUInt32).toInt32) &&& (255 : Int32)).toUInt32.toUInt16.toUInt32.toInt32)), .val (.int ((xc &&& (255 : Int32)).toUInt32.toUInt16.toUInt32.toInt32)), .val (.int ((((xc.toUInt32 >>> ((8 : Int32) &&& 31).toUInt32).toInt32) &&& (255 : Int32)).toUInt32.toUInt16.toUInt32.toInt32)), .val (.ref b1), .val (.ref b18), .val (.ref b54), .unset, .unset, .unset, .unset, .unset, .unset] [(.ref b113), (.ref b113)]))
  refine Go.st (fun _ k' => XS.iconst X113.here hx rfl (hb hby at_127) k') ?_
  show Go p e below s _ _ _ (T113.setTop (mkF m 128 #[.val (.int xa), .val (.int xb), .val (.int xc), .val (.int sel), .val (.int ((xa &&& (255 : Int32)).toUInt32.toUInt16.toUInt32.toInt32)), .val (.int ((((xa.toUInt32 >>> ((8 : Int32) &&& 31).toUInt32).toInt32) &&& (255 : Int32)).toUInt32.toUInt16.toUInt32.toInt32)), .val (.int ((xb &&& (255 : Int32)).toUInt32.toUInt16.toUInt32.toInt32)), .val (.int ((((xb.toUInt32 >>> ((8 : Int32) &&& 31).toUInt32).toInt32) &&& (255 : Int32)).toUInt32.toUInt16.toUInt32.toInt32)), .val (.int ((xc &&& (255 : Int32)).toUInt32.toUInt16.toUInt32.toInt32)), .val (.int ((((xc.toUInt32 >>> ((8 : Int32) &&& 31).toUInt32).toInt32) &&& (255 : Int32)).toUInt32.toUInt16.toUInt32.toInt32)), .val (.ref b1), .val (.ref b18), .val (.ref b54), .unset, .unset, .unset, .unset, .unset, .unset] [(.int (3 : Int32)), (.ref b113), (.ref b113)]))
  obtain ⟨T129, h129, k129, X129, e129, E129, A129, Ex129, V129, st129⟩ := newRE X113 hx hZ hown (wdx hw 0 rfl) (wdx hw 33 rfl) e113 (g := (mkF m 128 #[.val (.int xa), .val (.int xb), .val (.int xc), .val (.int sel), .val (.int ((xa &&& (255 : Int32)).toUInt32.toUInt16.toUInt32.toInt32)), .val (.int ((((xa.toUInt32 >>> ((8 : Int32) &&& 31).toUInt32).toInt32) &&& (255 : Int32)).toUInt32.toUInt16.toUInt32.toInt32)), .val (.int ((xb &&& (255 : Int32)).toUInt32.toUInt16.toUInt32.toInt32)), .val (.int ((((xb.toUInt32 >>> ((8 : Int32) &&& 31).toUInt32).toInt32) &&& (255 : Int32)).toUInt32.toUInt16.toUInt32.toInt32)), .val (.int ((xc &&& (255 : Int32)).toUInt32.toUInt16.toUInt32.toInt32)), .val (.int ((((xc.toUInt32 >>> ((8 : Int32) &&& 31).toUInt32).toInt32) &&& (255 : Int32)).toUInt32.toUInt16.toUInt32.toInt32)), .val (.ref b1), .val (.ref b18), .val (.ref b54), .unset, .unset, .unset, .unset, .unset, .unset] [(.int (3 : Int32)), (.ref b113), (.ref b113)])) rfl (hb hby at_128) rfl (by decide) (cap := 3) (by decide) (by decide) (by decide) (by decide) (ad := "[Ljava/lang/String;") rfl
  obtain ⟨b129, g129⟩ : ∃ z, z = h113.size := ⟨_, rfl⟩
  rw [← g129] at A129 Ex129 st129
  refine Go.st st129 ?_
  have g_b129 : n0 ≤ b129 := Nat.le_trans (own_le O113) (Nat.le_of_eq g129.symm)
  have ne130 : b1 ≠ b129 := Nat.ne_of_lt (Nat.lt_of_lt_of_le f120.lt (Nat.le_of_eq g129.symm))
  have ne131 : b4 ≠ b129 := Nat.ne_of_lt (Nat.lt_of_lt_of_le f121.lt (Nat.le_of_eq g129.symm))
  have ne132 : b18 ≠ b129 := Nat.ne_of_lt (Nat.lt_of_lt_of_le f122.lt (Nat.le_of_eq g129.symm))
  have ne133 : b25 ≠ b129 := Nat.ne_of_lt (Nat.lt_of_lt_of_le f123.lt (Nat.le_of_eq g129.symm))
  have ne134 : b54 ≠ b129 := Nat.ne_of_lt (Nat.lt_of_lt_of_le f124.lt (Nat.le_of_eq g129.symm))
  have ne135 : b65 ≠ b129 := Nat.ne_of_lt (Nat.lt_of_lt_of_le f125.lt (Nat.le_of_eq g129.symm))
  have ne136 : b113 ≠ b129 := Nat.ne_of_lt (Nat.lt_of_lt_of_le A113.lt (Nat.le_of_eq g129.symm))
  have f137 : Exa Z h129 b1 "java/lang/String" := f120.ext E129
  have f138 : Arv Z h129 b4 k4 .char (1 : Int32) [(.int (nar .char ((xa &&& (255 : Int32)).toUInt32.toUInt16.toUInt32.toInt32)))] (.int (0 : Int32)) := f121.ext E129
  have f139 : Exa Z h129 b18 "java/lang/String" := f122.ext E129
  have f140 : Arv Z h129 b25 k25 .char (2 : Int32) [(.int (nar .char ((((xa.toUInt32 >>> ((8 : Int32) &&& 31).toUInt32).toInt32) &&& (255 : Int32)).toUInt32.toUInt16.toUInt32.toInt32))), (.int (nar .char ((xb &&& (255 : Int32)).toUInt32.toUInt16.toUInt32.toInt32)))] (.int (0 : Int32)) := f123.ext E129
  have f141 : Exa Z h129 b54 "java/lang/String" := f124.ext E129
  have f142 : Arv Z h129 b65 k65 .char (3 : Int32) [(.int (nar .char ((((xb.toUInt32 >>> ((8 : Int32) &&& 31).toUInt32).toInt32) &&& (255 : Int32)).toUInt32.toUInt16.toUInt32.toInt32))), (.int (nar .char ((xc &&& (255 : Int32)).toUInt32.toUInt16.toUInt32.toInt32))), (.int (nar .char ((((xc.toUInt32 >>> ((8 : Int32) &&& 31).toUInt32).toInt32) &&& (255 : Int32)).toUInt32.toUInt16.toUInt32.toInt32)))] (.int (0 : Int32)) := f125.ext E129
  have f143 : Exa Z h129 b113 "com/example/reportwire/reportwire/Arguments" := A113.ext E129
  have f144 : Fld Z h129 b113 "com/example/reportwire/reportwire/Arguments" "optionsGiven" "Ljava/util/Set;" .null := f126.ext E129
  have f145 : Fld Z h129 b113 "com/example/reportwire/reportwire/Arguments" "args" "[Ljava/lang/String;" .null := f127.ext E129
  have f146 : Fld Z h129 b113 "com/example/reportwire/reportwire/Arguments" "next" "I" (.int (0 : Int32)) := f128.ext E129
  have O129 : Old Z n0 h129 := O113.ext E129
  have f147 : Arv Z h129 b129 k129 (.object "java/lang/String") (3 : Int32) [.null, .null, .null] .null := (Arv.new A129 (by decide)).pad (pad_rep [] .null 3)
  show Go p e below s _ _ _ (T129.setTop (mkF m 131 #[.val (.int xa), .val (.int xb), .val (.int xc), .val (.int sel), .val (.int ((xa &&& (255 : Int32)).toUInt32.toUInt16.toUInt32.toInt32)), .val (.int ((((xa.toUInt32 >>> ((8 : Int32) &&& 31).toUInt32).toInt32) &&& (255 : Int32)).toUInt32.toUInt16.toUInt32.toInt32)), .val (.int ((xb &&& (255 : Int32)).toUInt32.toUInt16.toUInt32.toInt32)), .val (.int ((((xb.toUInt32 >>> ((8 : Int32) &&& 31).toUInt32).toInt32) &&& (255 : Int32)).toUInt32.toUInt16.toUInt32.toInt32)), .val (.int ((xc &&& (255 : Int32)).toUInt32.toUInt16.toUInt32.toInt32)), .val (.int ((((xc.toUInt32 >>> ((8 : Int32) &&& 31).toUInt32).toInt32) &&& (255 : Int32)).toUInt32.toUInt16.toUInt32.toInt32)), .val (.ref b1), .val (.ref b18), .val (.ref b54), .unset, .unset, .unset, .unset, .unset, .unset] [(.ref b129), (.ref b113), (.ref b113)]))
  refine Go.st (fun _ k' => XS.dup X129.here hx rfl (hb hby at_131) rfl rfl k') ?_
  show Go p e below s _ _ _ (T129.setTop (mkF m 132 #[.val (.int xa), .val (.int xb), .val (.int xc), .val (.int sel), .val (.int ((xa &&& (255 : Int32)).toUInt32.toUInt16.toUInt32.toInt32)), .val (.int ((((xa.toUInt32 >>> ((8 : Int32) &&& 31).toUInt32).toInt32) &&& (255 : Int32)).toUInt32.toUInt16.toUInt32.toInt32)), .val (.int ((xb &&& (255 : Int32)).toUInt32.toUInt16.toUInt32.toInt32)), .val (.int ((((xb.toUInt32 >>> ((8 : Int32) &&& 31).toUInt32).toInt32) &&& (255 : Int32)).toUInt32.toUInt16.toUInt32.toInt32)), .val (.int ((xc &&& (255 : Int32)).toUInt32.toUInt16.toUInt32.toInt32)), .val (.int ((((xc.toUInt32 >>> ((8 : Int32) &&& 31).toUInt32).toInt32) &&& (255 : Int32)).toUInt32.toUInt16.toUInt32.toInt32)), .val (.ref b1), .val (.ref b18), .val (.ref b54), .unset, .unset, .unset, .unset, .unset, .unset] [(.ref b129), (.ref b129), (.ref b113), (.ref b113)]))
  refine Go.st (fun _ k' => XS.iconst X129.here hx rfl (hb hby at_132) k') ?_
  show Go p e below s _ _ _ (T129.setTop (mkF m 133 #[.val (.int xa), .val (.int xb), .val (.int xc), .val (.int sel), .val (.int ((xa &&& (255 : Int32)).toUInt32.toUInt16.toUInt32.toInt32)), .val (.int ((((xa.toUInt32 >>> ((8 : Int32) &&& 31).toUInt32).toInt32) &&& (255 : Int32)).toUInt32.toUInt16.toUInt32.toInt32)), .val (.int ((xb &&& (255 : Int32)).toUInt32.toUInt16.toUInt32.toInt32)), .val (.int ((((xb.toUInt32 >>> ((8 : Int32) &&& 31).toUInt32).toInt32) &&& (255 : Int32)).toUInt32.toUInt16.toUInt32.toInt32)), .val (.int ((xc &&& (255 : Int32)).toUInt32.toUInt16.toUInt32.toInt32)), .val (.int ((((xc.toUInt32 >>> ((8 : Int32) &&& 31).toUInt32).toInt32) &&& (255 : Int32)).toUInt32.toUInt16.toUInt32.toInt32)), .val (.ref b1), .val (.ref b18), .val (.ref b54), .unset, .unset, .unset, .unset, .unset, .unset] [(.int (0 : Int32)), (.ref b129), (.ref b129), (.ref b113), (.ref b113)]))
  refine Go.st (fun _ k' => XS.aload X129.here hx rfl (hb hby at_133) rfl rfl k') ?_
  show Go p e below s _ _ _ (T129.setTop (mkF m 135 #[.val (.int xa), .val (.int xb), .val (.int xc), .val (.int sel), .val (.int ((xa &&& (255 : Int32)).toUInt32.toUInt16.toUInt32.toInt32)), .val (.int ((((xa.toUInt32 >>> ((8 : Int32) &&& 31).toUInt32).toInt32) &&& (255 : Int32)).toUInt32.toUInt16.toUInt32.toInt32)), .val (.int ((xb &&& (255 : Int32)).toUInt32.toUInt16.toUInt32.toInt32)), .val (.int ((((xb.toUInt32 >>> ((8 : Int32) &&& 31).toUInt32).toInt32) &&& (255 : Int32)).toUInt32.toUInt16.toUInt32.toInt32)), .val (.int ((xc &&& (255 : Int32)).toUInt32.toUInt16.toUInt32.toInt32)), .val (.int ((((xc.toUInt32 >>> ((8 : Int32) &&& 31).toUInt32).toInt32) &&& (255 : Int32)).toUInt32.toUInt16.toUInt32.toInt32)), .val (.ref b1), .val (.ref b18), .val (.ref b54), .unset, .unset, .unset, .unset, .unset, .unset] [(.ref b1), (.int (0 : Int32)), (.ref b129), (.ref b129), (.ref b113), (.ref b113)]))
  have vz148 := f147
  obtain ⟨cl148, Ar148, qc148, Sz148, Nn148, Ha148, Gf148⟩ := id f147
  obtain ⟨T148, h148, X148, e148, W148, st148⟩ := stR X129 hx hZ e129 Ar148 (j := (0 : Int32)) (inb_of Sz148 ⟨by decide, by decide⟩) rfl (Sto.ofV Ar148 qc148 V129 (Ins.self f137)) (g := (mkF m 135 #[.val (.int xa), .val (.int xb), .val (.int xc), .val (.int sel), .val (.int ((xa &&& (255 : Int32)).toUInt32.toUInt16.toUInt32.toInt32)), .val (.int ((((xa.toUInt32 >>> ((8 : Int32) &&& 31).toUInt32).toInt32) &&& (255 : Int32)).toUInt32.toUInt16.toUInt32.toInt32)), .val (.int ((xb &&& (255 : Int32)).toUInt32.toUInt16.toUInt32.toInt32)), .val (.int ((((xb.toUInt32 >>> ((8 : Int32) &&& 31).toUInt32).toInt32) &&& (255 : Int32)).toUInt32.toUInt16.toUInt32.toInt32)), .val (.int ((xc &&& (255 : Int32)).toUInt32.toUInt16.toUInt32.toInt32)), .val (.int ((((xc.toUInt32 >>> ((8 : Int32) &&& 31).toUInt32).toInt32) &&& (255 : Int32)).toUInt32.toUInt16.toUInt32.toInt32)), .val (.ref b1), .val (.ref b18), .val (.ref b54), .unset, .unset, .unset, .unset, .unset, .unset] [(.ref b1), (.int (0 : Int32)), (.ref b129), (.ref b129), (.ref b113), (.ref b113)])) rfl rfl (hb hby at_135)
  refine Go.st st148 ?_
  have f150 : Exa Z h148 b1 "java/lang/String" := f137.wr W148
  have f151 : Arv Z h148 b4 k4 .char (1 : Int32) [(.int (nar .char ((xa &&& (255 : Int32)).toUInt32.toUInt16.toUInt32.toInt32)))] (.int (0 : Int32)) := f138.other W148 ne131
  have f152 : Exa Z h148 b18 "java/lang/String" := f139.wr W148
  have f153 : Arv Z h148 b25 k25 .char (2 : Int32) [(.int (nar .char ((((xa.toUInt32 >>> ((8 : Int32) &&& 31).toUInt32).toInt32) &&& (255 : Int32)).toUInt32.toUInt16.toUInt32.toInt32))), (.int (nar .char ((xb &&& (255 : Int32)).toUInt32.toUInt16.toUInt32.toInt32)))] (.int (0 : Int32)) := f140.other W148 ne133
  have f154 : Exa Z h148 b54 "java/lang/String" := f141.wr W148
  have f155 : Arv Z h148 b65 k65 .char (3 : Int32) [(.int (nar .char ((((xb.toUInt32 >>> ((8 : Int32) &&& 31).toUInt32).toInt32) &&& (255 : Int32)).toUInt32.toUInt16.toUInt32.toInt32))), (.int (nar .char ((xc &&& (255 : Int32)).toUInt32.toUInt16.toUInt32.toInt32))), (.int (nar .char ((((xc.toUInt32 >>> ((8 : Int32) &&& 31).toUInt32).toInt32) &&& (255 : Int32)).toUInt32.toUInt16.toUInt32.toInt32)))] (.int (0 : Int32)) := f142.other W148 ne135
  have f156 : Exa Z h148 b113 "com/example/reportwire/reportwire/Arguments" := f143.wr W148
  have f157 : Fld Z h148 b113 "com/example/reportwire/reportwire/Arguments" "optionsGiven" "Ljava/util/Set;" .null := f144.other W148 (Or.inl ne136)
  have f158 : Fld Z h148 b113 "com/example/reportwire/reportwire/Arguments" "args" "[Ljava/lang/String;" .null := f145.other W148 (Or.inl ne136)
  have f159 : Fld Z h148 b113 "com/example/reportwire/reportwire/Arguments" "next" "I" (.int (0 : Int32)) := f146.other W148 (Or.inl ne136)
  have f160 : Exa Z h148 b129 "[Ljava/lang/String;" := Ex129.wr W148
  have O148 : Old Z n0 h148 := O129.wr W148 g_b129
  have N148 := Fr.snoc X148 N106 g_b129
  have f149 : Arv Z h148 b129 k129 (.object "java/lang/String") (3 : Int32) [(.ref b1), .null, .null] .null := Arv.set Ar148 qc148 Sz148 Nn148 Ha148 Gf148 rfl W148 0 rfl (Nat.le_of_ble_eq_true rfl)
  show Go p e below s _ _ _ (T148.setTop (mkF m 136 #[.val (.int xa), .val (.int xb), .val (.int xc), .val (.int sel), .val (.int ((xa &&& (255 : Int32)).toUInt32.toUInt16.toUInt32.toInt32)), .val (.int ((((xa.toUInt32 >>> ((8 : Int32) &&& 31).toUInt32).toInt32) &&& (255 : Int32)).toUInt32.toUInt16.toUInt32.toInt32)), .val (.int ((xb &&& (255 : Int32)).toUInt32.toUInt16.toUInt32.toInt32)), .val (.int ((((xb.toUInt32 >>> ((8 : Int32) &&& 31).toUInt32).toInt32) &&& (255 : Int32)).toUInt32.toUInt16.toUInt32.toInt32)), .val (.int ((xc &&& (255 : Int32)).toUInt32.toUInt16.toUInt32.toInt32)), .val (.int ((((xc.toUInt32 >>> ((8 : Int32) &&& 31).toUInt32).toInt32) &&& (255 : Int32)).toUInt32.toUInt16.toUInt32.toInt32)), .val (.ref b1), .val (.ref b18), .val (.ref b54), .unset, .unset, .unset, .unset, .unset, .unset] [(.ref b129), (.ref b113), (.ref b113)]))
  refine Go.st (fun _ k' => XS.dup X148.here hx rfl (hb hby at_136) rfl rfl k') ?_
  show Go p e below s _ _ _ (T148.setTop (mkF m 137 #[.val (.int xa), .val (.int xb), .val (.int xc), .val (.int sel), .val (.int ((xa &&& (255 : Int32)).toUInt32.toUInt16.toUInt32.toInt32)), .val (.int ((((xa.toUInt32 >>> ((8 : Int32) &&& 31).toUInt32).toInt32) &&& (255 : Int32)).toUInt32.toUInt16.toUInt32.toInt32)), .val (.int ((xb &&& (255 : Int32)).toUInt32.toUInt16.toUInt32.toInt32)), .val (.int ((((xb.toUInt32 >>> ((8 : Int32) &&& 31).toUInt32).toInt32) &&& (255 : Int32)).toUInt32.toUInt16.toUInt32.toInt32)), .val (.int ((xc &&& (255 : Int32)).toUInt32.toUInt16.toUInt32.toInt32)), .val (.int ((((xc.toUInt32 >>> ((8 : Int32) &&& 31).toUInt32).toInt32) &&& (255 : Int32)).toUInt32.toUInt16.toUInt32.toInt32)), .val (.ref b1), .val (.ref b18), .val (.ref b54), .unset, .unset, .unset, .unset, .unset, .unset] [(.ref b129), (.ref b129), (.ref b113), (.ref b113)]))
  refine Go.st (fun _ k' => XS.iconst X148.here hx rfl (hb hby at_137) k') ?_
  show Go p e below s _ _ _ (T148.setTop (mkF m 138 #[.val (.int xa), .val (.int xb), .val (.int xc), .val (.int sel), .val (.int ((xa &&& (255 : Int32)).toUInt32.toUInt16.toUInt32.toInt32)), .val (.int ((((xa.toUInt32 >>> ((8 : Int32) &&& 31).toUInt32).toInt32) &&& (255 : Int32)).toUInt32.toUInt16.toUInt32.toInt32)), .val (.int ((xb &&& (255 : Int32)).toUInt32.toUInt16.toUInt32.toInt32)), .val (.int ((((xb.toUInt32 >>> ((8 : Int32) &&& 31).toUInt32).toInt32) &&& (255 : Int32)).toUInt32.toUInt16.toUInt32.toInt32)), .val (.int ((xc &&& (255 : Int32)).toUInt32.toUInt16.toUInt32.toInt32)), .val (.int ((((xc.toUInt32 >>> ((8 : Int32) &&& 31).toUInt32).toInt32) &&& (255 : Int32)).toUInt32.toUInt16.toUInt32.toInt32)), .val (.ref b1), .val (.ref b18), .val (.ref b54), .unset, .unset, .unset, .unset, .unset, .unset] [(.int (1 : Int32)), (.ref b129), (.ref b129), (.ref b113), (.ref b113)]))
  refine Go.st (fun _ k' => XS.aload X148.here hx rfl (hb hby at_138) rfl rfl k') ?_
  show Go p e below s _ _ _ (T148.setTop (mkF m 140 #[.val (.int xa), .val (.int xb), .val (.int xc), .val (.int sel), .val (.int ((xa &&& (255 : Int32)).toUInt32.toUInt16.toUInt32.toInt32)), .val (.int ((((xa.toUInt32 >>> ((8 : Int32) &&& 31).toUInt32).toInt32) &&& (255 : Int32)).toUInt32.toUInt16.toUInt32.toInt32)), .val (.int ((xb &&& (255 : Int32)).toUInt32.toUInt16.toUInt32.toInt32)), .val (.int ((((xb.toUInt32 >>> ((8 : Int32) &&& 31).toUInt32).toInt32) &&& (255 : Int32)).toUInt32.toUInt16.toUInt32.toInt32)), .val (.int ((xc &&& (255 : Int32)).toUInt32.toUInt16.toUInt32.toInt32)), .val (.int ((((xc.toUInt32 >>> ((8 : Int32) &&& 31).toUInt32).toInt32) &&& (255 : Int32)).toUInt32.toUInt16.toUInt32.toInt32)), .val (.ref b1), .val (.ref b18), .val (.ref b54), .unset, .unset, .unset, .unset, .unset, .unset] [(.ref b18), (.int (1 : Int32)), (.ref b129), (.ref b129), (.ref b113), (.ref b113)]))
  have vz161 := f149
  obtain ⟨cl161, Ar161, qc161, Sz161, Nn161, Ha161, Gf161⟩ := id f149
  obtain ⟨T161, h161, X161, e161, W161, st161⟩ := stR X148 hx hZ e148 Ar161 (j := (1 : Int32)) (inb_of Sz161 ⟨by decide, by decide⟩) rfl (Sto.ofV Ar161 qc161 V129 (Ins.self f152)) (g := (mkF m 140 #[.val (.int xa), .val (.int xb), .val (.int xc), .val (.int sel), .val (.int ((xa &&& (255 : Int32)).toUInt32.toUInt16.toUInt32.toInt32)), .val (.int ((((xa.toUInt32 >>> ((8 : Int32) &&& 31).toUInt32).toInt32) &&& (255 : Int32)).toUInt32.toUInt16.toUInt32.toInt32)), .val (.int ((xb &&& (255 : Int32)).toUInt32.toUInt16.toUInt32.toInt32)), .val (.int ((((xb.toUInt32 >>> ((8 : Int32) &&& 31).toUInt32).toInt32) &&& (255 : Int32)).toUInt32.toUInt16.toUInt32.toInt32)), .val (.int ((xc &&& (255 : Int32)).toUInt32.toUInt16.toUInt32.toInt32)), .val (.int ((((xc.toUInt32 >>> ((8 : Int32) &&& 31).toUInt32).toInt32) &&& (255 : Int32)).toUInt32.toUInt16.toUInt32.toInt32)), .val (.ref b1), .val (.ref b18), .val (.ref b54), .unset, .unset, .unset, .unset, .unset, .unset] [(.ref b18), (.int (1 : Int32)), (.ref b129), (.ref b129), (.ref b113), (.ref b113)])) rfl rfl (hb hby at_140)
  refine Go.st st161 ?_
  have f163 : Exa Z h161 b1 "java/lang/String" := f150.wr W161
  have f164 : Arv Z h161 b4 k4 .char (1 : Int32) [(.int (nar .char ((xa &&& (255 : Int32)).toUInt32.toUInt16.toUInt32.toInt32)))] (.int (0 : Int32)) := f151.other W161 ne131
  have f165 : Exa Z h161 b18 "java/lang/String" := f152.wr W161
  have f166 : Arv Z h161 b25 k25 .char (2 : Int32) [(.int (nar .char ((((xa.toUInt32 >>> ((8 : Int32) &&& 31).toUInt32).toInt32) &&& (255 : Int32)).toUInt32.toUInt16.toUInt32.toInt32))), (.int (nar .char ((xb &&& (255 : Int32)).toUInt32.toUInt16.toUInt32.toInt32)))] (.int (0 : Int32)) := f153.other W161 ne133
  have f167 : Exa Z h161 b54 "java/lang/String" := f154.wr W161
  have f168 : Arv Z h161 b65 k65 .char (3 : Int32) [(.int (nar .char ((((xb.toUInt32 >>> ((8 : Int32) &&& 31).toUInt32).toInt32) &&& (255 : Int32)).toUInt32.toUInt16.toUInt32.toInt32))), (.int (nar .char ((xc &&& (255 : Int32)).toUInt32.toUInt16.toUInt32.toInt32))), (.int (nar .char ((((xc.toUInt32 >>> ((8 : Int32) &&& 31).toUInt32).toInt32) &&& (255 : Int32)).toUInt32.toUInt16.toUInt32.toInt32)))] (.int (0 : Int32)) := f155.other W161 ne135
  have f169 : Exa Z h161 b113 "com/example/reportwire/reportwire/Arguments" := f156.wr W161
  have f170 : Fld Z h161 b113 "com/example/reportwire/reportwire/Arguments" "optionsGiven" "Ljava/util/Set;" .null := f157.other W161 (Or.inl ne136)
  have f171 : Fld Z h161 b113 "com/example/reportwire/reportwire/Arguments" "args" "[Ljava/lang/String;" .null := f158.other W161 (Or.inl ne136)
  have f172 : Fld Z h161 b113 "com/example/reportwire/reportwire/Arguments" "next" "I" (.int (0 : Int32)) := f159.other W161 (Or.inl ne136)
  have f173 : Exa Z h161 b129 "[Ljava/lang/String;" := f160.wr W161
  have O161 : Old Z n0 h161 := O148.wr W161 g_b129
  have N161 := Fr.snoc X161 N148 g_b129
  have f162 : Arv Z h161 b129 k129 (.object "java/lang/String") (3 : Int32) [(.ref b1), (.ref b18), .null] .null := Arv.set Ar161 qc161 Sz161 Nn161 Ha161 Gf161 rfl W161 1 rfl (Nat.le_of_ble_eq_true rfl)
  show Go p e below s _ _ _ (T161.setTop (mkF m 141 #[.val (.int xa), .val (.int xb), .val (.int xc), .val (.int sel), .val (.int ((xa &&& (255 : Int32)).toUInt32.toUInt16.toUInt32.toInt32)), .val (.int ((((xa.toUInt32 >>> ((8 : Int32) &&& 31).toUInt32).toInt32) &&& (255 : Int32)).toUInt32.toUInt16.toUInt32.toInt32)), .val (.int ((xb &&& (255 : Int32)).toUInt32.toUInt16.toUInt32.toInt32)), .val (.int ((((xb.toUInt32 >>> ((8 : Int32) &&& 31).toUInt32).toInt32) &&& (255 : Int32)).toUInt32.toUInt16.toUInt32.toInt32)), .val (.int ((xc &&& (255 : Int32)).toUInt32.toUInt16.toUInt32.toInt32)), .val (.int ((((xc.toUInt32 >>> ((8 : Int32) &&& 31).toUInt32).toInt32) &&& (255 : Int32)).toUInt32.toUInt16.toUInt32.toInt32)), .val (.ref b1), .val (.ref b18), .val (.ref b54), .unset, .unset, .unset, .unset, .unset, .unset] [(.ref b129), (.ref b113), (.ref b113)]))
  refine Go.st (fun _ k' => XS.dup X161.here hx rfl (hb hby at_141) rfl rfl k') ?_
  show Go p e below s _ _ _ (T161.setTop (mkF m 142 #[.val (.int xa), .val (.int xb), .val (.int xc), .val (.int sel), .val (.int ((xa &&& (255 : Int32)).toUInt32.toUInt16.toUInt32.toInt32)), .val (.int ((((xa.toUInt32 >>> ((8 : Int32) &&& 31).toUInt32).toInt32) &&& (255 : Int32)).toUInt32.toUInt16.toUInt32.toInt32)), .val (.int ((xb &&& (255 : Int32)).toUInt32.toUInt16.toUInt32.toInt32)), .val (.int ((((xb.toUInt32 >>> ((8 : Int32) &&& 31).toUInt32).toInt32) &&& (255 : Int32)).toUInt32.toUInt16.toUInt32.toInt32)), .val (.int ((xc &&& (255 : Int32)).toUInt32.toUInt16.toUInt32.toInt32)), .val (.int ((((xc.toUInt32 >>> ((8 : Int32) &&& 31).toUInt32).toInt32) &&& (255 : Int32)).toUInt32.toUInt16.toUInt32.toInt32)), .val (.ref b1), .val (.ref b18), .val (.ref b54), .unset, .unset, .unset, .unset, .unset, .unset] [(.ref b129), (.ref b129), (.ref b113), (.ref b113)]))
  refine Go.st (fun _ k' => XS.iconst X161.here hx rfl (hb hby at_142) k') ?_
  show Go p e below s _ _ _ (T161.setTop (mkF m 143 #[.val (.int xa), .val (.int xb), .val (.int xc), .val (.int sel), .val (.int ((xa &&& (255 : Int32)).toUInt32.toUInt16.toUInt32.toInt32)), .val (.int ((((xa.toUInt32 >>> ((8 : Int32) &&& 31).toUInt32).toInt32) &&& (255 : Int32)).toUInt32.toUInt16.toUInt32.toInt32)), .val (.int ((xb &&& (255 : Int32)).toUInt32.toUInt16.toUInt32.toInt32)), .val (.int ((((xb.toUInt32 >>> ((8 : Int32) &&& 31).toUInt32).toInt32) &&& (255 : Int32)).toUInt32.toUInt16.toUInt32.toInt32)), .val (.int ((xc &&& (255 : Int32)).toUInt32.toUInt16.toUInt32.toInt32)), .val (.int ((((xc.toUInt32 >>> ((8 : Int32) &&& 31).toUInt32).toInt32) &&& (255 : Int32)).toUInt32.toUInt16.toUInt32.toInt32)), .val (.ref b1), .val (.ref b18), .val (.ref b54), .unset, .unset, .unset, .unset, .unset, .unset] [(.int (2 : Int32)), (.ref b129), (.ref b129), (.ref b113), (.ref b113)]))
  refine Go.st (fun _ k' => XS.aload X161.here hx rfl (hb hby at_143) rfl rfl k') ?_
  show Go p e below s _ _ _ (T161.setTop (mkF m 145 #[.val (.int xa), .val (.int xb), .val (.int xc), .val (.int sel), .val (.int ((xa &&& (255 : Int32)).toUInt32.toUInt16.toUInt32.toInt32)), .val (.int ((((xa.toUInt32 >>> ((8 : Int32) &&& 31).toUInt32).toInt32) &&& (255 : Int32)).toUInt32.toUInt16.toUInt32.toInt32)), .val (.int ((xb &&& (255 : Int32)).toUInt32.toUInt16.toUInt32.toInt32)), .val (.int ((((xb.toUInt32 >>> ((8 : Int32) &&& 31).toUInt32).toInt32) &&& (255 : Int32)).toUInt32.toUInt16.toUInt32.toInt32)), .val (.int ((xc &&& (255 : Int32)).toUInt32.toUInt16.toUInt32.toInt32)), .val (.int ((((xc.toUInt32 >>> ((8 : Int32) &&& 31).toUInt32).toInt32) &&& (255 : Int32)).toUInt32.toUInt16.toUInt32.toInt32)), .val (.ref b1), .val (.ref b18), .val (.ref b54), .unset, .unset, .unset, .unset, .unset, .unset] [(.ref b54), (.int (2 : Int32)), (.ref b129), (.ref b129), (.ref b113), (.ref b113)]))
  have vz174 := f162
  obtain ⟨cl174, Ar174, qc174, Sz174, Nn174, Ha174, Gf174⟩ := id f162
  obtain ⟨T174, h174, X174, e174, W174, st174⟩ := stR X161 hx hZ e161 Ar174 (j := (2 : Int32)) (inb_of Sz174 ⟨by decide, by decide⟩) rfl (Sto.ofV Ar174 qc174 V129 (Ins.self f167)) (g := (mkF m 145 #[.val (.int xa), .val (.int xb), .val (.int xc), .val (.int sel), .val (.int ((xa &&& (255 : Int32)).toUInt32.toUInt16.toUInt32.toInt32)), .val (.int ((((xa.toUInt32 >>> ((8 : Int32) &&& 31).toUInt32).toInt32) &&& (255 : Int32)).toUInt32.toUInt16.toUInt32.toInt32)), .val (.int ((xb &&& (255 : Int32)).toUInt32.toUInt16.toUInt32.toInt32)), .val (.int ((((xb.toUInt32 >>> ((8 : Int32) &&& 31).toUInt32).toInt32) &&& (255 : Int32)).toUInt32.toUInt16.toUInt32.toInt32)), .val (.int ((xc &&& (255 : Int32)).toUInt32.toUInt16.toUInt32.toInt32)), .val (.int ((((xc.toUInt32 >>> ((8 : Int32) &&& 31).toUInt32).toInt32) &&& (255 : Int32)).toUInt32.toUInt16.toUInt32.toInt32)), .val (.ref b1), .val (.ref b18), .val (.ref b54), .unset, .unset, .unset, .unset, .unset, .unset] [(.ref b54), (.int (2 : Int32)), (.ref b129), (.ref b129), (.ref b113), (.ref b113)])) rfl rfl (hb hby at_145)
  refine Go.st st174 ?_
  have f176 : Exa Z h174 b1 "java/lang/String" := f163.wr W174
  have f177 : Arv Z h174 b4 k4 .char (1 : Int32) [(.int (nar .char ((xa &&& (255 : Int32)).toUInt32.toUInt16.toUInt32.toInt32)))] (.int (0 : Int32)) := f164.other W174 ne131
  have f178 : Exa Z h174 b18 "java/lang/String" := f165.wr W174
  have f179 : Arv Z h174 b25 k25 .char (2 : Int32) [(.int (nar .char ((((xa.toUInt32 >>> ((8 : Int32) &&& 31).toUInt32).toInt32) &&& (255 : Int32)).toUInt32.toUInt16.toUInt32.toInt32))), (.int (nar .char ((xb &&& (255 : Int32)).toUInt32.toUInt16.toUInt32.toInt32)))] (.int (0 : Int32)) := f166.other W174 ne133
  have f180 : Exa Z h174 b54 "java/lang/String" := f167.wr W174
  have f181 : Arv Z h174 b65 k65 .char (3 : Int32) [(.int (nar .char ((((xb.toUInt32 >>> ((8 : Int32) &&& 31).toUInt32).toInt32) &&& (255 : Int32)).toUInt32.toUInt16.toUInt32.toInt32))), (.int (nar .char ((xc &&& (255 : Int32)).toUInt32.toUInt16.toUInt32.toInt32))), (.int (nar .char ((((xc.toUInt32 >>> ((8 : Int32) &&& 31).toUInt32).toInt32) &&& (255 : Int32)).toUInt32.toUInt16.toUInt32.toInt32)))] (.int (0 : Int32)) := f168.other W174 ne135
  have f182 : Exa Z h174 b113 "com/example/reportwire/reportwire/Arguments" := f169.wr W174
  have f183 : Fld Z h174 b113 "com/example/reportwire/reportwire/Arguments" "optionsGiven" "Ljava/util/Set;" .null := f170.other W174 (Or.inl ne136)
  have f184 : Fld Z h174 b113 "com/example/reportwire/reportwire/Arguments" "args" "[Ljava/lang/String;" .null := f171.other W174 (Or.inl ne136)
  have f185 : Fld Z h174 b113 "com/example/reportwire/reportwire/Arguments" "next" "I" (.int (0 : Int32)) := f172.other W174 (Or.inl ne136)
  have f186 : Exa Z h174 b129 "[Ljava/lang/String;" := f173.wr W174
  have O174 : Old Z n0 h174 := O161.wr W174 g_b129
  have N174 := Fr.snoc X174 N161 g_b129
  have f175 : Arv Z h174 b129 k129 (.object "java/lang/String") (3 : Int32) [(.ref b1), (.ref b18), (.ref b54)] .null := Arv.set Ar174 qc174 Sz174 Nn174 Ha174 Gf174 rfl W174 2 rfl (Nat.le_of_ble_eq_true rfl)
  show Go p e below s _ _ _ (T174.setTop (mkF m 146 #[.val (.int xa), .val (.int xb), .val (.int xc), .val (.int sel), .val (.int ((xa &&& (255 : Int32)).toUInt32.toUInt16.toUInt32.toInt32)), .val (.int ((((xa.toUInt32 >>> ((8 : Int32) &&& 31).toUInt32).toInt32) &&& (255 : Int32)).toUInt32.toUInt16.toUInt32.toInt32)), .val (.int ((xb &&& (255 : Int32)).toUInt32.toUInt16.toUInt32.toInt32)), .val (.int ((((xb.toUInt32 >>> ((8 : Int32) &&& 31).toUInt32).toInt32) &&& (255 : Int32)).toUInt32.toUInt16.toUInt32.toInt32)), .val (.int ((xc &&& (255 : Int32)).toUInt32.toUInt16.toUInt32.toInt32)), .val (.int ((((xc.toUInt32 >>> ((8 : Int32) &&& 31).toUInt32).toInt32) &&& (255 : Int32)).toUInt32.toUInt16.toUInt32.toInt32)), .val (.ref b1), .val (.ref b18), .val (.ref b54), .unset, .unset, .unset, .unset, .unset, .unset] [(.ref b129), (.ref b113), (.ref b113)]))
  obtain ⟨_, _, ⟨T187, L187, k187, n187⟩, -, X187, ⟨Lc187, hQ187, l187, y187, z187⟩, st187⟩ := X174.specialBack hx (y := (⟨"com/example/reportwire/reportwire/Arguments", "<init>", "([Ljava/lang/String;)V"⟩ : MethodName)) rfl hown (mvT hZ (wdx hw 34 rfl)) (mvT hZ (wdx hw 35 rfl)) (mvT hZ (wdx hw 36 rfl)) (by decide) (backOf (W := 1) (rm7_3 l Z a0 hw [] b113 b129 k129 b1 b18 b54 h174 n0 O174 f182 f183 f184 f185 f186 f175 g_b113 ne136) hZ (wdx hw 36 rfl) (wdx hw 32 rfl) (by decide) (by decide)) (g := (mkF m 146 #[.val (.int xa), .val (.int xb), .val (.int xc), .val (.int sel), .val (.int ((xa &&& (255 : Int32)).toUInt32.toUInt16.toUInt32.toInt32)), .val (.int ((((xa.toUInt32 >>> ((8 : Int32) &&& 31).toUInt32).toInt32) &&& (255 : Int32)).toUInt32.toUInt16.toUInt32.toInt32)), .val (.int ((xb &&& (255 : Int32)).toUInt32.toUInt16.toUInt32.toInt32)), .val (.int ((((xb.toUInt32 >>> ((8 : Int32) &&& 31).toUInt32).toInt32) &&& (255 : Int32)).toUInt32.toUInt16.toUInt32.toInt32)), .val (.int ((xc &&& (255 : Int32)).toUInt32.toUInt16.toUInt32.toInt32)), .val (.int ((((xc.toUInt32 >>> ((8 : Int32) &&& 31).toUInt32).toInt32) &&& (255 : Int32)).toUInt32.toUInt16.toUInt32.toInt32)), .val (.ref b1), .val (.ref b18), .val (.ref b54), .unset, .unset, .unset, .unset, .unset, .unset] [(.ref b129), (.ref b113), (.ref b113)])) rfl (by rw [hml]; rfl) (Steps.refl _) (a := b113) (argsL := [(.ref b129)]) (rest := [(.ref b113)]) (lenOf pd___Ljava_lang_String__V rfl) rfl (by show 2 * 0 + _ ≤ _; exact Nat.le_of_eq rfl) (hb hby at_146) (fun _ _ => ⟨rfl, e174, (by exact Nat.le_of_ble_eq_true rfl), (by exact Nat.le_of_ble_eq_true rfl)⟩)
  dsimp only [Pt.U, Pt.locs, Pt.cells, Pt.slots] at X187 l187 y187 z187 st187 hQ187
  subst l187 y187 z187
  obtain ⟨na_187, kn_187, rfl, Nq187, Kq187, f188, f189, f190, szn_187⟩ := hQ187
  have N187 := Fr.app N174 Nq187
  refine Go.tr st187 ?_
  have f191 : Exa Z T187.heap b1 "java/lang/String" := f176.keep Kq187
  have f192 : Arv Z T187.heap b4 k4 .char (1 : Int32) [(.int (nar .char ((xa &&& (255 : Int32)).toUInt32.toUInt16.toUInt32.toInt32)))] (.int (0 : Int32)) := f177.keep Kq187 (ninS ne115 nin0)
  have f193 : Exa Z T187.heap b18 "java/lang/String" := f178.keep Kq187
  have f194 : Arv Z T187.heap b25 k25 .char (2 : Int32) [(.int (nar .char ((((xa.toUInt32 >>> ((8 : Int32) &&& 31).toUInt32).toInt32) &&& (255 : Int32)).toUInt32.toUInt16.toUInt32.toInt32))), (.int (nar .char ((xb &&& (255 : Int32)).toUInt32.toUInt16.toUInt32.toInt32)))] (.int (0 : Int32)) := f179.keep Kq187 (ninS ne117 nin0)
  have f195 : Exa Z T187.heap b54 "java/lang/String" := f180.keep Kq187
  have f196 : Arv Z T187.heap b65 k65 .char (3 : Int32) [(.int (nar .char ((((xb.toUInt32 >>> ((8 : Int32) &&& 31).toUInt32).toInt32) &&& (255 : Int32)).toUInt32.toUInt16.toUInt32.toInt32))), (.int (nar .char ((xc &&& (255 : Int32)).toUInt32.toUInt16.toUInt32.toInt32))), (.int (nar .char ((((xc.toUInt32 >>> ((8 : Int32) &&& 31).toUInt32).toInt32) &&& (255 : Int32)).toUInt32.toUInt16.toUInt32.toInt32)))] (.int (0 : Int32)) := f181.keep Kq187 (ninS ne119 nin0)
  have f197 : Exa Z T187.heap b113 "com/example/reportwire/reportwire/Arguments" := f182.keep Kq187
  have f198 : Exa Z T187.heap b129 "[Ljava/lang/String;" := f186.keep Kq187
  have f199 : Arv Z T187.heap b129 k129 (.object "java/lang/String") (3 : Int32) [(.ref b1), (.ref b18), (.ref b54)] .null := f175.keep Kq187 (ninS (Ne.symm ne136) nin0)
  have O187 : Old Z n0 T187.heap := O174.keep Kq187 (allS g_b113 all0)
  have g_na_187 : n0 ≤ na_187 := Nat.le_trans (own_le O174) szn_187
  have ne200 : b1 ≠ na_187 := Nat.ne_of_lt (Nat.lt_of_lt_of_le f176.lt szn_187)
  have ne201 : b4 ≠ na_187 := Nat.ne_of_lt (Nat.lt_of_lt_of_le f177.lt szn_187)
  have ne202 : b18 ≠ na_187 := Nat.ne_of_lt (Nat.lt_of_lt_of_le f178.lt szn_187)
  have ne203 : b25 ≠ na_187 := Nat.ne_of_lt (Nat.lt_of_lt_of_le f179.lt szn_187)
  have ne204 : b54 ≠ na_187 := Nat.ne_of_lt (Nat.lt_of_lt_of_le f180.lt szn_187)
  have ne205 : b65 ≠ na_187 := Nat.ne_of_lt (Nat.lt_of_lt_of_le f181.lt szn_187)
  have ne206 : b113 ≠ na_187 := Nat.ne_of_lt (Nat.lt_of_lt_of_le f182.lt szn_187)
  have ne207 : b129 ≠ na_187 := Nat.ne_of_lt (Nat.lt_of_lt_of_le f186.lt szn_187)
  show Go p e below s _ _ _ (T187.setTop (mkF m 149 #[.val (.int xa), .val (.int xb), .val (.int xc), .val (.int sel), .val (.int ((xa &&& (255 : Int32)).toUInt32.toUInt16.toUInt32.toInt32)), .val (.int ((((xa.toUInt32 >>> ((8 : Int32) &&& 31).toUInt32).toInt32) &&& (255 : Int32)).toUInt32.toUInt16.toUInt32.toInt32)), .val (.int ((xb &&& (255 : Int32)).toUInt32.toUInt16.toUInt32.toInt32)), .val (.int ((((xb.toUInt32 >>> ((8 : Int32) &&& 31).toUInt32).toInt32) &&& (255 : Int32)).toUInt32.toUInt16.toUInt32.toInt32)), .val (.int ((xc &&& (255 : Int32)).toUInt32.toUInt16.toUInt32.toInt32)), .val (.int ((((xc.toUInt32 >>> ((8 : Int32) &&& 31).toUInt32).toInt32) &&& (255 : Int32)).toUInt32.toUInt16.toUInt32.toInt32)), .val (.ref b1), .val (.ref b18), .val (.ref b54), .unset, .unset, .unset, .unset, .unset, .unset] [(.ref b113)]))
  refine Go.st (fun _ k' => XS.astore X187.here hx rfl (hb hby at_149) rfl rfl (l' := #[.val (.int xa), .val (.int xb), .val (.int xc), .val (.int sel), .val (.int ((xa &&& (255 : Int32)).toUInt32.toUInt16.toUInt32.toInt32)), .val (.int ((((xa.toUInt32 >>> ((8 : Int32) &&& 31).toUInt32).toInt32) &&& (255 : Int32)).toUInt32.toUInt16.toUInt32.toInt32)), .val (.int ((xb &&& (255 : Int32)).toUInt32.toUInt16.toUInt32.toInt32)), .val (.int ((((xb.toUInt32 >>> ((8 : Int32) &&& 31).toUInt32).toInt32) &&& (255 : Int32)).toUInt32.toUInt16.toUInt32.toInt32)), .val (.int ((xc &&& (255 : Int32)).toUInt32.toUInt16.toUInt32.toInt32)), .val (.int ((((xc.toUInt32 >>> ((8 : Int32) &&& 31).toUInt32).toInt32) &&& (255 : Int32)).toUInt32.toUInt16.toUInt32.toInt32)), .val (.ref b1), .val (.ref b18), .val (.ref b54), .val (.ref b113), .unset, .unset, .unset, .unset, .unset]) rfl k') ?_
  show Go p e below s _ _ _ (T187.setTop (mkF m 151 #[.val (.int xa), .val (.int xb), .val (.int xc), .val (.int sel), .val (.int ((xa &&& (255 : Int32)).toUInt32.toUInt16.toUInt32.toInt32)), .val (.int ((((xa.toUInt32 >>> ((8 : Int32) &&& 31).toUInt32).toInt32) &&& (255 : Int32)).toUInt32.toUInt16.toUInt32.toInt32)), .val (.int ((xb &&& (255 : Int32)).toUInt32.toUInt16.toUInt32.toInt32)), .val (.int ((((xb.toUInt32 >>> ((8 : Int32) &&& 31).toUInt32).toInt32) &&& (255 : Int32)).toUInt32.toUInt16.toUInt32.toInt32)), .val (.int ((xc &&& (255 : Int32)).toUInt32.toUInt16.toUInt32.toInt32)), .val (.int ((((xc.toUInt32 >>> ((8 : Int32) &&& 31).toUInt32).toInt32) &&& (255 : Int32)).toUInt32.toUInt16.toUInt32.toInt32)), .val (.ref b1), .val (.ref b18), .val (.ref b54), .val (.ref b113), .unset, .unset, .unset, .unset, .unset] []))
  refine Go.st (fun _ k' => XS.iloadN X187.here hx rfl (hb hby at_151) rfl k') ?_
  show Go p e below s _ _ _ (T187.setTop (mkF m 152 #[.val (.int xa), .val (.int xb), .val (.int xc), .val (.int sel), .val (.int ((xa &&& (255 : Int32)).toUInt32.toUInt16.toUInt32.toInt32)), .val (.int ((((xa.toUInt32 >>> ((8 : Int32) &&& 31).toUInt32).toInt32) &&& (255 : Int32)).toUInt32.toUInt16.toUInt32.toInt32)), .val (.int ((xb &&& (255 : Int32)).toUInt32.toUInt16.toUInt32.toInt32)), .val (.int ((((xb.toUInt32 >>> ((8 : Int32) &&& 31).toUInt32).toInt32) &&& (255 : Int32)).toUInt32.toUInt16.toUInt32.toInt32)), .val (.int ((xc &&& (255 : Int32)).toUInt32.toUInt16.toUInt32.toInt32)), .val (.int ((((xc.toUInt32 >>> ((8 : Int32) &&& 31).toUInt32).toInt32) &&& (255 : Int32)).toUInt32.toUInt16.toUInt32.toInt32)), .val (.ref b1), .val (.ref b18), .val (.ref b54), .val (.ref b113), .unset, .unset, .unset, .unset, .unset] [(.int sel)]))
  refine Go.st (fun _ k' => X187.ldcI hx hown (mvT hZ (wdx hw 89 rfl)) rfl (hb hby at_152) k') ?_
  show Go p e below s _ _ _ (T187.setTop (mkF m 154 #[.val (.int xa), .val (.int xb), .val (.int xc), .val (.int sel), .val (.int ((xa &&& (255 : Int32)).toUInt32.toUInt16.toUInt32.toInt32)), .val (.int ((((xa.toUInt32 >>> ((8 : Int32) &&& 31).toUInt32).toInt32) &&& (255 : Int32)).toUInt32.toUInt16.toUInt32.toInt32)), .val (.int ((xb &&& (255 : Int32)).toUInt32.toUInt16.toUInt32.toInt32)), .val (.int ((((xb.toUInt32 >>> ((8 : Int32) &&& 31).toUInt32).toInt32) &&& (255 : Int32)).toUInt32.toUInt16.toUInt32.toInt32)), .val (.int ((xc &&& (255 : Int32)).toUInt32.toUInt16.toUInt32.toInt32)), .val (.int ((((xc.toUInt32 >>> ((8 : Int32) &&& 31).toUInt32).toInt32) &&& (255 : Int32)).toUInt32.toUInt16.toUInt32.toInt32)), .val (.ref b1), .val (.ref b18), .val (.ref b54), .val (.ref b113), .unset, .unset, .unset, .unset, .unset] [(.int (2147483647 : Int32)), (.int sel)]))
  refine Go.st (fun _ k' => XS.iand X187.here hx rfl (hb hby at_154) rfl k') ?_
  show Go p e below s _ _ _ (T187.setTop (mkF m 155 #[.val (.int xa), .val (.int xb), .val (.int xc), .val (.int sel), .val (.int ((xa &&& (255 : Int32)).toUInt32.toUInt16.toUInt32.toInt32)), .val (.int ((((xa.toUInt32 >>> ((8 : Int32) &&& 31).toUInt32).toInt32) &&& (255 : Int32)).toUInt32.toUInt16.toUInt32.toInt32)), .val (.int ((xb &&& (255 : Int32)).toUInt32.toUInt16.toUInt32.toInt32)), .val (.int ((((xb.toUInt32 >>> ((8 : Int32) &&& 31).toUInt32).toInt32) &&& (255 : Int32)).toUInt32.toUInt16.toUInt32.toInt32)), .val (.int ((xc &&& (255 : Int32)).toUInt32.toUInt16.toUInt32.toInt32)), .val (.int ((((xc.toUInt32 >>> ((8 : Int32) &&& 31).toUInt32).toInt32) &&& (255 : Int32)).toUInt32.toUInt16.toUInt32.toInt32)), .val (.ref b1), .val (.ref b18), .val (.ref b54), .val (.ref b113), .unset, .unset, .unset, .unset, .unset] [(.int (sel &&& (2147483647 : Int32)))]))
  refine Go.st (fun _ k' => XS.iconst X187.here hx rfl (hb hby at_155) k') ?_
  show Go p e below s _ _ _ (T187.setTop (mkF m 156 #[.val (.int xa), .val (.int xb), .val (.int xc), .val (.int sel), .val (.int ((xa &&& (255 : Int32)).toUInt32.toUInt16.toUInt32.toInt32)), .val (.int ((((xa.toUInt32 >>> ((8 : Int32) &&& 31).toUInt32).toInt32) &&& (255 : Int32)).toUInt32.toUInt16.toUInt32.toInt32)), .val (.int ((xb &&& (255 : Int32)).toUInt32.toUInt16.toUInt32.toInt32)), .val (.int ((((xb.toUInt32 >>> ((8 : Int32) &&& 31).toUInt32).toInt32) &&& (255 : Int32)).toUInt32.toUInt16.toUInt32.toInt32)), .val (.int ((xc &&& (255 : Int32)).toUInt32.toUInt16.toUInt32.toInt32)), .val (.int ((((xc.toUInt32 >>> ((8 : Int32) &&& 31).toUInt32).toInt32) &&& (255 : Int32)).toUInt32.toUInt16.toUInt32.toInt32)), .val (.ref b1), .val (.ref b18), .val (.ref b54), .val (.ref b113), .unset, .unset, .unset, .unset, .unset] [(.int (4 : Int32)), (.int (sel &&& (2147483647 : Int32)))]))
  refine Go.st (fun _ k' => iremM X187 hx rfl (hb hby at_156) rfl (by decide) k') ?_
  show Go p e below s _ _ _ (T187.setTop (mkF m 157 #[.val (.int xa), .val (.int xb), .val (.int xc), .val (.int sel), .val (.int ((xa &&& (255 : Int32)).toUInt32.toUInt16.toUInt32.toInt32)), .val (.int ((((xa.toUInt32 >>> ((8 : Int32) &&& 31).toUInt32).toInt32) &&& (255 : Int32)).toUInt32.toUInt16.toUInt32.toInt32)), .val (.int ((xb &&& (255 : Int32)).toUInt32.toUInt16.toUInt32.toInt32)), .val (.int ((((xb.toUInt32 >>> ((8 : Int32) &&& 31).toUInt32).toInt32) &&& (255 : Int32)).toUInt32.toUInt16.toUInt32.toInt32)), .val (.int ((xc &&& (255 : Int32)).toUInt32.toUInt16.toUInt32.toInt32)), .val (.int ((((xc.toUInt32 >>> ((8 : Int32) &&& 31).toUInt32).toInt32) &&& (255 : Int32)).toUInt32.toUInt16.toUInt32.toInt32)), .val (.ref b1), .val (.ref b18), .val (.ref b54), .val (.ref b113), .unset, .unset, .unset, .unset, .unset] [(.int ((sel &&& (2147483647 : Int32)) % (4 : Int32)))]))
  refine Go.st (fun _ k' => XS.istore X187.here hx rfl (hb hby at_157) rfl (l' := #[.val (.int xa), .val (.int xb), .val (.int xc), .val (.int sel), .val (.int ((xa &&& (255 : Int32)).toUInt32.toUInt16.toUInt32.toInt32)), .val (.int ((((xa.toUInt32 >>> ((8 : Int32) &&& 31).toUInt32).toInt32) &&& (255 : Int32)).toUInt32.toUInt16.toUInt32.toInt32)), .val (.int ((xb &&& (255 : Int32)).toUInt32.toUInt16.toUInt32.toInt32)), .val (.int ((((xb.toUInt32 >>> ((8 : Int32) &&& 31).toUInt32).toInt32) &&& (255 : Int32)).toUInt32.toUInt16.toUInt32.toInt32)), .val (.int ((xc &&& (255 : Int32)).toUInt32.toUInt16.toUInt32.toInt32)), .val (.int ((((xc.toUInt32 >>> ((8 : Int32) &&& 31).toUInt32).toInt32) &&& (255 : Int32)).toUInt32.toUInt16.toUInt32.toInt32)), .val (.ref b1), .val (.ref b18), .val (.ref b54), .val (.ref b113), .val (.int ((sel &&& (2147483647 : Int32)) % (4 : Int32))), .unset, .unset, .unset, .unset]) rfl k') ?_
  show Go p e below s _ _ _ (T187.setTop (mkF m 159 #[.val (.int xa), .val (.int xb), .val (.int xc), .val (.int sel), .val (.int ((xa &&& (255 : Int32)).toUInt32.toUInt16.toUInt32.toInt32)), .val (.int ((((xa.toUInt32 >>> ((8 : Int32) &&& 31).toUInt32).toInt32) &&& (255 : Int32)).toUInt32.toUInt16.toUInt32.toInt32)), .val (.int ((xb &&& (255 : Int32)).toUInt32.toUInt16.toUInt32.toInt32)), .val (.int ((((xb.toUInt32 >>> ((8 : Int32) &&& 31).toUInt32).toInt32) &&& (255 : Int32)).toUInt32.toUInt16.toUInt32.toInt32)), .val (.int ((xc &&& (255 : Int32)).toUInt32.toUInt16.toUInt32.toInt32)), .val (.int ((((xc.toUInt32 >>> ((8 : Int32) &&& 31).toUInt32).toInt32) &&& (255 : Int32)).toUInt32.toUInt16.toUInt32.toInt32)), .val (.ref b1), .val (.ref b18), .val (.ref b54), .val (.ref b113), .val (.int ((sel &&& (2147483647 : Int32)) % (4 : Int32))), .unset, .unset, .unset, .unset] []))
  rcases own_k4 sel with hi | hi | hi | hi
  · rw [hi]
    show Go p e below s _ _ _ (T187.setTop (mkF m 159 #[.val (.int xa), .val (.int xb), .val (.int xc), .val (.int sel), .val (.int ((xa &&& (255 : Int32)).toUInt32.toUInt16.toUInt32.toInt32)), .val (.int ((((xa.toUInt32 >>> ((8 : Int32) &&& 31).toUInt32).toInt32) &&& (255 : Int32)).toUInt32.toUInt16.toUInt32.toInt32)), .val (.int ((xb &&& (255 : Int32)).toUInt32.toUInt16.toUInt32.toInt32)), .val (.int ((((xb.toUInt32 >>> ((8 : Int32) &&& 31).toUInt32).toInt32) &&& (255 : Int32)).toUInt32.toUInt16.toUInt32.toInt32)), .val (.int ((xc &&& (255 : Int32)).toUInt32.toUInt16.toUInt32.toInt32)), .val (.int ((((xc.toUInt32 >>> ((8 : Int32) &&& 31).toUInt32).toInt32) &&& (255 : Int32)).toUInt32.toUInt16.toUInt32.toInt32)), .val (.ref b1), .val (.ref b18), .val (.ref b54), .val (.ref b113), .val (.int (0 : Int32)), .unset, .unset, .unset, .unset] []))
    refine Go.st (fun _ k' => XS.aload X187.here hx rfl (hb hby at_159) rfl rfl k') ?_
    show Go p e below s _ _ _ (T187.setTop (mkF m 161 #[.val (.int xa), .val (.int xb), .val (.int xc), .val (.int sel), .val (.int ((xa &&& (255 : Int32)).toUInt32.toUInt16.toUInt32.toInt32)), .val (.int ((((xa.toUInt32 >>> ((8 : Int32) &&& 31).toUInt32).toInt32) &&& (255 : Int32)).toUInt32.toUInt16.toUInt32.toInt32)), .val (.int ((xb &&& (255 : Int32)).toUInt32.toUInt16.toUInt32.toInt32)), .val (.int ((((xb.toUInt32 >>> ((8 : Int32) &&& 31).toUInt32).toInt32) &&& (255 : Int32)).toUInt32.toUInt16.toUInt32.toInt32)), .val (.int ((xc &&& (255 : Int32)).toUInt32.toUInt16.toUInt32.toInt32)), .val (.int ((((xc.toUInt32 >>> ((8 : Int32) &&& 31).toUInt32).toInt32) &&& (255 : Int32)).toUInt32.toUInt16.toUInt32.toInt32)), .val (.ref b1), .val (.ref b18), .val (.ref b54), .val (.ref b113), .val (.int (0 : Int32)), .unset, .unset, .unset, .unset] [(.ref b1)]))
    refine Go.st (fun _ k' => XS.astore X187.here hx rfl (hb hby at_161) rfl rfl (l' := #[.val (.int xa), .val (.int xb), .val (.int xc), .val (.int sel), .val (.int ((xa &&& (255 : Int32)).toUInt32.toUInt16.toUInt32.toInt32)), .val (.int ((((xa.toUInt32 >>> ((8 : Int32) &&& 31).toUInt32).toInt32) &&& (255 : Int32)).toUInt32.toUInt16.toUInt32.toInt32)), .val (.int ((xb &&& (255 : Int32)).toUInt32.toUInt16.toUInt32.toInt32)), .val (.int ((((xb.toUInt32 >>> ((8 : Int32) &&& 31).toUInt32).toInt32) &&& (255 : Int32)).toUInt32.toUInt16.toUInt32.toInt32)), .val (.int ((xc &&& (255 : Int32)).toUInt32.toUInt16.toUInt32.toInt32)), .val (.int ((((xc.toUInt32 >>> ((8 : Int32) &&& 31).toUInt32).toInt32) &&& (255 : Int32)).toUInt32.toUInt16.toUInt32.toInt32)), .val (.ref b1), .val (.ref b18), .val (.ref b54), .val (.ref b113), .val (.int (0 : Int32)), .val (.ref b1), .unset, .unset, .unset]) rfl k') ?_
    show Go p e below s _ _ _ (T187.setTop (mkF m 163 #[.val (.int xa), .val (.int xb), .val (.int xc), .val (.int sel), .val (.int ((xa &&& (255 : Int32)).toUInt32.toUInt16.toUInt32.toInt32)), .val (.int ((((xa.toUInt32 >>> ((8 : Int32) &&& 31).toUInt32).toInt32) &&& (255 : Int32)).toUInt32.toUInt16.toUInt32.toInt32)), .val (.int ((xb &&& (255 : Int32)).toUInt32.toUInt16.toUInt32.toInt32)), .val (.int ((((xb.toUInt32 >>> ((8 : Int32) &&& 31).toUInt32).toInt32) &&& (255 : Int32)).toUInt32.toUInt16.toUInt32.toInt32)), .val (.int ((xc &&& (255 : Int32)).toUInt32.toUInt16.toUInt32.toInt32)), .val (.int ((((xc.toUInt32 >>> ((8 : Int32) &&& 31).toUInt32).toInt32) &&& (255 : Int32)).toUInt32.toUInt16.toUInt32.toInt32)), .val (.ref b1), .val (.ref b18), .val (.ref b54), .val (.ref b113), .val (.int (0 : Int32)), .val (.ref b1), .unset, .unset, .unset] []))
    refine Go.st (fun _ k' => XS.iload X187.here hx rfl (hb hby at_163) rfl k') ?_
    show Go p e below s _ _ _ (T187.setTop (mkF m 165 #[.val (.int xa), .val (.int xb), .val (.int xc), .val (.int sel), .val (.int ((xa &&& (255 : Int32)).toUInt32.toUInt16.toUInt32.toInt32)), .val (.int ((((xa.toUInt32 >>> ((8 : Int32) &&& 31).toUInt32).toInt32) &&& (255 : Int32)).toUInt32.toUInt16.toUInt32.toInt32)), .val (.int ((xb &&& (255 : Int32)).toUInt32.toUInt16.toUInt32.toInt32)), .val (.int ((((xb.toUInt32 >>> ((8 : Int32) &&& 31).toUInt32).toInt32) &&& (255 : Int32)).toUInt32.toUInt16.toUInt32.toInt32)), .val (.int ((xc &&& (255 : Int32)).toUInt32.toUInt16.toUInt32.toInt32)), .val (.int ((((xc.toUInt32 >>> ((8 : Int32) &&& 31).toUInt32).toInt32) &&& (255 : Int32)).toUInt32.toUInt16.toUInt32.toInt32)), .val (.ref b1), .val (.ref b18), .val (.ref b54), .val (.ref b113), .val (.int (0 : Int32)), .val (.ref b1), .unset, .unset, .unset] [(.int (0 : Int32))]))
    refine Go.st (fun _ k' => XS.iconst X187.here hx rfl (hb hby at_165) k') ?_
    show Go p e below s _ _ _ (T187.setTop (mkF m 166 #[.val (.int xa), .val (.int xb), .val (.int xc), .val (.int sel), .val (.int ((xa &&& (255 : Int32)).toUInt32.toUInt16.toUInt32.toInt32)), .val (.int ((((xa.toUInt32 >>> ((8 : Int32) &&& 31).toUInt32).toInt32) &&& (255 : Int32)).toUInt32.toUInt16.toUInt32.toInt32)), .val (.int ((xb &&& (255 : Int32)).toUInt32.toUInt16.toUInt32.toInt32)), .val (.int ((((xb.toUInt32 >>> ((8 : Int32) &&& 31).toUInt32).toInt32) &&& (255 : Int32)).toUInt32.toUInt16.toUInt32.toInt32)), .val (.int ((xc &&& (255 : Int32)).toUInt32.toUInt16.toUInt32.toInt32)), .val (.int ((((xc.toUInt32 >>> ((8 : Int32) &&& 31).toUInt32).toInt32) &&& (255 : Int32)).toUInt32.toUInt16.toUInt32.toInt32)), .val (.ref b1), .val (.ref b18), .val (.ref b54), .val (.ref b113), .val (.int (0 : Int32)), .val (.ref b1), .unset, .unset, .unset] [(.int (1 : Int32)), (.int (0 : Int32))]))
    refine Go.st (fun _ k' => XS.icmpYes X187.here hx rfl (pc0 := 166) (pc' := 173) rfl (hb hby at_166) rfl (XT.ii_ne_t (by decide)) (by decide) (by decide) k') ?_
    show Go p e below s _ _ _ (T187.setTop (mkF m 173 #[.val (.int xa), .val (.int xb), .val (.int xc), .val (.int sel), .val (.int ((xa &&& (255 : Int32)).toUInt32.toUInt16.toUInt32.toInt32)), .val (.int ((((xa.toUInt32 >>> ((8 : Int32) &&& 31).toUInt32).toInt32) &&& (255 : Int32)).toUInt32.toUInt16.toUInt32.toInt32)), .val (.int ((xb &&& (255 : Int32)).toUInt32.toUInt16.toUInt32.toInt32)), .val (.int ((((xb.toUInt32 >>> ((8 : Int32) &&& 31).toUInt32).toInt32) &&& (255 : Int32)).toUInt32.toUInt16.toUInt32.toInt32)), .val (.int ((xc &&& (255 : Int32)).toUInt32.toUInt16.toUInt32.toInt32)), .val (.int ((((xc.toUInt32 >>> ((8 : Int32) &&& 31).toUInt32).toInt32) &&& (255 : Int32)).toUInt32.toUInt16.toUInt32.toInt32)), .val (.ref b1), .val (.ref b18), .val (.ref b54), .val (.ref b113), .val (.int (0 : Int32)), .val (.ref b1), .unset, .unset, .unset] []))
    refine Go.st (fun _ k' => XS.iload X187.here hx rfl (hb hby at_173) rfl k') ?_
    show Go p e below s _ _ _ (T187.setTop (mkF m 175 #[.val (.int xa), .val (.int xb), .val (.int xc), .val (.int sel), .val (.int ((xa &&& (255 : Int32)).toUInt32.toUInt16.toUInt32.toInt32)), .val (.int ((((xa.toUInt32 >>> ((8 : Int32) &&& 31).toUInt32).toInt32) &&& (255 : Int32)).toUInt32.toUInt16.toUInt32.toInt32)), .val (.int ((xb &&& (255 : Int32)).toUInt32.toUInt16.toUInt32.toInt32)), .val (.int ((((xb.toUInt32 >>> ((8 : Int32) &&& 31).toUInt32).toInt32) &&& (255 : Int32)).toUInt32.toUInt16.toUInt32.toInt32)), .val (.int ((xc &&& (255 : Int32)).toUInt32.toUInt16.toUInt32.toInt32)), .val (.int ((((xc.toUInt32 >>> ((8 : Int32) &&& 31).toUInt32).toInt32) &&& (255 : Int32)).toUInt32.toUInt16.toUInt32.toInt32)), .val (.ref b1), .val (.ref b18), .val (.ref b54), .val (.ref b113), .val (.int (0 : Int32)), .val (.ref b1), .unset, .unset, .unset] [(.int (0 : Int32))]))
    refine Go.st (fun _ k' => XS.iconst X187.here hx rfl (hb hby at_175) k') ?_
    show Go p e below s _ _ _ (T187.setTop (mkF m 176 #[.val (.int xa), .val (.int xb), .val (.int xc), .val (.int sel), .val (.int ((xa &&& (255 : Int32)).toUInt32.toUInt16.toUInt32.toInt32)), .val (.int ((((xa.toUInt32 >>> ((8 : Int32) &&& 31).toUInt32).toInt32) &&& (255 : Int32)).toUInt32.toUInt16.toUInt32.toInt32)), .val (.int ((xb &&& (255 : Int32)).toUInt32.toUInt16.toUInt32.toInt32)), .val (.int ((((xb.toUInt32 >>> ((8 : Int32) &&& 31).toUInt32).toInt32) &&& (255 : Int32)).toUInt32.toUInt16.toUInt32.toInt32)), .val (.int ((xc &&& (255 : Int32)).toUInt32.toUInt16.toUInt32.toInt32)), .val (.int ((((xc.toUInt32 >>> ((8 : Int32) &&& 31).toUInt32).toInt32) &&& (255 : Int32)).toUInt32.toUInt16.toUInt32.toInt32)), .val (.ref b1), .val (.ref b18), .val (.ref b54), .val (.ref b113), .val (.int (0 : Int32)), .val (.ref b1), .unset, .unset, .unset] [(.int (2 : Int32)), (.int (0 : Int32))]))
    refine Go.st (fun _ k' => XS.icmpYes X187.here hx rfl (pc0 := 176) (pc' := 183) rfl (hb hby at_176) rfl (XT.ii_ne_t (by decide)) (by decide) (by decide) k') ?_
    show Go p e below s _ _ _ (T187.setTop (mkF m 183 #[.val (.int xa), .val (.int xb), .val (.int xc), .val (.int sel), .val (.int ((xa &&& (255 : Int32)).toUInt32.toUInt16.toUInt32.toInt32)), .val (.int ((((xa.toUInt32 >>> ((8 : Int32) &&& 31).toUInt32).toInt32) &&& (255 : Int32)).toUInt32.toUInt16.toUInt32.toInt32)), .val (.int ((xb &&& (255 : Int32)).toUInt32.toUInt16.toUInt32.toInt32)), .val (.int ((((xb.toUInt32 >>> ((8 : Int32) &&& 31).toUInt32).toInt32) &&& (255 : Int32)).toUInt32.toUInt16.toUInt32.toInt32)), .val (.int ((xc &&& (255 : Int32)).toUInt32.toUInt16.toUInt32.toInt32)), .val (.int ((((xc.toUInt32 >>> ((8 : Int32) &&& 31).toUInt32).toInt32) &&& (255 : Int32)).toUInt32.toUInt16.toUInt32.toInt32)), .val (.ref b1), .val (.ref b18), .val (.ref b54), .val (.ref b113), .val (.int (0 : Int32)), .val (.ref b1), .unset, .unset, .unset] []))
    refine Go.st (fun _ k' => XS.iload X187.here hx rfl (hb hby at_183) rfl k') ?_
    show Go p e below s _ _ _ (T187.setTop (mkF m 185 #[.val (.int xa), .val (.int xb), .val (.int xc), .val (.int sel), .val (.int ((xa &&& (255 : Int32)).toUInt32.toUInt16.toUInt32.toInt32)), .val (.int ((((xa.toUInt32 >>> ((8 : Int32) &&& 31).toUInt32).toInt32) &&& (255 : Int32)).toUInt32.toUInt16.toUInt32.toInt32)), .val (.int ((xb &&& (255 : Int32)).toUInt32.toUInt16.toUInt32.toInt32)), .val (.int ((((xb.toUInt32 >>> ((8 : Int32) &&& 31).toUInt32).toInt32) &&& (255 : Int32)).toUInt32.toUInt16.toUInt32.toInt32)), .val (.int ((xc &&& (255 : Int32)).toUInt32.toUInt16.toUInt32.toInt32)), .val (.int ((((xc.toUInt32 >>> ((8 : Int32) &&& 31).toUInt32).toInt32) &&& (255 : Int32)).toUInt32.toUInt16.toUInt32.toInt32)), .val (.ref b1), .val (.ref b18), .val (.ref b54), .val (.ref b113), .val (.int (0 : Int32)), .val (.ref b1), .unset, .unset, .unset] [(.int (0 : Int32))]))
    refine Go.st (fun _ k' => XS.iconst X187.here hx rfl (hb hby at_185) k') ?_
    show Go p e below s _ _ _ (T187.setTop (mkF m 186 #[.val (.int xa), .val (.int xb), .val (.int xc), .val (.int sel), .val (.int ((xa &&& (255 : Int32)).toUInt32.toUInt16.toUInt32.toInt32)), .val (.int ((((xa.toUInt32 >>> ((8 : Int32) &&& 31).toUInt32).toInt32) &&& (255 : Int32)).toUInt32.toUInt16.toUInt32.toInt32)), .val (.int ((xb &&& (255 : Int32)).toUInt32.toUInt16.toUInt32.toInt32)), .val (.int ((((xb.toUInt32 >>> ((8 : Int32) &&& 31).toUInt32).toInt32) &&& (255 : Int32)).toUInt32.toUInt16.toUInt32.toInt32)), .val (.int ((xc &&& (255 : Int32)).toUInt32.toUInt16.toUInt32.toInt32)), .val (.int ((((xc.toUInt32 >>> ((8 : Int32) &&& 31).toUInt32).toInt32) &&& (255 : Int32)).toUInt32.toUInt16.toUInt32.toInt32)), .val (.ref b1), .val (.ref b18), .val (.ref b54), .val (.ref b113), .val (.int (0 : Int32)), .val (.ref b1), .unset, .unset, .unset] [(.int (1 : Int32)), (.int (0 : Int32))]))
    refine Go.st (fun _ k' => XS.icmpYes X187.here hx rfl (pc0 := 186) (pc' := 195) rfl (hb hby at_186) rfl (XT.ii_lt_t (by decide)) (by decide) (by decide) k') ?_
    show Go p e below s _ _ _ (T187.setTop (mkF m 195 #[.val (.int xa), .val (.int xb), .val (.int xc), .val (.int sel), .val (.int ((xa &&& (255 : Int32)).toUInt32.toUInt16.toUInt32.toInt32)), .val (.int ((((xa.toUInt32 >>> ((8 : Int32) &&& 31).toUInt32).toInt32) &&& (255 : Int32)).toUInt32.toUInt16.toUInt32.toInt32)), .val (.int ((xb &&& (255 : Int32)).toUInt32.toUInt16.toUInt32.toInt32)), .val (.int ((((xb.toUInt32 >>> ((8 : Int32) &&& 31).toUInt32).toInt32) &&& (255 : Int32)).toUInt32.toUInt16.toUInt32.toInt32)), .val (.int ((xc &&& (255 : Int32)).toUInt32.toUInt16.toUInt32.toInt32)), .val (.int ((((xc.toUInt32 >>> ((8 : Int32) &&& 31).toUInt32).toInt32) &&& (255 : Int32)).toUInt32.toUInt16.toUInt32.toInt32)), .val (.ref b1), .val (.ref b18), .val (.ref b54), .val (.ref b113), .val (.int (0 : Int32)), .val (.ref b1), .unset, .unset, .unset] []))
    refine Go.st (fun _ k' => XS.iload X187.here hx rfl (hb hby at_195) rfl k') ?_
    show Go p e below s _ _ _ (T187.setTop (mkF m 197 #[.val (.int xa), .val (.int xb), .val (.int xc), .val (.int sel), .val (.int ((xa &&& (255 : Int32)).toUInt32.toUInt16.toUInt32.toInt32)), .val (.int ((((xa.toUInt32 >>> ((8 : Int32) &&& 31).toUInt32).toInt32) &&& (255 : Int32)).toUInt32.toUInt16.toUInt32.toInt32)), .val (.int ((xb &&& (255 : Int32)).toUInt32.toUInt16.toUInt32.toInt32)), .val (.int ((((xb.toUInt32 >>> ((8 : Int32) &&& 31).toUInt32).toInt32) &&& (255 : Int32)).toUInt32.toUInt16.toUInt32.toInt32)), .val (.int ((xc &&& (255 : Int32)).toUInt32.toUInt16.toUInt32.toInt32)), .val (.int ((((xc.toUInt32 >>> ((8 : Int32) &&& 31).toUInt32).toInt32) &&& (255 : Int32)).toUInt32.toUInt16.toUInt32.toInt32)), .val (.ref b1), .val (.ref b18), .val (.ref b54), .val (.ref b113), .val (.int (0 : Int32)), .val (.ref b1), .unset, .unset, .unset] [(.int (0 : Int32))]))
    refine Go.st (fun _ k' => XS.iconst X187.here hx rfl (hb hby at_197) k') ?_
    show Go p e below s _ _ _ (T187.setTop (mkF m 198 #[.val (.int xa), .val (.int xb), .val (.int xc), .val (.int sel), .val (.int ((xa &&& (255 : Int32)).toUInt32.toUInt16.toUInt32.toInt32)), .val (.int ((((xa.toUInt32 >>> ((8 : Int32) &&& 31).toUInt32).toInt32) &&& (255 : Int32)).toUInt32.toUInt16.toUInt32.toInt32)), .val (.int ((xb &&& (255 : Int32)).toUInt32.toUInt16.toUInt32.toInt32)), .val (.int ((((xb.toUInt32 >>> ((8 : Int32) &&& 31).toUInt32).toInt32) &&& (255 : Int32)).toUInt32.toUInt16.toUInt32.toInt32)), .val (.int ((xc &&& (255 : Int32)).toUInt32.toUInt16.toUInt32.toInt32)), .val (.int ((((xc.toUInt32 >>> ((8 : Int32) &&& 31).toUInt32).toInt32) &&& (255 : Int32)).toUInt32.toUInt16.toUInt32.toInt32)), .val (.ref b1), .val (.ref b18), .val (.ref b54), .val (.ref b113), .val (.int (0 : Int32)), .val (.ref b1), .unset, .unset, .unset] [(.int (2 : Int32)), (.int (0 : Int32))]))
    refine Go.st (fun _ k' => XS.icmpYes X187.here hx rfl (pc0 := 198) (pc' := 207) rfl (hb hby at_198) rfl (XT.ii_lt_t (by decide)) (by decide) (by decide) k') ?_
    show Go p e below s _ _ _ (T187.setTop (mkF m 207 #[.val (.int xa), .val (.int xb), .val (.int xc), .val (.int sel), .val (.int ((xa &&& (255 : Int32)).toUInt32.toUInt16.toUInt32.toInt32)), .val (.int ((((xa.toUInt32 >>> ((8 : Int32) &&& 31).toUInt32).toInt32) &&& (255 : Int32)).toUInt32.toUInt16.toUInt32.toInt32)), .val (.int ((xb &&& (255 : Int32)).toUInt32.toUInt16.toUInt32.toInt32)), .val (.int ((((xb.toUInt32 >>> ((8 : Int32) &&& 31).toUInt32).toInt32) &&& (255 : Int32)).toUInt32.toUInt16.toUInt32.toInt32)), .val (.int ((xc &&& (255 : Int32)).toUInt32.toUInt16.toUInt32.toInt32)), .val (.int ((((xc.toUInt32 >>> ((8 : Int32) &&& 31).toUInt32).toInt32) &&& (255 : Int32)).toUInt32.toUInt16.toUInt32.toInt32)), .val (.ref b1), .val (.ref b18), .val (.ref b54), .val (.ref b113), .val (.int (0 : Int32)), .val (.ref b1), .unset, .unset, .unset] []))
    refine Go.st (fun _ k' => XS.iload X187.here hx rfl (hb hby at_207) rfl k') ?_
    show Go p e below s _ _ _ (T187.setTop (mkF m 209 #[.val (.int xa), .val (.int xb), .val (.int xc), .val (.int sel), .val (.int ((xa &&& (255 : Int32)).toUInt32.toUInt16.toUInt32.toInt32)), .val (.int ((((xa.toUInt32 >>> ((8 : Int32) &&& 31).toUInt32).toInt32) &&& (255 : Int32)).toUInt32.toUInt16.toUInt32.toInt32)), .val (.int ((xb &&& (255 : Int32)).toUInt32.toUInt16.toUInt32.toInt32)), .val (.int ((((xb.toUInt32 >>> ((8 : Int32) &&& 31).toUInt32).toInt32) &&& (255 : Int32)).toUInt32.toUInt16.toUInt32.toInt32)), .val (.int ((xc &&& (255 : Int32)).toUInt32.toUInt16.toUInt32.toInt32)), .val (.int ((((xc.toUInt32 >>> ((8 : Int32) &&& 31).toUInt32).toInt32) &&& (255 : Int32)).toUInt32.toUInt16.toUInt32.toInt32)), .val (.ref b1), .val (.ref b18), .val (.ref b54), .val (.ref b113), .val (.int (0 : Int32)), .val (.ref b1), .unset, .unset, .unset] [(.int (0 : Int32))]))
    refine Go.st (fun _ k' => XS.iconst X187.here hx rfl (hb hby at_209) k') ?_
    show Go p e below s _ _ _ (T187.setTop (mkF m 210 #[.val (.int xa), .val (.int xb), .val (.int xc), .val (.int sel), .val (.int ((xa &&& (255 : Int32)).toUInt32.toUInt16.toUInt32.toInt32)), .val (.int ((((xa.toUInt32 >>> ((8 : Int32) &&& 31).toUInt32).toInt32) &&& (255 : Int32)).toUInt32.toUInt16.toUInt32.toInt32)), .val (.int ((xb &&& (255 : Int32)).toUInt32.toUInt16.toUInt32.toInt32)), .val (.int ((((xb.toUInt32 >>> ((8 : Int32) &&& 31).toUInt32).toInt32) &&& (255 : Int32)).toUInt32.toUInt16.toUInt32.toInt32)), .val (.int ((xc &&& (255 : Int32)).toUInt32.toUInt16.toUInt32.toInt32)), .val (.int ((((xc.toUInt32 >>> ((8 : Int32) &&& 31).toUInt32).toInt32) &&& (255 : Int32)).toUInt32.toUInt16.toUInt32.toInt32)), .val (.ref b1), .val (.ref b18), .val (.ref b54), .val (.ref b113), .val (.int (0 : Int32)), .val (.ref b1), .unset, .unset, .unset] [(.int (3 : Int32)), (.int (0 : Int32))]))
    refine Go.st (fun _ k' => XS.icmpYes X187.here hx rfl (pc0 := 210) (pc' := 219) rfl (hb hby at_210) rfl (XT.ii_lt_t (by decide)) (by decide) (by decide) k') ?_
    show Go p e below s _ _ _ (T187.setTop (mkF m 219 #[.val (.int xa), .val (.int xb), .val (.int xc), .val (.int sel), .val (.int ((xa &&& (255 : Int32)).toUInt32.toUInt16.toUInt32.toInt32)), .val (.int ((((xa.toUInt32 >>> ((8 : Int32) &&& 31).toUInt32).toInt32) &&& (255 : Int32)).toUInt32.toUInt16.toUInt32.toInt32)), .val (.int ((xb &&& (255 : Int32)).toUInt32.toUInt16.toUInt32.toInt32)), .val (.int ((((xb.toUInt32 >>> ((8 : Int32) &&& 31).toUInt32).toInt32) &&& (255 : Int32)).toUInt32.toUInt16.toUInt32.toInt32)), .val (.int ((xc &&& (255 : Int32)).toUInt32.toUInt16.toUInt32.toInt32)), .val (.int ((((xc.toUInt32 >>> ((8 : Int32) &&& 31).toUInt32).toInt32) &&& (255 : Int32)).toUInt32.toUInt16.toUInt32.toInt32)), .val (.ref b1), .val (.ref b18), .val (.ref b54), .val (.ref b113), .val (.int (0 : Int32)), .val (.ref b1), .unset, .unset, .unset] []))
    refine Go.st (fun _ k' => XS.iload X187.here hx rfl (hb hby at_219) rfl k') ?_
    show Go p e below s _ _ _ (T187.setTop (mkF m 221 #[.val (.int xa), .val (.int xb), .val (.int xc), .val (.int sel), .val (.int ((xa &&& (255 : Int32)).toUInt32.toUInt16.toUInt32.toInt32)), .val (.int ((((xa.toUInt32 >>> ((8 : Int32) &&& 31).toUInt32).toInt32) &&& (255 : Int32)).toUInt32.toUInt16.toUInt32.toInt32)), .val (.int ((xb &&& (255 : Int32)).toUInt32.toUInt16.toUInt32.toInt32)), .val (.int ((((xb.toUInt32 >>> ((8 : Int32) &&& 31).toUInt32).toInt32) &&& (255 : Int32)).toUInt32.toUInt16.toUInt32.toInt32)), .val (.int ((xc &&& (255 : Int32)).toUInt32.toUInt16.toUInt32.toInt32)), .val (.int ((((xc.toUInt32 >>> ((8 : Int32) &&& 31).toUInt32).toInt32) &&& (255 : Int32)).toUInt32.toUInt16.toUInt32.toInt32)), .val (.ref b1), .val (.ref b18), .val (.ref b54), .val (.ref b113), .val (.int (0 : Int32)), .val (.ref b1), .unset, .unset, .unset] [(.int (0 : Int32))]))
    refine Go.st (fun _ k' => XS.iconst X187.here hx rfl (hb hby at_221) k') ?_
    show Go p e below s _ _ _ (T187.setTop (mkF m 222 #[.val (.int xa), .val (.int xb), .val (.int xc), .val (.int sel), .val (.int ((xa &&& (255 : Int32)).toUInt32.toUInt16.toUInt32.toInt32)), .val (.int ((((xa.toUInt32 >>> ((8 : Int32) &&& 31).toUInt32).toInt32) &&& (255 : Int32)).toUInt32.toUInt16.toUInt32.toInt32)), .val (.int ((xb &&& (255 : Int32)).toUInt32.toUInt16.toUInt32.toInt32)), .val (.int ((((xb.toUInt32 >>> ((8 : Int32) &&& 31).toUInt32).toInt32) &&& (255 : Int32)).toUInt32.toUInt16.toUInt32.toInt32)), .val (.int ((xc &&& (255 : Int32)).toUInt32.toUInt16.toUInt32.toInt32)), .val (.int ((((xc.toUInt32 >>> ((8 : Int32) &&& 31).toUInt32).toInt32) &&& (255 : Int32)).toUInt32.toUInt16.toUInt32.toInt32)), .val (.ref b1), .val (.ref b18), .val (.ref b54), .val (.ref b113), .val (.int (0 : Int32)), .val (.ref b1), .unset, .unset, .unset] [(.int (3 : Int32)), (.int (0 : Int32))]))
    refine Go.st (fun _ k' => XS.icmpYes X187.here hx rfl (pc0 := 222) (pc' := 239) rfl (hb hby at_222) rfl (XT.ii_ne_t (by decide)) (by decide) (by decide) k') ?_
    show Go p e below s _ _ _ (T187.setTop (mkF m 239 #[.val (.int xa), .val (.int xb), .val (.int xc), .val (.int sel), .val (.int ((xa &&& (255 : Int32)).toUInt32.toUInt16.toUInt32.toInt32)), .val (.int ((((xa.toUInt32 >>> ((8 : Int32) &&& 31).toUInt32).toInt32) &&& (255 : Int32)).toUInt32.toUInt16.toUInt32.toInt32)), .val (.int ((xb &&& (255 : Int32)).toUInt32.toUInt16.toUInt32.toInt32)), .val (.int ((((xb.toUInt32 >>> ((8 : Int32) &&& 31).toUInt32).toInt32) &&& (255 : Int32)).toUInt32.toUInt16.toUInt32.toInt32)), .val (.int ((xc &&& (255 : Int32)).toUInt32.toUInt16.toUInt32.toInt32)), .val (.int ((((xc.toUInt32 >>> ((8 : Int32) &&& 31).toUInt32).toInt32) &&& (255 : Int32)).toUInt32.toUInt16.toUInt32.toInt32)), .val (.ref b1), .val (.ref b18), .val (.ref b54), .val (.ref b113), .val (.int (0 : Int32)), .val (.ref b1), .unset, .unset, .unset] []))
    refine Go.st (fun _ k' => XS.aload X187.here hx rfl (hb hby at_239) rfl rfl k') ?_
    show Go p e below s _ _ _ (T187.setTop (mkF m 241 #[.val (.int xa), .val (.int xb), .val (.int xc), .val (.int sel), .val (.int ((xa &&& (255 : Int32)).toUInt32.toUInt16.toUInt32.toInt32)), .val (.int ((((xa.toUInt32 >>> ((8 : Int32) &&& 31).toUInt32).toInt32) &&& (255 : Int32)).toUInt32.toUInt16.toUInt32.toInt32)), .val (.int ((xb &&& (255 : Int32)).toUInt32.toUInt16.toUInt32.toInt32)), .val (.int ((((xb.toUInt32 >>> ((8 : Int32) &&& 31).toUInt32).toInt32) &&& (255 : Int32)).toUInt32.toUInt16.toUInt32.toInt32)), .val (.int ((xc &&& (255 : Int32)).toUInt32.toUInt16.toUInt32.toInt32)), .val (.int ((((xc.toUInt32 >>> ((8 : Int32) &&& 31).toUInt32).toInt32) &&& (255 : Int32)).toUInt32.toUInt16.toUInt32.toInt32)), .val (.ref b1), .val (.ref b18), .val (.ref b54), .val (.ref b113), .val (.int (0 : Int32)), .val (.ref b1), .unset, .unset, .unset] [(.ref b113)]))
    obtain ⟨cq208, kq208, q208a, q208b, q208c⟩ := isOf hZ rfl f197
    obtain ⟨_, _, ⟨T208, L208, k208, n208⟩, -, X208, ⟨Lc208, hQ208, l208, y208, z208⟩, st208⟩ := X187.virtualBack hx (y := (⟨"com/example/reportwire/reportwire/Arguments", "peek", "()Ljava/lang/String;"⟩ : MethodName)) (z := (⟨"com/example/reportwire/reportwire/Arguments", "peek", "()Ljava/lang/String;"⟩ : MethodName)) hown (mvT hZ (wdx hw 107 rfl)) (mvT hZ (wdx hw 96 rfl)) (notFace_of_selects (args := #[]) (mvT hZ (wdx hw 98 rfl))) (mvT hZ (wdx hw 98 rfl)) (mvT hZ (wdx hw 97 rfl)) (by decide) (backOf (W := 0) (rm14_3_0 l Z a0 hw [] b113 na_187 kn_187 b1 b18 b54 T187.heap n0 O187 f197 f188 f189 f190) hZ (wdx hw 99 rfl) (wdx hw 32 rfl) (by decide) (by decide)) q208a q208c (g := (mkF m 241 #[.val (.int xa), .val (.int xb), .val (.int xc), .val (.int sel), .val (.int ((xa &&& (255 : Int32)).toUInt32.toUInt16.toUInt32.toInt32)), .val (.int ((((xa.toUInt32 >>> ((8 : Int32) &&& 31).toUInt32).toInt32) &&& (255 : Int32)).toUInt32.toUInt16.toUInt32.toInt32)), .val (.int ((xb &&& (255 : Int32)).toUInt32.toUInt16.toUInt32.toInt32)), .val (.int ((((xb.toUInt32 >>> ((8 : Int32) &&& 31).toUInt32).toInt32) &&& (255 : Int32)).toUInt32.toUInt16.toUInt32.toInt32)), .val (.int ((xc &&& (255 : Int32)).toUInt32.toUInt16.toUInt32.toInt32)), .val (.int ((((xc.toUInt32 >>> ((8 : Int32) &&& 31).toUInt32).toInt32) &&& (255 : Int32)).toUInt32.toUInt16.toUInt32.toInt32)), .val (.ref b1), .val (.ref b18), .val (.ref b54), .val (.ref b113), .val (.int (0 : Int32)), .val (.ref b1), .unset, .unset, .unset] [(.ref b113)])) rfl (by rw [hml]; rfl) (Steps.refl _) (argsL := []) (rest := []) (lenOf pd___Ljava_lang_String_ rfl) rfl (by show 2 * 0 + _ ≤ _; exact Nat.le_of_eq rfl) (hb hby at_241) (fun _ _ => ⟨rfl, rfl, (by exact Nat.le_of_ble_eq_true rfl), (by exact Nat.le_of_ble_eq_true rfl)⟩)
    dsimp only [Pt.U, Pt.locs, Pt.cells, Pt.slots] at X208 l208 y208 z208 st208 hQ208
    subst l208 y208 z208
    obtain ⟨rfl, Nq208, eq208⟩ := hQ208
    have N208 := Fr.app N187 Nq208
    refine Go.tr st208 ?_
    show Go p e below s _ _ _ (T208.setTop (mkF m 244 #[.val (.int xa), .val (.int xb), .val (.int xc), .val (.int sel), .val (.int ((xa &&& (255 : Int32)).toUInt32.toUInt16.toUInt32.toInt32)), .val (.int ((((xa.toUInt32 >>> ((8 : Int32) &&& 31).toUInt32).toInt32) &&& (255 : Int32)).toUInt32.toUInt16.toUInt32.toInt32)), .val (.int ((xb &&& (255 : Int32)).toUInt32.toUInt16.toUInt32.toInt32)), .val (.int ((((xb.toUInt32 >>> ((8 : Int32) &&& 31).toUInt32).toInt32) &&& (255 : Int32)).toUInt32.toUInt16.toUInt32.toInt32)), .val (.int ((xc &&& (255 : Int32)).toUInt32.toUInt16.toUInt32.toInt32)), .val (.int ((((xc.toUInt32 >>> ((8 : Int32) &&& 31).toUInt32).toInt32) &&& (255 : Int32)).toUInt32.toUInt16.toUInt32.toInt32)), .val (.ref b1), .val (.ref b18), .val (.ref b54), .val (.ref b113), .val (.int (0 : Int32)), .val (.ref b1), .unset, .unset, .unset] [(.ref b1)]))
    refine Go.st (fun _ k' => XS.astore X208.here hx rfl (hb hby at_244) rfl rfl (l' := #[.val (.int xa), .val (.int xb), .val (.int xc), .val (.int sel), .val (.int ((xa &&& (255 : Int32)).toUInt32.toUInt16.toUInt32.toInt32)), .val (.int ((((xa.toUInt32 >>> ((8 : Int32) &&& 31).toUInt32).toInt32) &&& (255 : Int32)).toUInt32.toUInt16.toUInt32.toInt32)), .val (.int ((xb &&& (255 : Int32)).toUInt32.toUInt16.toUInt32.toInt32)), .val (.int ((((xb.toUInt32 >>> ((8 : Int32) &&& 31).toUInt32).toInt32) &&& (255 : Int32)).toUInt32.toUInt16.toUInt32.toInt32)), .val (.int ((xc &&& (255 : Int32)).toUInt32.toUInt16.toUInt32.toInt32)), .val (.int ((((xc.toUInt32 >>> ((8 : Int32) &&& 31).toUInt32).toInt32) &&& (255 : Int32)).toUInt32.toUInt16.toUInt32.toInt32)), .val (.ref b1), .val (.ref b18), .val (.ref b54), .val (.ref b113), .val (.int (0 : Int32)), .val (.ref b1), .val (.ref b1), .unset, .unset]) rfl k') ?_
    show Go p e below s _ _ _ (T208.setTop (mkF m 246 #[.val (.int xa), .val (.int xb), .val (.int xc), .val (.int sel), .val (.int ((xa &&& (255 : Int32)).toUInt32.toUInt16.toUInt32.toInt32)), .val (.int ((((xa.toUInt32 >>> ((8 : Int32) &&& 31).toUInt32).toInt32) &&& (255 : Int32)).toUInt32.toUInt16.toUInt32.toInt32)), .val (.int ((xb &&& (255 : Int32)).toUInt32.toUInt16.toUInt32.toInt32)), .val (.int ((((xb.toUInt32 >>> ((8 : Int32) &&& 31).toUInt32).toInt32) &&& (255 : Int32)).toUInt32.toUInt16.toUInt32.toInt32)), .val (.int ((xc &&& (255 : Int32)).toUInt32.toUInt16.toUInt32.toInt32)), .val (.int ((((xc.toUInt32 >>> ((8 : Int32) &&& 31).toUInt32).toInt32) &&& (255 : Int32)).toUInt32.toUInt16.toUInt32.toInt32)), .val (.ref b1), .val (.ref b18), .val (.ref b54), .val (.ref b113), .val (.int (0 : Int32)), .val (.ref b1), .val (.ref b1), .unset, .unset] []))
    refine Go.st (fun _ k' => XS.aload X208.here hx rfl (hb hby at_246) rfl rfl k') ?_
    show Go p e below s _ _ _ (T208.setTop (mkF m 248 #[.val (.int xa), .val (.int xb), .val (.int xc), .val (.int sel), .val (.int ((xa &&& (255 : Int32)).toUInt32.toUInt16.toUInt32.toInt32)), .val (.int ((((xa.toUInt32 >>> ((8 : Int32) &&& 31).toUInt32).toInt32) &&& (255 : Int32)).toUInt32.toUInt16.toUInt32.toInt32)), .val (.int ((xb &&& (255 : Int32)).toUInt32.toUInt16.toUInt32.toInt32)), .val (.int ((((xb.toUInt32 >>> ((8 : Int32) &&& 31).toUInt32).toInt32) &&& (255 : Int32)).toUInt32.toUInt16.toUInt32.toInt32)), .val (.int ((xc &&& (255 : Int32)).toUInt32.toUInt16.toUInt32.toInt32)), .val (.int ((((xc.toUInt32 >>> ((8 : Int32) &&& 31).toUInt32).toInt32) &&& (255 : Int32)).toUInt32.toUInt16.toUInt32.toInt32)), .val (.ref b1), .val (.ref b18), .val (.ref b54), .val (.ref b113), .val (.int (0 : Int32)), .val (.ref b1), .val (.ref b1), .unset, .unset] [(.ref b113)]))
    obtain ⟨cq209, kq209, q209a, q209b, q209c⟩ := isOf hZ eq208 f197
    obtain ⟨_, _, ⟨T209, L209, k209, n209⟩, -, X209, ⟨Lc209, hQ209, l209, y209, z209⟩, st209⟩ := X208.virtualBack hx (y := (⟨"com/example/reportwire/reportwire/Arguments", "peek", "()Ljava/lang/String;"⟩ : MethodName)) (z := (⟨"com/example/reportwire/reportwire/Arguments", "peek", "()Ljava/lang/String;"⟩ : MethodName)) hown (mvT hZ (wdx hw 107 rfl)) (mvT hZ (wdx hw 96 rfl)) (notFace_of_selects (args := #[]) (mvT hZ (wdx hw 98 rfl))) (mvT hZ (wdx hw 98 rfl)) (mvT hZ (wdx hw 97 rfl)) (by decide) (backOf (W := 0) (rm14_3_0 l Z a0 hw [] b113 na_187 kn_187 b1 b18 b54 T187.heap n0 O187 f197 f188 f189 f190) hZ (wdx hw 99 rfl) (wdx hw 32 rfl) (by decide) (by decide)) q209a q209c (g := (mkF m 248 #[.val (.int xa), .val (.int xb), .val (.int xc), .val (.int sel), .val (.int ((xa &&& (255 : Int32)).toUInt32.toUInt16.toUInt32.toInt32)), .val (.int ((((xa.toUInt32 >>> ((8 : Int32) &&& 31).toUInt32).toInt32) &&& (255 : Int32)).toUInt32.toUInt16.toUInt32.toInt32)), .val (.int ((xb &&& (255 : Int32)).toUInt32.toUInt16.toUInt32.toInt32)), .val (.int ((((xb.toUInt32 >>> ((8 : Int32) &&& 31).toUInt32).toInt32) &&& (255 : Int32)).toUInt32.toUInt16.toUInt32.toInt32)), .val (.int ((xc &&& (255 : Int32)).toUInt32.toUInt16.toUInt32.toInt32)), .val (.int ((((xc.toUInt32 >>> ((8 : Int32) &&& 31).toUInt32).toInt32) &&& (255 : Int32)).toUInt32.toUInt16.toUInt32.toInt32)), .val (.ref b1), .val (.ref b18), .val (.ref b54), .val (.ref b113), .val (.int (0 : Int32)), .val (.ref b1), .val (.ref b1), .unset, .unset] [(.ref b113)])) rfl (by rw [hml]; rfl) (Steps.refl _) (argsL := []) (rest := []) (lenOf pd___Ljava_lang_String_ rfl) rfl (by show 2 * 0 + _ ≤ _; exact Nat.le_of_eq rfl) (hb hby at_248) (fun _ _ => ⟨rfl, eq208, (by exact Nat.le_of_ble_eq_true rfl), (by exact Nat.le_of_ble_eq_true rfl)⟩)
    dsimp only [Pt.U, Pt.locs, Pt.cells, Pt.slots] at X209 l209 y209 z209 st209 hQ209
    subst l209 y209 z209
    obtain ⟨rfl, Nq209, eq209⟩ := hQ209
    have N209 := Fr.app N208 Nq209
    refine Go.tr st209 ?_
    show Go p e below s _ _ _ (T209.setTop (mkF m 251 #[.val (.int xa), .val (.int xb), .val (.int xc), .val (.int sel), .val (.int ((xa &&& (255 : Int32)).toUInt32.toUInt16.toUInt32.toInt32)), .val (.int ((((xa.toUInt32 >>> ((8 : Int32) &&& 31).toUInt32).toInt32) &&& (255 : Int32)).toUInt32.toUInt16.toUInt32.toInt32)), .val (.int ((xb &&& (255 : Int32)).toUInt32.toUInt16.toUInt32.toInt32)), .val (.int ((((xb.toUInt32 >>> ((8 : Int32) &&& 31).toUInt32).toInt32) &&& (255 : Int32)).toUInt32.toUInt16.toUInt32.toInt32)), .val (.int ((xc &&& (255 : Int32)).toUInt32.toUInt16.toUInt32.toInt32)), .val (.int ((((xc.toUInt32 >>> ((8 : Int32) &&& 31).toUInt32).toInt32) &&& (255 : Int32)).toUInt32.toUInt16.toUInt32.toInt32)), .val (.ref b1), .val (.ref b18), .val (.ref b54), .val (.ref b113), .val (.int (0 : Int32)), .val (.ref b1), .val (.ref b1), .unset, .unset] [(.ref b1)]))
    refine Go.st (fun _ k' => XS.astore X209.here hx rfl (hb hby at_251) rfl rfl (l' := #[.val (.int xa), .val (.int xb), .val (.int xc), .val (.int sel), .val (.int ((xa &&& (255 : Int32)).toUInt32.toUInt16.toUInt32.toInt32)), .val (.int ((((xa.toUInt32 >>> ((8 : Int32) &&& 31).toUInt32).toInt32) &&& (255 : Int32)).toUInt32.toUInt16.toUInt32.toInt32)), .val (.int ((xb &&& (255 : Int32)).toUInt32.toUInt16.toUInt32.toInt32)), .val (.int ((((xb.toUInt32 >>> ((8 : Int32) &&& 31).toUInt32).toInt32) &&& (255 : Int32)).toUInt32.toUInt16.toUInt32.toInt32)), .val (.int ((xc &&& (255 : Int32)).toUInt32.toUInt16.toUInt32.toInt32)), .val (.int ((((xc.toUInt32 >>> ((8 : Int32) &&& 31).toUInt32).toInt32) &&& (255 : Int32)).toUInt32.toUInt16.toUInt32.toInt32)), .val (.ref b1), .val (.ref b18), .val (.ref b54), .val (.ref b113), .val (.int (0 : Int32)), .val (.ref b1), .val (.ref b1), .val (.ref b1), .unset]) rfl k') ?_
    show Go p e below s _ _ _ (T209.setTop (mkF m 253 #[.val (.int xa), .val (.int xb), .val (.int xc), .val (.int sel), .val (.int ((xa &&& (255 : Int32)).toUInt32.toUInt16.toUInt32.toInt32)), .val (.int ((((xa.toUInt32 >>> ((8 : Int32) &&& 31).toUInt32).toInt32) &&& (255 : Int32)).toUInt32.toUInt16.toUInt32.toInt32)), .val (.int ((xb &&& (255 : Int32)).toUInt32.toUInt16.toUInt32.toInt32)), .val (.int ((((xb.toUInt32 >>> ((8 : Int32) &&& 31).toUInt32).toInt32) &&& (255 : Int32)).toUInt32.toUInt16.toUInt32.toInt32)), .val (.int ((xc &&& (255 : Int32)).toUInt32.toUInt16.toUInt32.toInt32)), .val (.int ((((xc.toUInt32 >>> ((8 : Int32) &&& 31).toUInt32).toInt32) &&& (255 : Int32)).toUInt32.toUInt16.toUInt32.toInt32)), .val (.ref b1), .val (.ref b18), .val (.ref b54), .val (.ref b113), .val (.int (0 : Int32)), .val (.ref b1), .val (.ref b1), .val (.ref b1), .unset] []))
    refine Go.st (fun _ k' => XS.aload X209.here hx rfl (hb hby at_253) rfl rfl k') ?_
    show Go p e below s _ _ _ (T209.setTop (mkF m 255 #[.val (.int xa), .val (.int xb), .val (.int xc), .val (.int sel), .val (.int ((xa &&& (255 : Int32)).toUInt32.toUInt16.toUInt32.toInt32)), .val (.int ((((xa.toUInt32 >>> ((8 : Int32) &&& 31).toUInt32).toInt32) &&& (255 : Int32)).toUInt32.toUInt16.toUInt32.toInt32)), .val (.int ((xb &&& (255 : Int32)).toUInt32.toUInt16.toUInt32.toInt32)), .val (.int ((((xb.toUInt32 >>> ((8 : Int32) &&& 31).toUInt32).toInt32) &&& (255 : Int32)).toUInt32.toUInt16.toUInt32.toInt32)), .val (.int ((xc &&& (255 : Int32)).toUInt32.toUInt16.toUInt32.toInt32)), .val (.int ((((xc.toUInt32 >>> ((8 : Int32) &&& 31).toUInt32).toInt32) &&& (255 : Int32)).toUInt32.toUInt16.toUInt32.toInt32)), .val (.ref b1), .val (.ref b18), .val (.ref b54), .val (.ref b113), .val (.int (0 : Int32)), .val (.ref b1), .val (.ref b1), .val (.ref b1), .unset] [(.ref b113)]))
    obtain ⟨cq210, kq210, q210a, q210b, q210c⟩ := isOf hZ eq209 f197
    obtain ⟨_, _, ⟨T210, L210, k210, n210⟩, -, X210, ⟨Lc210, hQ210, l210, y210, z210⟩, st210⟩ := X209.virtualBack hx (y := (⟨"com/example/reportwire/reportwire/Arguments", "next", "()Ljava/lang/String;"⟩ : MethodName)) (z := (⟨"com/example/reportwire/reportwire/Arguments", "next", "()Ljava/lang/String;"⟩ : MethodName)) hown (mvT hZ (wdx hw 90 rfl)) (mvT hZ (wdx hw 91 rfl)) (notFace_of_selects (args := #[]) (mvT hZ (wdx hw 93 rfl))) (mvT hZ (wdx hw 93 rfl)) (mvT hZ (wdx hw 92 rfl)) (by decide) (backOf (W := 0) (rm13_3_0 l Z a0 hw [] b113 na_187 kn_187 b1 b18 b54 T187.heap n0 O187 f197 f188 f189 f190 g_b113 ne206) hZ (wdx hw 94 rfl) (wdx hw 32 rfl) (by decide) (by decide)) q210a q210c (g := (mkF m 255 #[.val (.int xa), .val (.int xb), .val (.int xc), .val (.int sel), .val (.int ((xa &&& (255 : Int32)).toUInt32.toUInt16.toUInt32.toInt32)), .val (.int ((((xa.toUInt32 >>> ((8 : Int32) &&& 31).toUInt32).toInt32) &&& (255 : Int32)).toUInt32.toUInt16.toUInt32.toInt32)), .val (.int ((xb &&& (255 : Int32)).toUInt32.toUInt16.toUInt32.toInt32)), .val (.int ((((xb.toUInt32 >>> ((8 : Int32) &&& 31).toUInt32).toInt32) &&& (255 : Int32)).toUInt32.toUInt16.toUInt32.toInt32)), .val (.int ((xc &&& (255 : Int32)).toUInt32.toUInt16.toUInt32.toInt32)), .val (.int ((((xc.toUInt32 >>> ((8 : Int32) &&& 31).toUInt32).toInt32) &&& (255 : Int32)).toUInt32.toUInt16.toUInt32.toInt32)), .val (.ref b1), .val (.ref b18), .val (.ref b54), .val (.ref b113), .val (.int (0 : Int32)), .val (.ref b1), .val (.ref b1), .val (.ref b1), .unset] [(.ref b113)])) rfl (by rw [hml]; rfl) (Steps.refl _) (argsL := []) (rest := []) (lenOf pd___Ljava_lang_String_ rfl) rfl (by show 2 * 0 + _ ≤ _; exact Nat.le_of_eq rfl) (hb hby at_255) (fun _ _ => ⟨rfl, eq209, (by exact Nat.le_of_ble_eq_true rfl), (by exact Nat.le_of_ble_eq_true rfl)⟩)
    dsimp only [Pt.U, Pt.locs, Pt.cells, Pt.slots] at X210 l210 y210 z210 st210 hQ210
    subst l210 y210 z210
    obtain ⟨rfl, Nq210, Kq210, f211, f212⟩ := hQ210
    have N210 := Fr.app N209 Nq210
    refine Go.tr st210 ?_
    have f213 : Exa Z T210.heap b1 "java/lang/String" := f191.keep Kq210
    have f214 : Arv Z T210.heap b4 k4 .char (1 : Int32) [(.int (nar .char ((xa &&& (255 : Int32)).toUInt32.toUInt16.toUInt32.toInt32)))] (.int (0 : Int32)) := f192.keep Kq210 (ninS ne115 nin0)
    have f215 : Exa Z T210.heap b18 "java/lang/String" := f193.keep Kq210
    have f216 : Arv Z T210.heap b25 k25 .char (2 : Int32) [(.int (nar .char ((((xa.toUInt32 >>> ((8 : Int32) &&& 31).toUInt32).toInt32) &&& (255 : Int32)).toUInt32.toUInt16.toUInt32.toInt32))), (.int (nar .char ((xb &&& (255 : Int32)).toUInt32.toUInt16.toUInt32.toInt32)))] (.int (0 : Int32)) := f194.keep Kq210 (ninS ne117 nin0)
    have f217 : Exa Z T210.heap b54 "java/lang/String" := f195.keep Kq210
    have f218 : Arv Z T210.heap b65 k65 .char (3 : Int32) [(.int (nar .char ((((xb.toUInt32 >>> ((8 : Int32) &&& 31).toUInt32).toInt32) &&& (255 : Int32)).toUInt32.toUInt16.toUInt32.toInt32))), (.int (nar .char ((xc &&& (255 : Int32)).toUInt32.toUInt16.toUInt32.toInt32))), (.int (nar .char ((((xc.toUInt32 >>> ((8 : Int32) &&& 31).toUInt32).toInt32) &&& (255 : Int32)).toUInt32.toUInt16.toUInt32.toInt32)))] (.int (0 : Int32)) := f196.keep Kq210 (ninS ne119 nin0)
    have f219 : Exa Z T210.heap b113 "com/example/reportwire/reportwire/Arguments" := f197.keep Kq210
    have f220 : Exa Z T210.heap b129 "[Ljava/lang/String;" := f198.keep Kq210
    have f221 : Arv Z T210.heap b129 k129 (.object "java/lang/String") (3 : Int32) [(.ref b1), (.ref b18), (.ref b54)] .null := f199.keep Kq210 (ninS (Ne.symm ne136) nin0)
    have f222 : Arv Z T210.heap na_187 kn_187 (.object "java/lang/String") (3 : Int32) [(.ref b1), (.ref b18), (.ref b54)] .null := f190.keep Kq210 (ninS (Ne.symm ne206) nin0)
    have O210 : Old Z n0 T210.heap := O187.keep Kq210 (allS g_b113 all0)
    show Go p e below s _ _ _ (T210.setTop (mkF m 258 #[.val (.int xa), .val (.int xb), .val (.int xc), .val (.int sel), .val (.int ((xa &&& (255 : Int32)).toUInt32.toUInt16.toUInt32.toInt32)), .val (.int ((((xa.toUInt32 >>> ((8 : Int32) &&& 31).toUInt32).toInt32) &&& (255 : Int32)).toUInt32.toUInt16.toUInt32.toInt32)), .val (.int ((xb &&& (255 : Int32)).toUInt32.toUInt16.toUInt32.toInt32)), .val (.int ((((xb.toUInt32 >>> ((8 : Int32) &&& 31).toUInt32).toInt32) &&& (255 : Int32)).toUInt32.toUInt16.toUInt32.toInt32)), .val (.int ((xc &&& (255 : Int32)).toUInt32.toUInt16.toUInt32.toInt32)), .val (.int ((((xc.toUInt32 >>> ((8 : Int32) &&& 31).toUInt32).toInt32) &&& (255 : Int32)).toUInt32.toUInt16.toUInt32.toInt32)), .val (.ref b1), .val (.ref b18), .val (.ref b54), .val (.ref b113), .val (.int (0 : Int32)), .val (.ref b1), .val (.ref b1), .val (.ref b1), .unset] [(.ref b1)]))
    refine Go.st (fun _ k' => XS.astore X210.here hx rfl (hb hby at_258) rfl rfl (l' := #[.val (.int xa), .val (.int xb), .val (.int xc), .val (.int sel), .val (.int ((xa &&& (255 : Int32)).toUInt32.toUInt16.toUInt32.toInt32)), .val (.int ((((xa.toUInt32 >>> ((8 : Int32) &&& 31).toUInt32).toInt32) &&& (255 : Int32)).toUInt32.toUInt16.toUInt32.toInt32)), .val (.int ((xb &&& (255 : Int32)).toUInt32.toUInt16.toUInt32.toInt32)), .val (.int ((((xb.toUInt32 >>> ((8 : Int32) &&& 31).toUInt32).toInt32) &&& (255 : Int32)).toUInt32.toUInt16.toUInt32.toInt32)), .val (.int ((xc &&& (255 : Int32)).toUInt32.toUInt16.toUInt32.toInt32)), .val (.int ((((xc.toUInt32 >>> ((8 : Int32) &&& 31).toUInt32).toInt32) &&& (255 : Int32)).toUInt32.toUInt16.toUInt32.toInt32)), .val (.ref b1), .val (.ref b18), .val (.ref b54), .val (.ref b113), .val (.int (0 : Int32)), .val (.ref b1), .val (.ref b1), .val (.ref b1), .val (.ref b1)]) rfl k') ?_
    show Go p e below s _ _ _ (T210.setTop (mkF m 260 #[.val (.int xa), .val (.int xb), .val (.int xc), .val (.int sel), .val (.int ((xa &&& (255 : Int32)).toUInt32.toUInt16.toUInt32.toInt32)), .val (.int ((((xa.toUInt32 >>> ((8 : Int32) &&& 31).toUInt32).toInt32) &&& (255 : Int32)).toUInt32.toUInt16.toUInt32.toInt32)), .val (.int ((xb &&& (255 : Int32)).toUInt32.toUInt16.toUInt32.toInt32)), .val (.int ((((xb.toUInt32 >>> ((8 : Int32) &&& 31).toUInt32).toInt32) &&& (255 : Int32)).toUInt32.toUInt16.toUInt32.toInt32)), .val (.int ((xc &&& (255 : Int32)).toUInt32.toUInt16.toUInt32.toInt32)), .val (.int ((((xc.toUInt32 >>> ((8 : Int32) &&& 31).toUInt32).toInt32) &&& (255 : Int32)).toUInt32.toUInt16.toUInt32.toInt32)), .val (.ref b1), .val (.ref b18), .val (.ref b54), .val (.ref b113), .val (.int (0 : Int32)), .val (.ref b1), .val (.ref b1), .val (.ref b1), .val (.ref b1)] []))
    refine Go.st (fun _ k' => XS.aload X210.here hx rfl (hb hby at_260) rfl rfl k') ?_
    show Go p e below s _ _ _ (T210.setTop (mkF m 262 #[.val (.int xa), .val (.int xb), .val (.int xc), .val (.int sel), .val (.int ((xa &&& (255 : Int32)).toUInt32.toUInt16.toUInt32.toInt32)), .val (.int ((((xa.toUInt32 >>> ((8 : Int32) &&& 31).toUInt32).toInt32) &&& (255 : Int32)).toUInt32.toUInt16.toUInt32.toInt32)), .val (.int ((xb &&& (255 : Int32)).toUInt32.toUInt16.toUInt32.toInt32)), .val (.int ((((xb.toUInt32 >>> ((8 : Int32) &&& 31).toUInt32).toInt32) &&& (255 : Int32)).toUInt32.toUInt16.toUInt32.toInt32)), .val (.int ((xc &&& (255 : Int32)).toUInt32.toUInt16.toUInt32.toInt32)), .val (.int ((((xc.toUInt32 >>> ((8 : Int32) &&& 31).toUInt32).toInt32) &&& (255 : Int32)).toUInt32.toUInt16.toUInt32.toInt32)), .val (.ref b1), .val (.ref b18), .val (.ref b54), .val (.ref b113), .val (.int (0 : Int32)), .val (.ref b1), .val (.ref b1), .val (.ref b1), .val (.ref b1)] [(.ref b1)]))
    refine Go.st (fun _ k' => XS.aload X210.here hx rfl (hb hby at_262) rfl rfl k') ?_
    show Go p e below s _ _ _ (T210.setTop (mkF m 264 #[.val (.int xa), .val (.int xb), .val (.int xc), .val (.int sel), .val (.int ((xa &&& (255 : Int32)).toUInt32.toUInt16.toUInt32.toInt32)), .val (.int ((((xa.toUInt32 >>> ((8 : Int32) &&& 31).toUInt32).toInt32) &&& (255 : Int32)).toUInt32.toUInt16.toUInt32.toInt32)), .val (.int ((xb &&& (255 : Int32)).toUInt32.toUInt16.toUInt32.toInt32)), .val (.int ((((xb.toUInt32 >>> ((8 : Int32) &&& 31).toUInt32).toInt32) &&& (255 : Int32)).toUInt32.toUInt16.toUInt32.toInt32)), .val (.int ((xc &&& (255 : Int32)).toUInt32.toUInt16.toUInt32.toInt32)), .val (.int ((((xc.toUInt32 >>> ((8 : Int32) &&& 31).toUInt32).toInt32) &&& (255 : Int32)).toUInt32.toUInt16.toUInt32.toInt32)), .val (.ref b1), .val (.ref b18), .val (.ref b54), .val (.ref b113), .val (.int (0 : Int32)), .val (.ref b1), .val (.ref b1), .val (.ref b1), .val (.ref b1)] [(.ref b1), (.ref b1)]))
    obtain ⟨cq223, kq223, q223a, q223b, q223c⟩ := isOf hZ rfl f213
    obtain ⟨_, _, ⟨T223, L223, k223, n223⟩, -, X223, ⟨Lc223, hQ223, l223, y223, z223⟩, st223⟩ := X210.virtualBack hx (y := (⟨"java/lang/String", "equals", "(Ljava/lang/Object;)Z"⟩ : MethodName)) (z := (⟨"java/lang/String", "equals", "(Ljava/lang/Object;)Z"⟩ : MethodName)) hown (mvT hZ (wdx hw 108 rfl)) (mvT hZ (wdx hw 109 rfl)) (notFace_of_selects (args := #[]) (mvT hZ (wdx hw 111 rfl))) (mvT hZ (wdx hw 111 rfl)) (mvT hZ (wdx hw 110 rfl)) (by decide) (backOf (W := 0) (rm16 l Z a0 hw [] b1 T210.heap n0 O210 ) hZ (wdx hw 112 rfl) (wdx hw 2 rfl) (by decide) (by decide)) q223a q223c (g := (mkF m 264 #[.val (.int xa), .val (.int xb), .val (.int xc), .val (.int sel), .val (.int ((xa &&& (255 : Int32)).toUInt32.toUInt16.toUInt32.toInt32)), .val (.int ((((xa.toUInt32 >>> ((8 : Int32) &&& 31).toUInt32).toInt32) &&& (255 : Int32)).toUInt32.toUInt16.toUInt32.toInt32)), .val (.int ((xb &&& (255 : Int32)).toUInt32.toUInt16.toUInt32.toInt32)), .val (.int ((((xb.toUInt32 >>> ((8 : Int32) &&& 31).toUInt32).toInt32) &&& (255 : Int32)).toUInt32.toUInt16.toUInt32.toInt32)), .val (.int ((xc &&& (255 : Int32)).toUInt32.toUInt16.toUInt32.toInt32)), .val (.int ((((xc.toUInt32 >>> ((8 : Int32) &&& 31).toUInt32).toInt32) &&& (255 : Int32)).toUInt32.toUInt16.toUInt32.toInt32)), .val (.ref b1), .val (.ref b18), .val (.ref b54), .val (.ref b113), .val (.int (0 : Int32)), .val (.ref b1), .val (.ref b1), .val (.ref b1), .val (.ref b1)] [(.ref b1), (.ref b1)])) rfl (by rw [hml]; rfl) (Steps.refl _) (argsL := [(.ref b1)]) (rest := []) (lenOf pd__Ljava_lang_Object__Z rfl) rfl (by show 2 * 0 + _ ≤ _; exact Nat.le_of_eq rfl) (hb hby at_264) (fun _ _ => ⟨rfl, rfl, (by exact Nat.le_of_ble_eq_true rfl), (by exact Nat.le_of_ble_eq_true rfl)⟩)
    dsimp only [Pt.U, Pt.locs, Pt.cells, Pt.slots] at X223 l223 y223 z223 st223 hQ223
    subst l223 y223 z223
    obtain ⟨rfl, Nq223, eq223⟩ := hQ223
    have N223 := Fr.app N210 Nq223
    refine Go.tr st223 ?_
    show Go p e below s _ _ _ (T223.setTop (mkF m 267 #[.val (.int xa), .val (.int xb), .val (.int xc), .val (.int sel), .val (.int ((xa &&& (255 : Int32)).toUInt32.toUInt16.toUInt32.toInt32)), .val (.int ((((xa.toUInt32 >>> ((8 : Int32) &&& 31).toUInt32).toInt32) &&& (255 : Int32)).toUInt32.toUInt16.toUInt32.toInt32)), .val (.int ((xb &&& (255 : Int32)).toUInt32.toUInt16.toUInt32.toInt32)), .val (.int ((((xb.toUInt32 >>> ((8 : Int32) &&& 31).toUInt32).toInt32) &&& (255 : Int32)).toUInt32.toUInt16.toUInt32.toInt32)), .val (.int ((xc &&& (255 : Int32)).toUInt32.toUInt16.toUInt32.toInt32)), .val (.int ((((xc.toUInt32 >>> ((8 : Int32) &&& 31).toUInt32).toInt32) &&& (255 : Int32)).toUInt32.toUInt16.toUInt32.toInt32)), .val (.ref b1), .val (.ref b18), .val (.ref b54), .val (.ref b113), .val (.int (0 : Int32)), .val (.ref b1), .val (.ref b1), .val (.ref b1), .val (.ref b1)] [(.int (1 : Int32))]))
    refine Go.st (fun _ k' => XS.ifNo X223.here hx rfl (hb hby at_267) rfl (XT.i0_eq_f (by decide)) k') ?_
    show Go p e below s _ _ _ (T223.setTop (mkF m 270 #[.val (.int xa), .val (.int xb), .val (.int xc), .val (.int sel), .val (.int ((xa &&& (255 : Int32)).toUInt32.toUInt16.toUInt32.toInt32)), .val (.int ((((xa.toUInt32 >>> ((8 : Int32) &&& 31).toUInt32).toInt32) &&& (255 : Int32)).toUInt32.toUInt16.toUInt32.toInt32)), .val (.int ((xb &&& (255 : Int32)).toUInt32.toUInt16.toUInt32.toInt32)), .val (.int ((((xb.toUInt32 >>> ((8 : Int32) &&& 31).toUInt32).toInt32) &&& (255 : Int32)).toUInt32.toUInt16.toUInt32.toInt32)), .val (.int ((xc &&& (255 : Int32)).toUInt32.toUInt16.toUInt32.toInt32)), .val (.int ((((xc.toUInt32 >>> ((8 : Int32) &&& 31).toUInt32).toInt32) &&& (255 : Int32)).toUInt32.toUInt16.toUInt32.toInt32)), .val (.ref b1), .val (.ref b18), .val (.ref b54), .val (.ref b113), .val (.int (0 : Int32)), .val (.ref b1), .val (.ref b1), .val (.ref b1), .val (.ref b1)] []))
    refine Go.st (fun _ k' => XS.aload X223.here hx rfl (hb hby at_270) rfl rfl k') ?_
    show Go p e below s _ _ _ (T223.setTop (mkF m 272 #[.val (.int xa), .val (.int xb), .val (.int xc), .val (.int sel), .val (.int ((xa &&& (255 : Int32)).toUInt32.toUInt16.toUInt32.toInt32)), .val (.int ((((xa.toUInt32 >>> ((8 : Int32) &&& 31).toUInt32).toInt32) &&& (255 : Int32)).toUInt32.toUInt16.toUInt32.toInt32)), .val (.int ((xb &&& (255 : Int32)).toUInt32.toUInt16.toUInt32.toInt32)), .val (.int ((((xb.toUInt32 >>> ((8 : Int32) &&& 31).toUInt32).toInt32) &&& (255 : Int32)).toUInt32.toUInt16.toUInt32.toInt32)), .val (.int ((xc &&& (255 : Int32)).toUInt32.toUInt16.toUInt32.toInt32)), .val (.int ((((xc.toUInt32 >>> ((8 : Int32) &&& 31).toUInt32).toInt32) &&& (255 : Int32)).toUInt32.toUInt16.toUInt32.toInt32)), .val (.ref b1), .val (.ref b18), .val (.ref b54), .val (.ref b113), .val (.int (0 : Int32)), .val (.ref b1), .val (.ref b1), .val (.ref b1), .val (.ref b1)] [(.ref b1)]))
    refine Go.st (fun _ k' => XS.aload X223.here hx rfl (hb hby at_272) rfl rfl k') ?_
    show Go p e below s _ _ _ (T223.setTop (mkF m 274 #[.val (.int xa), .val (.int xb), .val (.int xc), .val (.int sel), .val (.int ((xa &&& (255 : Int32)).toUInt32.toUInt16.toUInt32.toInt32)), .val (.int ((((xa.toUInt32 >>> ((8 : Int32) &&& 31).toUInt32).toInt32) &&& (255 : Int32)).toUInt32.toUInt16.toUInt32.toInt32)), .val (.int ((xb &&& (255 : Int32)).toUInt32.toUInt16.toUInt32.toInt32)), .val (.int ((((xb.toUInt32 >>> ((8 : Int32) &&& 31).toUInt32).toInt32) &&& (255 : Int32)).toUInt32.toUInt16.toUInt32.toInt32)), .val (.int ((xc &&& (255 : Int32)).toUInt32.toUInt16.toUInt32.toInt32)), .val (.int ((((xc.toUInt32 >>> ((8 : Int32) &&& 31).toUInt32).toInt32) &&& (255 : Int32)).toUInt32.toUInt16.toUInt32.toInt32)), .val (.ref b1), .val (.ref b18), .val (.ref b54), .val (.ref b113), .val (.int (0 : Int32)), .val (.ref b1), .val (.ref b1), .val (.ref b1), .val (.ref b1)] [(.ref b1), (.ref b1)]))
    obtain ⟨cq224, kq224, q224a, q224b, q224c⟩ := isOf hZ eq223 f213
    obtain ⟨_, _, ⟨T224, L224, k224, n224⟩, -, X224, ⟨Lc224, hQ224, l224, y224, z224⟩, st224⟩ := X223.virtualBack hx (y := (⟨"java/lang/String", "equals", "(Ljava/lang/Object;)Z"⟩ : MethodName)) (z := (⟨"java/lang/String", "equals", "(Ljava/lang/Object;)Z"⟩ : MethodName)) hown (mvT hZ (wdx hw 108 rfl)) (mvT hZ (wdx hw 109 rfl)) (notFace_of_selects (args := #[]) (mvT hZ (wdx hw 111 rfl))) (mvT hZ (wdx hw 111 rfl)) (mvT hZ (wdx hw 110 rfl)) (by decide) (backOf (W := 0) (rm16 l Z a0 hw [] b1 T210.heap n0 O210 ) hZ (wdx hw 112 rfl) (wdx hw 2 rfl) (by decide) (by decide)) q224a q224c (g := (mkF m 274 #[.val (.int xa), .val (.int xb), .val (.int xc), .val (.int sel), .val (.int ((xa &&& (255 : Int32)).toUInt32.toUInt16.toUInt32.toInt32)), .val (.int ((((xa.toUInt32 >>> ((8 : Int32) &&& 31).toUInt32).toInt32) &&& (255 : Int32)).toUInt32.toUInt16.toUInt32.toInt32)), .val (.int ((xb &&& (255 : Int32)).toUInt32.toUInt16.toUInt32.toInt32)), .val (.int ((((xb.toUInt32 >>> ((8 : Int32) &&& 31).toUInt32).toInt32) &&& (255 : Int32)).toUInt32.toUInt16.toUInt32.toInt32)), .val (.int ((xc &&& (255 : Int32)).toUInt32.toUInt16.toUInt32.toInt32)), .val (.int ((((xc.toUInt32 >>> ((8 : Int32) &&& 31).toUInt32).toInt32) &&& (255 : Int32)).toUInt32.toUInt16.toUInt32.toInt32)), .val (.ref b1), .val (.ref b18), .val (.ref b54), .val (.ref b113), .val (.int (0 : Int32)), .val (.ref b1), .val (.ref b1), .val (.ref b1), .val (.ref b1)] [(.ref b1), (.ref b1)])) rfl (by rw [hml]; rfl) (Steps.refl _) (argsL := [(.ref b1)]) (rest := []) (lenOf pd__Ljava_lang_Object__Z rfl) rfl (by show 2 * 0 + _ ≤ _; exact Nat.le_of_eq rfl) (hb hby at_274) (fun _ _ => ⟨rfl, eq223, (by exact Nat.le_of_ble_eq_true rfl), (by exact Nat.le_of_ble_eq_true rfl)⟩)
    dsimp only [Pt.U, Pt.locs, Pt.cells, Pt.slots] at X224 l224 y224 z224 st224 hQ224
    subst l224 y224 z224
    obtain ⟨rfl, Nq224, eq224⟩ := hQ224
    have N224 := Fr.app N223 Nq224
    refine Go.tr st224 ?_
    show Go p e below s _ _ _ (T224.setTop (mkF m 277 #[.val (.int xa), .val (.int xb), .val (.int xc), .val (.int sel), .val (.int ((xa &&& (255 : Int32)).toUInt32.toUInt16.toUInt32.toInt32)), .val (.int ((((xa.toUInt32 >>> ((8 : Int32) &&& 31).toUInt32).toInt32) &&& (255 : Int32)).toUInt32.toUInt16.toUInt32.toInt32)), .val (.int ((xb &&& (255 : Int32)).toUInt32.toUInt16.toUInt32.toInt32)), .val (.int ((((xb.toUInt32 >>> ((8 : Int32) &&& 31).toUInt32).toInt32) &&& (255 : Int32)).toUInt32.toUInt16.toUInt32.toInt32)), .val (.int ((xc &&& (255 : Int32)).toUInt32.toUInt16.toUInt32.toInt32)), .val (.int ((((xc.toUInt32 >>> ((8 : Int32) &&& 31).toUInt32).toInt32) &&& (255 : Int32)).toUInt32.toUInt16.toUInt32.toInt32)), .val (.ref b1), .val (.ref b18), .val (.ref b54), .val (.ref b113), .val (.int (0 : Int32)), .val (.ref b1), .val (.ref b1), .val (.ref b1), .val (.ref b1)] [(.int (1 : Int32))]))
    refine Go.st (fun _ k' => XS.ifNo X224.here hx rfl (hb hby at_277) rfl (XT.i0_eq_f (by decide)) k') ?_
    show Go p e below s _ _ _ (T224.setTop (mkF m 280 #[.val (.int xa), .val (.int xb), .val (.int xc), .val (.int sel), .val (.int ((xa &&& (255 : Int32)).toUInt32.toUInt16.toUInt32.toInt32)), .val (.int ((((xa.toUInt32 >>> ((8 : Int32) &&& 31).toUInt32).toInt32) &&& (255 : Int32)).toUInt32.toUInt16.toUInt32.toInt32)), .val (.int ((xb &&& (255 : Int32)).toUInt32.toUInt16.toUInt32.toInt32)), .val (.int ((((xb.toUInt32 >>> ((8 : Int32) &&& 31).toUInt32).toInt32) &&& (255 : Int32)).toUInt32.toUInt16.toUInt32.toInt32)), .val (.int ((xc &&& (255 : Int32)).toUInt32.toUInt16.toUInt32.toInt32)), .val (.int ((((xc.toUInt32 >>> ((8 : Int32) &&& 31).toUInt32).toInt32) &&& (255 : Int32)).toUInt32.toUInt16.toUInt32.toInt32)), .val (.ref b1), .val (.ref b18), .val (.ref b54), .val (.ref b113), .val (.int (0 : Int32)), .val (.ref b1), .val (.ref b1), .val (.ref b1), .val (.ref b1)] []))
    refine Go.st (fun _ k' => XS.aload X224.here hx rfl (hb hby at_280) rfl rfl k') ?_
    show Go p e below s _ _ _ (T224.setTop (mkF m 282 #[.val (.int xa), .val (.int xb), .val (.int xc), .val (.int sel), .val (.int ((xa &&& (255 : Int32)).toUInt32.toUInt16.toUInt32.toInt32)), .val (.int ((((xa.toUInt32 >>> ((8 : Int32) &&& 31).toUInt32).toInt32) &&& (255 : Int32)).toUInt32.toUInt16.toUInt32.toInt32)), .val (.int ((xb &&& (255 : Int32)).toUInt32.toUInt16.toUInt32.toInt32)), .val (.int ((((xb.toUInt32 >>> ((8 : Int32) &&& 31).toUInt32).toInt32) &&& (255 : Int32)).toUInt32.toUInt16.toUInt32.toInt32)), .val (.int ((xc &&& (255 : Int32)).toUInt32.toUInt16.toUInt32.toInt32)), .val (.int ((((xc.toUInt32 >>> ((8 : Int32) &&& 31).toUInt32).toInt32) &&& (255 : Int32)).toUInt32.toUInt16.toUInt32.toInt32)), .val (.ref b1), .val (.ref b18), .val (.ref b54), .val (.ref b113), .val (.int (0 : Int32)), .val (.ref b1), .val (.ref b1), .val (.ref b1), .val (.ref b1)] [(.ref b1)]))
    refine Go.st (fun _ k' => XS.aload X224.here hx rfl (hb hby at_282) rfl rfl k') ?_
    show Go p e below s _ _ _ (T224.setTop (mkF m 284 #[.val (.int xa), .val (.int xb), .val (.int xc), .val (.int sel), .val (.int ((xa &&& (255 : Int32)).toUInt32.toUInt16.toUInt32.toInt32)), .val (.int ((((xa.toUInt32 >>> ((8 : Int32) &&& 31).toUInt32).toInt32) &&& (255 : Int32)).toUInt32.toUInt16.toUInt32.toInt32)), .val (.int ((xb &&& (255 : Int32)).toUInt32.toUInt16.toUInt32.toInt32)), .val (.int ((((xb.toUInt32 >>> ((8 : Int32) &&& 31).toUInt32).toInt32) &&& (255 : Int32)).toUInt32.toUInt16.toUInt32.toInt32)), .val (.int ((xc &&& (255 : Int32)).toUInt32.toUInt16.toUInt32.toInt32)), .val (.int ((((xc.toUInt32 >>> ((8 : Int32) &&& 31).toUInt32).toInt32) &&& (255 : Int32)).toUInt32.toUInt16.toUInt32.toInt32)), .val (.ref b1), .val (.ref b18), .val (.ref b54), .val (.ref b113), .val (.int (0 : Int32)), .val (.ref b1), .val (.ref b1), .val (.ref b1), .val (.ref b1)] [(.ref b1), (.ref b1)]))
    obtain ⟨cq225, kq225, q225a, q225b, q225c⟩ := isOf hZ eq224 f213
    obtain ⟨_, _, ⟨T225, L225, k225, n225⟩, -, X225, ⟨Lc225, hQ225, l225, y225, z225⟩, st225⟩ := X224.virtualBack hx (y := (⟨"java/lang/String", "equals", "(Ljava/lang/Object;)Z"⟩ : MethodName)) (z := (⟨"java/lang/String", "equals", "(Ljava/lang/Object;)Z"⟩ : MethodName)) hown (mvT hZ (wdx hw 108 rfl)) (mvT hZ (wdx hw 109 rfl)) (notFace_of_selects (args := #[]) (mvT hZ (wdx hw 111 rfl))) (mvT hZ (wdx hw 111 rfl)) (mvT hZ (wdx hw 110 rfl)) (by decide) (backOf (W := 0) (rm16 l Z a0 hw [] b1 T210.heap n0 O210 ) hZ (wdx hw 112 rfl) (wdx hw 2 rfl) (by decide) (by decide)) q225a q225c (g := (mkF m 284 #[.val (.int xa), .val (.int xb), .val (.int xc), .val (.int sel), .val (.int ((xa &&& (255 : Int32)).toUInt32.toUInt16.toUInt32.toInt32)), .val (.int ((((xa.toUInt32 >>> ((8 : Int32) &&& 31).toUInt32).toInt32) &&& (255 : Int32)).toUInt32.toUInt16.toUInt32.toInt32)), .val (.int ((xb &&& (255 : Int32)).toUInt32.toUInt16.toUInt32.toInt32)), .val (.int ((((xb.toUInt32 >>> ((8 : Int32) &&& 31).toUInt32).toInt32) &&& (255 : Int32)).toUInt32.toUInt16.toUInt32.toInt32)), .val (.int ((xc &&& (255 : Int32)).toUInt32.toUInt16.toUInt32.toInt32)), .val (.int ((((xc.toUInt32 >>> ((8 : Int32) &&& 31).toUInt32).toInt32) &&& (255 : Int32)).toUInt32.toUInt16.toUInt32.toInt32)), .val (.ref b1), .val (.ref b18), .val (.ref b54), .val (.ref b113), .val (.int (0 : Int32)), .val (.ref b1), .val (.ref b1), .val (.ref b1), .val (.ref b1)] [(.ref b1), (.ref b1)])) rfl (by rw [hml]; rfl) (Steps.refl _) (argsL := [(.ref b1)]) (rest := []) (lenOf pd__Ljava_lang_Object__Z rfl) rfl (by show 2 * 0 + _ ≤ _; exact Nat.le_of_eq rfl) (hb hby at_284) (fun _ _ => ⟨rfl, eq224, (by exact Nat.le_of_ble_eq_true rfl), (by exact Nat.le_of_ble_eq_true rfl)⟩)
    dsimp only [Pt.U, Pt.locs, Pt.cells, Pt.slots] at X225 l225 y225 z225 st225 hQ225
    subst l225 y225 z225
    obtain ⟨rfl, Nq225, eq225⟩ := hQ225
    have N225 := Fr.app N224 Nq225
    refine Go.tr st225 ?_
    show Go p e below s _ _ _ (T225.setTop (mkF m 287 #[.val (.int xa), .val (.int xb), .val (.int xc), .val (.int sel), .val (.int ((xa &&& (255 : Int32)).toUInt32.toUInt16.toUInt32.toInt32)), .val (.int ((((xa.toUInt32 >>> ((8 : Int32) &&& 31).toUInt32).toInt32) &&& (255 : Int32)).toUInt32.toUInt16.toUInt32.toInt32)), .val (.int ((xb &&& (255 : Int32)).toUInt32.toUInt16.toUInt32.toInt32)), .val (.int ((((xb.toUInt32 >>> ((8 : Int32) &&& 31).toUInt32).toInt32) &&& (255 : Int32)).toUInt32.toUInt16.toUInt32.toInt32)), .val (.int ((xc &&& (255 : Int32)).toUInt32.toUInt16.toUInt32.toInt32)), .val (.int ((((xc.toUInt32 >>> ((8 : Int32) &&& 31).toUInt32).toInt32) &&& (255 : Int32)).toUInt32.toUInt16.toUInt32.toInt32)), .val (.ref b1), .val (.ref b18), .val (.ref b54), .val (.ref b113), .val (.int (0 : Int32)), .val (.ref b1), .val (.ref b1), .val (.ref b1), .val (.ref b1)] [(.int (1 : Int32))]))
    refine Go.st (fun _ k' => XS.ifNo X225.here hx rfl (hb hby at_287) rfl (XT.i0_eq_f (by decide)) k') ?_
    show Go p e below s _ _ _ (T225.setTop (mkF m 290 #[.val (.int xa), .val (.int xb), .val (.int xc), .val (.int sel), .val (.int ((xa &&& (255 : Int32)).toUInt32.toUInt16.toUInt32.toInt32)), .val (.int ((((xa.toUInt32 >>> ((8 : Int32) &&& 31).toUInt32).toInt32) &&& (255 : Int32)).toUInt32.toUInt16.toUInt32.toInt32)), .val (.int ((xb &&& (255 : Int32)).toUInt32.toUInt16.toUInt32.toInt32)), .val (.int ((((xb.toUInt32 >>> ((8 : Int32) &&& 31).toUInt32).toInt32) &&& (255 : Int32)).toUInt32.toUInt16.toUInt32.toInt32)), .val (.int ((xc &&& (255 : Int32)).toUInt32.toUInt16.toUInt32.toInt32)), .val (.int ((((xc.toUInt32 >>> ((8 : Int32) &&& 31).toUInt32).toInt32) &&& (255 : Int32)).toUInt32.toUInt16.toUInt32.toInt32)), .val (.ref b1), .val (.ref b18), .val (.ref b54), .val (.ref b113), .val (.int (0 : Int32)), .val (.ref b1), .val (.ref b1), .val (.ref b1), .val (.ref b1)] []))
    refine Go.st (fun _ k' => XS.iconst X225.here hx rfl (hb hby at_290) k') ?_
    show Go p e below s _ _ _ (T225.setTop (mkF m 291 #[.val (.int xa), .val (.int xb), .val (.int xc), .val (.int sel), .val (.int ((xa &&& (255 : Int32)).toUInt32.toUInt16.toUInt32.toInt32)), .val (.int ((((xa.toUInt32 >>> ((8 : Int32) &&& 31).toUInt32).toInt32) &&& (255 : Int32)).toUInt32.toUInt16.toUInt32.toInt32)), .val (.int ((xb &&& (255 : Int32)).toUInt32.toUInt16.toUInt32.toInt32)), .val (.int ((((xb.toUInt32 >>> ((8 : Int32) &&& 31).toUInt32).toInt32) &&& (255 : Int32)).toUInt32.toUInt16.toUInt32.toInt32)), .val (.int ((xc &&& (255 : Int32)).toUInt32.toUInt16.toUInt32.toInt32)), .val (.int ((((xc.toUInt32 >>> ((8 : Int32) &&& 31).toUInt32).toInt32) &&& (255 : Int32)).toUInt32.toUInt16.toUInt32.toInt32)), .val (.ref b1), .val (.ref b18), .val (.ref b54), .val (.ref b113), .val (.int (0 : Int32)), .val (.ref b1), .val (.ref b1), .val (.ref b1), .val (.ref b1)] [(.int (1 : Int32))]))
    refine Go.st (fun _ k' => XS.goto X225.here hx rfl (pc0 := 291) (pc' := 295) rfl (hb hby at_291) (by decide) (by decide) k') ?_
    show Go p e below s _ _ _ (T225.setTop (mkF m 295 #[.val (.int xa), .val (.int xb), .val (.int xc), .val (.int sel), .val (.int ((xa &&& (255 : Int32)).toUInt32.toUInt16.toUInt32.toInt32)), .val (.int ((((xa.toUInt32 >>> ((8 : Int32) &&& 31).toUInt32).toInt32) &&& (255 : Int32)).toUInt32.toUInt16.toUInt32.toInt32)), .val (.int ((xb &&& (255 : Int32)).toUInt32.toUInt16.toUInt32.toInt32)), .val (.int ((((xb.toUInt32 >>> ((8 : Int32) &&& 31).toUInt32).toInt32) &&& (255 : Int32)).toUInt32.toUInt16.toUInt32.toInt32)), .val (.int ((xc &&& (255 : Int32)).toUInt32.toUInt16.toUInt32.toInt32)), .val (.int ((((xc.toUInt32 >>> ((8 : Int32) &&& 31).toUInt32).toInt32) &&& (255 : Int32)).toUInt32.toUInt16.toUInt32.toInt32)), .val (.ref b1), .val (.ref b18), .val (.ref b54), .val (.ref b113), .val (.int (0 : Int32)), .val (.ref b1), .val (.ref b1), .val (.ref b1), .val (.ref b1)] [(.int (1 : Int32))]))
    refine Go.retB X225 hx hlk (t := .boolean) Bd.returns (by simp) (hb hby at_295) (by decide) (by decide) eq225 ?_
    exact ⟨rfl, N225, trivial⟩
  · rw [hi]
    show Go p e below s _ _ _ (T187.setTop (mkF m 159 #[.val (.int xa), .val (.int xb), .val (.int xc), .val (.int sel), .val (.int ((xa &&& (255 : Int32)).toUInt32.toUInt16.toUInt32.toInt32)), .val (.int ((((xa.toUInt32 >>> ((8 : Int32) &&& 31).toUInt32).toInt32) &&& (255 : Int32)).toUInt32.toUInt16.toUInt32.toInt32)), .val (.int ((xb &&& (255 : Int32)).toUInt32.toUInt16.toUInt32.toInt32)), .val (.int ((((xb.toUInt32 >>> ((8 : Int32) &&& 31).toUInt32).toInt32) &&& (255 : Int32)).toUInt32.toUInt16.toUInt32.toInt32)), .val (.int ((xc &&& (255 : Int32)).toUInt32.toUInt16.toUInt32.toInt32)), .val (.int ((((xc.toUInt32 >>> ((8 : Int32) &&& 31).toUInt32).toInt32) &&& (255 : Int32)).toUInt32.toUInt16.toUInt32.toInt32)), .val (.ref b1), .val (.ref b18), .val (.ref b54), .val (.ref b113), .val (.int (1 : Int32)), .unset, .unset, .unset, .unset] []))
    refine Go.st (fun _ k' => XS.aload X187.here hx rfl (hb hby at_159) rfl rfl k') ?_
    show Go p e below s _ _ _ (T187.setTop (mkF m 161 #[.val (.int xa), .val (.int xb), .val (.int xc), .val (.int sel), .val (.int ((xa &&& (255 : Int32)).toUInt32.toUInt16.toUInt32.toInt32)), .val (.int ((((xa.toUInt32 >>> ((8 : Int32) &&& 31).toUInt32).toInt32) &&& (255 : Int32)).toUInt32.toUInt16.toUInt32.toInt32)), .val (.int ((xb &&& (255 : Int32)).toUInt32.toUInt16.toUInt32.toInt32)), .val (.int ((((xb.toUInt32 >>> ((8 : Int32) &&& 31).toUInt32).toInt32) &&& (255 : Int32)).toUInt32.toUInt16.toUInt32.toInt32)), .val (.int ((xc &&& (255 : Int32)).toUInt32.toUInt16.toUInt32.toInt32)), .val (.int ((((xc.toUInt32 >>> ((8 : Int32) &&& 31).toUInt32).toInt32) &&& (255 : Int32)).toUInt32.toUInt16.toUInt32.toInt32)), .val (.ref b1), .val (.ref b18), .val (.ref b54), .val (.ref b113), .val (.int (1 : Int32)), .unset, .unset, .unset, .unset] [(.ref b1)]))
    refine Go.st (fun _ k' => XS.astore X187.here hx rfl (hb hby at_161) rfl rfl (l' := #[.val (.int xa), .val (.int xb), .val (.int xc), .val (.int sel), .val (.int ((xa &&& (255 : Int32)).toUInt32.toUInt16.toUInt32.toInt32)), .val (.int ((((xa.toUInt32 >>> ((8 : Int32) &&& 31).toUInt32).toInt32) &&& (255 : Int32)).toUInt32.toUInt16.toUInt32.toInt32)), .val (.int ((xb &&& (255 : Int32)).toUInt32.toUInt16.toUInt32.toInt32)), .val (.int ((((xb.toUInt32 >>> ((8 : Int32) &&& 31).toUInt32).toInt32) &&& (255 : Int32)).toUInt32.toUInt16.toUInt32.toInt32)), .val (.int ((xc &&& (255 : Int32)).toUInt32.toUInt16.toUInt32.toInt32)), .val (.int ((((xc.toUInt32 >>> ((8 : Int32) &&& 31).toUInt32).toInt32) &&& (255 : Int32)).toUInt32.toUInt16.toUInt32.toInt32)), .val (.ref b1), .val (.ref b18), .val (.ref b54), .val (.ref b113), .val (.int (1 : Int32)), .val (.ref b1), .unset, .unset, .unset]) rfl k') ?_
    show Go p e below s _ _ _ (T187.setTop (mkF m 163 #[.val (.int xa), .val (.int xb), .val (.int xc), .val (.int sel), .val (.int ((xa &&& (255 : Int32)).toUInt32.toUInt16.toUInt32.toInt32)), .val (.int ((((xa.toUInt32 >>> ((8 : Int32) &&& 31).toUInt32).toInt32) &&& (255 : Int32)).toUInt32.toUInt16.toUInt32.toInt32)), .val (.int ((xb &&& (255 : Int32)).toUInt32.toUInt16.toUInt32.toInt32)), .val (.int ((((xb.toUInt32 >>> ((8 : Int32) &&& 31).toUInt32).toInt32) &&& (255 : Int32)).toUInt32.toUInt16.toUInt32.toInt32)), .val (.int ((xc &&& (255 : Int32)).toUInt32.toUInt16.toUInt32.toInt32)), .val (.int ((((xc.toUInt32 >>> ((8 : Int32) &&& 31).toUInt32).toInt32) &&& (255 : Int32)).toUInt32.toUInt16.toUInt32.toInt32)), .val (.ref b1), .val (.ref b18), .val (.ref b54), .val (.ref b113), .val (.int (1 : Int32)), .val (.ref b1), .unset, .unset, .unset] []))
    refine Go.st (fun _ k' => XS.iload X187.here hx rfl (hb hby at_163) rfl k') ?_
    show Go p e below s _ _ _ (T187.setTop (mkF m 165 #[.val (.int xa), .val (.int xb), .val (.int xc), .val (.int sel), .val (.int ((xa &&& (255 : Int32)).toUInt32.toUInt16.toUInt32.toInt32)), .val (.int ((((xa.toUInt32 >>> ((8 : Int32) &&& 31).toUInt32).toInt32) &&& (255 : Int32)).toUInt32.toUInt16.toUInt32.toInt32)), .val (.int ((xb &&& (255 : Int32)).toUInt32.toUInt16.toUInt32.toInt32)), .val (.int ((((xb.toUInt32 >>> ((8 : Int32) &&& 31).toUInt32).toInt32) &&& (255 : Int32)).toUInt32.toUInt16.toUInt32.toInt32)), .val (.int ((xc &&& (255 : Int32)).toUInt32.toUInt16.toUInt32.toInt32)), .val (.int ((((xc.toUInt32 >>> ((8 : Int32) &&& 31).toUInt32).toInt32) &&& (255 : Int32)).toUInt32.toUInt16.toUInt32.toInt32)), .val (.ref b1), .val (.ref b18), .val (.ref b54), .val (.ref b113), .val (.int (1 : Int32)), .val (.ref b1), .unset, .unset, .unset] [(.int (1 : Int32))]))
    refine Go.st (fun _ k' => XS.iconst X187.here hx rfl (hb hby at_165) k') ?_
    show Go p e below s _ _ _ (T187.setTop (mkF m 166 #[.val (.int xa), .val (.int xb), .val (.int xc), .val (.int sel), .val (.int ((xa &&& (255 : Int32)).toUInt32.toUInt16.toUInt32.toInt32)), .val (.int ((((xa.toUInt32 >>> ((8 : Int32) &&& 31).toUInt32).toInt32) &&& (255 : Int32)).toUInt32.toUInt16.toUInt32.toInt32)), .val (.int ((xb &&& (255 : Int32)).toUInt32.toUInt16.toUInt32.toInt32)), .val (.int ((((xb.toUInt32 >>> ((8 : Int32) &&& 31).toUInt32).toInt32) &&& (255 : Int32)).toUInt32.toUInt16.toUInt32.toInt32)), .val (.int ((xc &&& (255 : Int32)).toUInt32.toUInt16.toUInt32.toInt32)), .val (.int ((((xc.toUInt32 >>> ((8 : Int32) &&& 31).toUInt32).toInt32) &&& (255 : Int32)).toUInt32.toUInt16.toUInt32.toInt32)), .val (.ref b1), .val (.ref b18), .val (.ref b54), .val (.ref b113), .val (.int (1 : Int32)), .val (.ref b1), .unset, .unset, .unset] [(.int (1 : Int32)), (.int (1 : Int32))]))
    refine Go.st (fun _ k' => XS.icmpNo X187.here hx rfl (hb hby at_166) rfl (XT.ii_ne_f (by decide)) k') ?_
    show Go p e below s _ _ _ (T187.setTop (mkF m 169 #[.val (.int xa), .val (.int xb), .val (.int xc), .val (.int sel), .val (.int ((xa &&& (255 : Int32)).toUInt32.toUInt16.toUInt32.toInt32)), .val (.int ((((xa.toUInt32 >>> ((8 : Int32) &&& 31).toUInt32).toInt32) &&& (255 : Int32)).toUInt32.toUInt16.toUInt32.toInt32)), .val (.int ((xb &&& (255 : Int32)).toUInt32.toUInt16.toUInt32.toInt32)), .val (.int ((((xb.toUInt32 >>> ((8 : Int32) &&& 31).toUInt32).toInt32) &&& (255 : Int32)).toUInt32.toUInt16.toUInt32.toInt32)), .val (.int ((xc &&& (255 : Int32)).toUInt32.toUInt16.toUInt32.toInt32)), .val (.int ((((xc.toUInt32 >>> ((8 : Int32) &&& 31).toUInt32).toInt32) &&& (255 : Int32)).toUInt32.toUInt16.toUInt32.toInt32)), .val (.ref b1), .val (.ref b18), .val (.ref b54), .val (.ref b113), .val (.int (1 : Int32)), .val (.ref b1), .unset, .unset, .unset] []))
    refine Go.st (fun _ k' => XS.aload X187.here hx rfl (hb hby at_169) rfl rfl k') ?_
    show Go p e below s _ _ _ (T187.setTop (mkF m 171 #[.val (.int xa), .val (.int xb), .val (.int xc), .val (.int sel), .val (.int ((xa &&& (255 : Int32)).toUInt32.toUInt16.toUInt32.toInt32)), .val (.int ((((xa.toUInt32 >>> ((8 : Int32) &&& 31).toUInt32).toInt32) &&& (255 : Int32)).toUInt32.toUInt16.toUInt32.toInt32)), .val (.int ((xb &&& (255 : Int32)).toUInt32.toUInt16.toUInt32.toInt32)), .val (.int ((((xb.toUInt32 >>> ((8 : Int32) &&& 31).toUInt32).toInt32) &&& (255 : Int32)).toUInt32.toUInt16.toUInt32.toInt32)), .val (.int ((xc &&& (255 : Int32)).toUInt32.toUInt16.toUInt32.toInt32)), .val (.int ((((xc.toUInt32 >>> ((8 : Int32) &&& 31).toUInt32).toInt32) &&& (255 : Int32)).toUInt32.toUInt16.toUInt32.toInt32)), .val (.ref b1), .val (.ref b18), .val (.ref b54), .val (.ref b113), .val (.int (1 : Int32)), .val (.ref b1), .unset, .unset, .unset] [(.ref b18)]))
    refine Go.st (fun _ k' => XS.astore X187.here hx rfl (hb hby at_171) rfl rfl (l' := #[.val (.int xa), .val (.int xb), .val (.int xc), .val (.int sel), .val (.int ((xa &&& (255 : Int32)).toUInt32.toUInt16.toUInt32.toInt32)), .val (.int ((((xa.toUInt32 >>> ((8 : Int32) &&& 31).toUInt32).toInt32) &&& (255 : Int32)).toUInt32.toUInt16.toUInt32.toInt32)), .val (.int ((xb &&& (255 : Int32)).toUInt32.toUInt16.toUInt32.toInt32)), .val (.int ((((xb.toUInt32 >>> ((8 : Int32) &&& 31).toUInt32).toInt32) &&& (255 : Int32)).toUInt32.toUInt16.toUInt32.toInt32)), .val (.int ((xc &&& (255 : Int32)).toUInt32.toUInt16.toUInt32.toInt32)), .val (.int ((((xc.toUInt32 >>> ((8 : Int32) &&& 31).toUInt32).toInt32) &&& (255 : Int32)).toUInt32.toUInt16.toUInt32.toInt32)), .val (.ref b1), .val (.ref b18), .val (.ref b54), .val (.ref b113), .val (.int (1 : Int32)), .val (.ref b18), .unset, .unset, .unset]) rfl k') ?_
    show Go p e below s _ _ _ (T187.setTop (mkF m 173 #[.val (.int xa), .val (.int xb), .val (.int xc), .val (.int sel), .val (.int ((xa &&& (255 : Int32)).toUInt32.toUInt16.toUInt32.toInt32)), .val (.int ((((xa.toUInt32 >>> ((8 : Int32) &&& 31).toUInt32).toInt32) &&& (255 : Int32)).toUInt32.toUInt16.toUInt32.toInt32)), .val (.int ((xb &&& (255 : Int32)).toUInt32.toUInt16.toUInt32.toInt32)), .val (.int ((((xb.toUInt32 >>> ((8 : Int32) &&& 31).toUInt32).toInt32) &&& (255 : Int32)).toUInt32.toUInt16.toUInt32.toInt32)), .val (.int ((xc &&& (255 : Int32)).toUInt32.toUInt16.toUInt32.toInt32)), .val (.int ((((xc.toUInt32 >>> ((8 : Int32) &&& 31).toUInt32).toInt32) &&& (255 : Int32)).toUInt32.toUInt16.toUInt32.toInt32)), .val (.ref b1), .val (.ref b18), .val (.ref b54), .val (.ref b113), .val (.int (1 : Int32)), .val (.ref b18), .unset, .unset, .unset] []))
    refine Go.st (fun _ k' => XS.iload X187.here hx rfl (hb hby at_173) rfl k') ?_
    show Go p e below s _ _ _ (T187.setTop (mkF m 175 #[.val (.int xa), .val (.int xb), .val (.int xc), .val (.int sel), .val (.int ((xa &&& (255 : Int32)).toUInt32.toUInt16.toUInt32.toInt32)), .val (.int ((((xa.toUInt32 >>> ((8 : Int32) &&& 31).toUInt32).toInt32) &&& (255 : Int32)).toUInt32.toUInt16.toUInt32.toInt32)), .val (.int ((xb &&& (255 : Int32)).toUInt32.toUInt16.toUInt32.toInt32)), .val (.int ((((xb.toUInt32 >>> ((8 : Int32) &&& 31).toUInt32).toInt32) &&& (255 : Int32)).toUInt32.toUInt16.toUInt32.toInt32)), .val (.int ((xc &&& (255 : Int32)).toUInt32.toUInt16.toUInt32.toInt32)), .val (.int ((((xc.toUInt32 >>> ((8 : Int32) &&& 31).toUInt32).toInt32) &&& (255 : Int32)).toUInt32.toUInt16.toUInt32.toInt32)), .val (.ref b1), .val (.ref b18), .val (.ref b54), .val (.ref b113), .val (.int (1 : Int32)), .val (.ref b18), .unset, .unset, .unset] [(.int (1 : Int32))]))
    refine Go.st (fun _ k' => XS.iconst X187.here hx rfl (hb hby at_175) k') ?_
    show Go p e below s _ _ _ (T187.setTop (mkF m 176 #[.val (.int xa), .val (.int xb), .val (.int xc), .val (.int sel), .val (.int ((xa &&& (255 : Int32)).toUInt32.toUInt16.toUInt32.toInt32)), .val (.int ((((xa.toUInt32 >>> ((8 : Int32) &&& 31).toUInt32).toInt32) &&& (255 : Int32)).toUInt32.toUInt16.toUInt32.toInt32)), .val (.int ((xb &&& (255 : Int32)).toUInt32.toUInt16.toUInt32.toInt32)), .val (.int ((((xb.toUInt32 >>> ((8 : Int32) &&& 31).toUInt32).toInt32) &&& (255 : Int32)).toUInt32.toUInt16.toUInt32.toInt32)), .val (.int ((xc &&& (255 : Int32)).toUInt32.toUInt16.toUInt32.toInt32)), .val (.int ((((xc.toUInt32 >>> ((8 : Int32) &&& 31).toUInt32).toInt32) &&& (255 : Int32)).toUInt32.toUInt16.toUInt32.toInt32)), .val (.ref b1), .val (.ref b18), .val (.ref b54), .val (.ref b113), .val (.int (1 : Int32)), .val (.ref b18), .unset, .unset, .unset] [(.int (2 : Int32)), (.int (1 : Int32))]))
    refine Go.st (fun _ k' => XS.icmpYes X187.here hx rfl (pc0 := 176) (pc' := 183) rfl (hb hby at_176) rfl (XT.ii_ne_t (by decide)) (by decide) (by decide) k') ?_
    show Go p e below s _ _ _ (T187.setTop (mkF m 183 #[.val (.int xa), .val (.int xb), .val (.int xc), .val (.int sel), .val (.int ((xa &&& (255 : Int32)).toUInt32.toUInt16.toUInt32.toInt32)), .val (.int ((((xa.toUInt32 >>> ((8 : Int32) &&& 31).toUInt32).toInt32) &&& (255 : Int32)).toUInt32.toUInt16.toUInt32.toInt32)), .val (.int ((xb &&& (255 : Int32)).toUInt32.toUInt16.toUInt32.toInt32)), .val (.int ((((xb.toUInt32 >>> ((8 : Int32) &&& 31).toUInt32).toInt32) &&& (255 : Int32)).toUInt32.toUInt16.toUInt32.toInt32)), .val (.int ((xc &&& (255 : Int32)).toUInt32.toUInt16.toUInt32.toInt32)), .val (.int ((((xc.toUInt32 >>> ((8 : Int32) &&& 31).toUInt32).toInt32) &&& (255 : Int32)).toUInt32.toUInt16.toUInt32.toInt32)), .val (.ref b1), .val (.ref b18), .val (.ref b54), .val (.ref b113), .val (.int (1 : Int32)), .val (.ref b18), .unset, .unset, .unset] []))
    refine Go.st (fun _ k' => XS.iload X187.here hx rfl (hb hby at_183) rfl k') ?_
    show Go p e below s _ _ _ (T187.setTop (mkF m 185 #[.val (.int xa), .val (.int xb), .val (.int xc), .val (.int sel), .val (.int ((xa &&& (255 : Int32)).toUInt32.toUInt16.toUInt32.toInt32)), .val (.int ((((xa.toUInt32 >>> ((8 : Int32) &&& 31).toUInt32).toInt32) &&& (255 : Int32)).toUInt32.toUInt16.toUInt32.toInt32)), .val (.int ((xb &&& (255 : Int32)).toUInt32.toUInt16.toUInt32.toInt32)), .val (.int ((((xb.toUInt32 >>> ((8 : Int32) &&& 31).toUInt32).toInt32) &&& (255 : Int32)).toUInt32.toUInt16.toUInt32.toInt32)), .val (.int ((xc &&& (255 : Int32)).toUInt32.toUInt16.toUInt32.toInt32)), .val (.int ((((xc.toUInt32 >>> ((8 : Int32) &&& 31).toUInt32).toInt32) &&& (255 : Int32)).toUInt32.toUInt16.toUInt32.toInt32)), .val (.ref b1), .val (.ref b18), .val (.ref b54), .val (.ref b113), .val (.int (1 : Int32)), .val (.ref b18), .unset, .unset, .unset] [(.int (1 : Int32))]))
    refine Go.st (fun _ k' => XS.iconst X187.here hx rfl (hb hby at_185) k') ?_
    show Go p e below s _ _ _ (T187.setTop (mkF m 186 #[.val (.int xa), .val (.int xb), .val (.int xc), .val (.int sel), .val (.int ((xa &&& (255 : Int32)).toUInt32.toUInt16.toUInt32.toInt32)), .val (.int ((((xa.toUInt32 >>> ((8 : Int32) &&& 31).toUInt32).toInt32) &&& (255 : Int32)).toUInt32.toUInt16.toUInt32.toInt32)), .val (.int ((xb &&& (255 : Int32)).toUInt32.toUInt16.toUInt32.toInt32)), .val (.int ((((xb.toUInt32 >>> ((8 : Int32) &&& 31).toUInt32).toInt32) &&& (255 : Int32)).toUInt32.toUInt16.toUInt32.toInt32)), .val (.int ((xc &&& (255 : Int32)).toUInt32.toUInt16.toUInt32.toInt32)), .val (.int ((((xc.toUInt32 >>> ((8 : Int32) &&& 31).toUInt32).toInt32) &&& (255 : Int32)).toUInt32.toUInt16.toUInt32.toInt32)), .val (.ref b1), .val (.ref b18), .val (.ref b54), .val (.ref b113), .val (.int (1 : Int32)), .val (.ref b18), .unset, .unset, .unset] [(.int (1 : Int32)), (.int (1 : Int32))]))
    refine Go.st (fun _ k' => XS.icmpNo X187.here hx rfl (hb hby at_186) rfl (XT.ii_lt_f (by decide)) k') ?_
    show Go p e below s _ _ _ (T187.setTop (mkF m 189 #[.val (.int xa), .val (.int xb), .val (.int xc), .val (.int sel), .val (.int ((xa &&& (255 : Int32)).toUInt32.toUInt16.toUInt32.toInt32)), .val (.int ((((xa.toUInt32 >>> ((8 : Int32) &&& 31).toUInt32).toInt32) &&& (255 : Int32)).toUInt32.toUInt16.toUInt32.toInt32)), .val (.int ((xb &&& (255 : Int32)).toUInt32.toUInt16.toUInt32.toInt32)), .val (.int ((((xb.toUInt32 >>> ((8 : Int32) &&& 31).toUInt32).toInt32) &&& (255 : Int32)).toUInt32.toUInt16.toUInt32.toInt32)), .val (.int ((xc &&& (255 : Int32)).toUInt32.toUInt16.toUInt32.toInt32)), .val (.int ((((xc.toUInt32 >>> ((8 : Int32) &&& 31).toUInt32).toInt32) &&& (255 : Int32)).toUInt32.toUInt16.toUInt32.toInt32)), .val (.ref b1), .val (.ref b18), .val (.ref b54), .val (.ref b113), .val (.int (1 : Int32)), .val (.ref b18), .unset, .unset, .unset] []))
    refine Go.st (fun _ k' => XS.aload X187.here hx rfl (hb hby at_189) rfl rfl k') ?_
    show Go p e below s _ _ _ (T187.setTop (mkF m 191 #[.val (.int xa), .val (.int xb), .val (.int xc), .val (.int sel), .val (.int ((xa &&& (255 : Int32)).toUInt32.toUInt16.toUInt32.toInt32)), .val (.int ((((xa.toUInt32 >>> ((8 : Int32) &&& 31).toUInt32).toInt32) &&& (255 : Int32)).toUInt32.toUInt16.toUInt32.toInt32)), .val (.int ((xb &&& (255 : Int32)).toUInt32.toUInt16.toUInt32.toInt32)), .val (.int ((((xb.toUInt32 >>> ((8 : Int32) &&& 31).toUInt32).toInt32) &&& (255 : Int32)).toUInt32.toUInt16.toUInt32.toInt32)), .val (.int ((xc &&& (255 : Int32)).toUInt32.toUInt16.toUInt32.toInt32)), .val (.int ((((xc.toUInt32 >>> ((8 : Int32) &&& 31).toUInt32).toInt32) &&& (255 : Int32)).toUInt32.toUInt16.toUInt32.toInt32)), .val (.ref b1), .val (.ref b18), .val (.ref b54), .val (.ref b113), .val (.int (1 : Int32)), .val (.ref b18), .unset, .unset, .unset] [(.ref b113)]))
    obtain ⟨cq226, kq226, q226a, q226b, q226c⟩ := isOf hZ rfl f197
    obtain ⟨_, _, ⟨T226, L226, k226, n226⟩, -, X226, ⟨Lc226, hQ226, l226, y226, z226⟩, st226⟩ := X187.virtualBack hx (y := (⟨"com/example/reportwire/reportwire/Arguments", "next", "()Ljava/lang/String;"⟩ : MethodName)) (z := (⟨"com/example/reportwire/reportwire/Arguments", "next", "()Ljava/lang/String;"⟩ : MethodName)) hown (mvT hZ (wdx hw 90 rfl)) (mvT hZ (wdx hw 91 rfl)) (notFace_of_selects (args := #[]) (mvT hZ (wdx hw 93 rfl))) (mvT hZ (wdx hw 93 rfl)) (mvT hZ (wdx hw 92 rfl)) (by decide) (backOf (W := 0) (rm13_3_0 l Z a0 hw [] b113 na_187 kn_187 b1 b18 b54 T187.heap n0 O187 f197 f188 f189 f190 g_b113 ne206) hZ (wdx hw 94 rfl) (wdx hw 32 rfl) (by decide) (by decide)) q226a q226c (g := (mkF m 191 #[.val (.int xa), .val (.int xb), .val (.int xc), .val (.int sel), .val (.int ((xa &&& (255 : Int32)).toUInt32.toUInt16.toUInt32.toInt32)), .val (.int ((((xa.toUInt32 >>> ((8 : Int32) &&& 31).toUInt32).toInt32) &&& (255 : Int32)).toUInt32.toUInt16.toUInt32.toInt32)), .val (.int ((xb &&& (255 : Int32)).toUInt32.toUInt16.toUInt32.toInt32)), .val (.int ((((xb.toUInt32 >>> ((8 : Int32) &&& 31).toUInt32).toInt32) &&& (255 : Int32)).toUInt32.toUInt16.toUInt32.toInt32)), .val (.int ((xc &&& (255 : Int32)).toUInt32.toUInt16.toUInt32.toInt32)), .val (.int ((((xc.toUInt32 >>> ((8 : Int32) &&& 31).toUInt32).toInt32) &&& (255 : Int32)).toUInt32.toUInt16.toUInt32.toInt32)), .val (.ref b1), .val (.ref b18), .val (.ref b54), .val (.ref b113), .val (.int (1 : Int32)), .val (.ref b18), .unset, .unset, .unset] [(.ref b113)])) rfl (by rw [hml]; rfl) (Steps.refl _) (argsL := []) (rest := []) (lenOf pd___Ljava_lang_String_ rfl) rfl (by show 2 * 0 + _ ≤ _; exact Nat.le_of_eq rfl) (hb hby at_191) (fun _ _ => ⟨rfl, rfl, (by exact Nat.le_of_ble_eq_true rfl), (by exact Nat.le_of_ble_eq_true rfl)⟩)
    dsimp only [Pt.U, Pt.locs, Pt.cells, Pt.slots] at X226 l226 y226 z226 st226 hQ226
    subst l226 y226 z226
    obtain ⟨rfl, Nq226, Kq226, f227, f228⟩ := hQ226
    have N226 := Fr.app N187 Nq226
    refine Go.tr st226 ?_
    have f229 : Exa Z T226.heap b1 "java/lang/String" := f191.keep Kq226
    have f230 : Arv Z T226.heap b4 k4 .char (1 : Int32) [(.int (nar .char ((xa &&& (255 : Int32)).toUInt32.toUInt16.toUInt32.toInt32)))] (.int (0 : Int32)) := f192.keep Kq226 (ninS ne115 nin0)
    have f231 : Exa Z T226.heap b18 "java/lang/String" := f193.keep Kq226
    have f232 : Arv Z T226.heap b25 k25 .char (2 : Int32) [(.int (nar .char ((((xa.toUInt32 >>> ((8 : Int32) &&& 31).toUInt32).toInt32) &&& (255 : Int32)).toUInt32.toUInt16.toUInt32.toInt32))), (.int (nar .char ((xb &&& (255 : Int32)).toUInt32.toUInt16.toUInt32.toInt32)))] (.int (0 : Int32)) := f194.keep Kq226 (ninS ne117 nin0)
    have f233 : Exa Z T226.heap b54 "java/lang/String" := f195.keep Kq226
    have f234 : Arv Z T226.heap b65 k65 .char (3 : Int32) [(.int (nar .char ((((xb.toUInt32 >>> ((8 : Int32) &&& 31).toUInt32).toInt32) &&& (255 : Int32)).toUInt32.toUInt16.toUInt32.toInt32))), (.int (nar .char ((xc &&& (255 : Int32)).toUInt32.toUInt16.toUInt32.toInt32))), (.int (nar .char ((((xc.toUInt32 >>> ((8 : Int32) &&& 31).toUInt32).toInt32) &&& (255 : Int32)).toUInt32.toUInt16.toUInt32.toInt32)))] (.int (0 : Int32)) := f196.keep Kq226 (ninS ne119 nin0)
    have f235 : Exa Z T226.heap b113 "com/example/reportwire/reportwire/Arguments" := f197.keep Kq226
    have f236 : Exa Z T226.heap b129 "[Ljava/lang/String;" := f198.keep Kq226
    have f237 : Arv Z T226.heap b129 k129 (.object "java/lang/String") (3 : Int32) [(.ref b1), (.ref b18), (.ref b54)] .null := f199.keep Kq226 (ninS (Ne.symm ne136) nin0)
    have f238 : Arv Z T226.heap na_187 kn_187 (.object "java/lang/String") (3 : Int32) [(.ref b1), (.ref b18), (.ref b54)] .null := f190.keep Kq226 (ninS (Ne.symm ne206) nin0)
    have O226 : Old Z n0 T226.heap := O187.keep Kq226 (allS g_b113 all0)
    show Go p e below s _ _ _ (T226.setTop (mkF m 194 #[.val (.int xa), .val (.int xb), .val (.int xc), .val (.int sel), .val (.int ((xa &&& (255 : Int32)).toUInt32.toUInt16.toUInt32.toInt32)), .val (.int ((((xa.toUInt32 >>> ((8 : Int32) &&& 31).toUInt32).toInt32) &&& (255 : Int32)).toUInt32.toUInt16.toUInt32.toInt32)), .val (.int ((xb &&& (255 : Int32)).toUInt32.toUInt16.toUInt32.toInt32)), .val (.int ((((xb.toUInt32 >>> ((8 : Int32) &&& 31).toUInt32).toInt32) &&& (255 : Int32)).toUInt32.toUInt16.toUInt32.toInt32)), .val (.int ((xc &&& (255 : Int32)).toUInt32.toUInt16.toUInt32.toInt32)), .val (.int ((((xc.toUInt32 >>> ((8 : Int32) &&& 31).toUInt32).toInt32) &&& (255 : Int32)).toUInt32.toUInt16.toUInt32.toInt32)), .val (.ref b1), .val (.ref b18), .val (.ref b54), .val (.ref b113), .val (.int (1 : Int32)), .val (.ref b18), .unset, .unset, .unset] [(.ref b1)]))
    refine Go.st (fun _ k' => XS.pop X226.here hx rfl (hb hby at_194) rfl rfl k') ?_
    show Go p e below s _ _ _ (T226.setTop (mkF m 195 #[.val (.int xa), .val (.int xb), .val (.int xc), .val (.int sel), .val (.int ((xa &&& (255 : Int32)).toUInt32.toUInt16.toUInt32.toInt32)), .val (.int ((((xa.toUInt32 >>> ((8 : Int32) &&& 31).toUInt32).toInt32) &&& (255 : Int32)).toUInt32.toUInt16.toUInt32.toInt32)), .val (.int ((xb &&& (255 : Int32)).toUInt32.toUInt16.toUInt32.toInt32)), .val (.int ((((xb.toUInt32 >>> ((8 : Int32) &&& 31).toUInt32).toInt32) &&& (255 : Int32)).toUInt32.toUInt16.toUInt32.toInt32)), .val (.int ((xc &&& (255 : Int32)).toUInt32.toUInt16.toUInt32.toInt32)), .val (.int ((((xc.toUInt32 >>> ((8 : Int32) &&& 31).toUInt32).toInt32) &&& (255 : Int32)).toUInt32.toUInt16.toUInt32.toInt32)), .val (.ref b1), .val (.ref b18), .val (.ref b54), .val (.ref b113), .val (.int (1 : Int32)), .val (.ref b18), .unset, .unset, .unset] []))
    refine Go.st (fun _ k' => XS.iload X226.here hx rfl (hb hby at_195) rfl k') ?_
    show Go p e below s _ _ _ (T226.setTop (mkF m 197 #[.val (.int xa), .val (.int xb), .val (.int xc), .val (.int sel), .val (.int ((xa &&& (255 : Int32)).toUInt32.toUInt16.toUInt32.toInt32)), .val (.int ((((xa.toUInt32 >>> ((8 : Int32) &&& 31).toUInt32).toInt32) &&& (255 : Int32)).toUInt32.toUInt16.toUInt32.toInt32)), .val (.int ((xb &&& (255 : Int32)).toUInt32.toUInt16.toUInt32.toInt32)), .val (.int ((((xb.toUInt32 >>> ((8 : Int32) &&& 31).toUInt32).toInt32) &&& (255 : Int32)).toUInt32.toUInt16.toUInt32.toInt32)), .val (.int ((xc &&& (255 : Int32)).toUInt32.toUInt16.toUInt32.toInt32)), .val (.int ((((xc.toUInt32 >>> ((8 : Int32) &&& 31).toUInt32).toInt32) &&& (255 : Int32)).toUInt32.toUInt16.toUInt32.toInt32)), .val (.ref b1), .val (.ref b18), .val (.ref b54), .val (.ref b113), .val (.int (1 : Int32)), .val (.ref b18), .unset, .unset, .unset] [(.int (1 : Int32))]))
    refine Go.st (fun _ k' => XS.iconst X226.here hx rfl (hb hby at_197) k') ?_
    show Go p e below s _ _ _ (T226.setTop (mkF m 198 #[.val (.int xa), .val (.int xb), .val (.int xc), .val (.int sel), .val (.int ((xa &&& (255 : Int32)).toUInt32.toUInt16.toUInt32.toInt32)), .val (.int ((((xa.toUInt32 >>> ((8 : Int32) &&& 31).toUInt32).toInt32) &&& (255 : Int32)).toUInt32.toUInt16.toUInt32.toInt32)), .val (.int ((xb &&& (255 : Int32)).toUInt32.toUInt16.toUInt32.toInt32)), .val (.int ((((xb.toUInt32 >>> ((8 : Int32) &&& 31).toUInt32).toInt32) &&& (255 : Int32)).toUInt32.toUInt16.toUInt32.toInt32)), .val (.int ((xc &&& (255 : Int32)).toUInt32.toUInt16.toUInt32.toInt32)), .val (.int ((((xc.toUInt32 >>> ((8 : Int32) &&& 31).toUInt32).toInt32) &&& (255 : Int32)).toUInt32.toUInt16.toUInt32.toInt32)), .val (.ref b1), .val (.ref b18), .val (.ref b54), .val (.ref b113), .val (.int (1 : Int32)), .val (.ref b18), .unset, .unset, .unset] [(.int (2 : Int32)), (.int (1 : Int32))]))
    refine Go.st (fun _ k' => XS.icmpYes X226.here hx rfl (pc0 := 198) (pc' := 207) rfl (hb hby at_198) rfl (XT.ii_lt_t (by decide)) (by decide) (by decide) k') ?_
    show Go p e below s _ _ _ (T226.setTop (mkF m 207 #[.val (.int xa), .val (.int xb), .val (.int xc), .val (.int sel), .val (.int ((xa &&& (255 : Int32)).toUInt32.toUInt16.toUInt32.toInt32)), .val (.int ((((xa.toUInt32 >>> ((8 : Int32) &&& 31).toUInt32).toInt32) &&& (255 : Int32)).toUInt32.toUInt16.toUInt32.toInt32)), .val (.int ((xb &&& (255 : Int32)).toUInt32.toUInt16.toUInt32.toInt32)), .val (.int ((((xb.toUInt32 >>> ((8 : Int32) &&& 31).toUInt32).toInt32) &&& (255 : Int32)).toUInt32.toUInt16.toUInt32.toInt32)), .val (.int ((xc &&& (255 : Int32)).toUInt32.toUInt16.toUInt32.toInt32)), .val (.int ((((xc.toUInt32 >>> ((8 : Int32) &&& 31).toUInt32).toInt32) &&& (255 : Int32)).toUInt32.toUInt16.toUInt32.toInt32)), .val (.ref b1), .val (.ref b18), .val (.ref b54), .val (.ref b113), .val (.int (1 : Int32)), .val (.ref b18), .unset, .unset, .unset] []))
    refine Go.st (fun _ k' => XS.iload X226.here hx rfl (hb hby at_207) rfl k') ?_
    show Go p e below s _ _ _ (T226.setTop (mkF m 209 #[.val (.int xa), .val (.int xb), .val (.int xc), .val (.int sel), .val (.int ((xa &&& (255 : Int32)).toUInt32.toUInt16.toUInt32.toInt32)), .val (.int ((((xa.toUInt32 >>> ((8 : Int32) &&& 31).toUInt32).toInt32) &&& (255 : Int32)).toUInt32.toUInt16.toUInt32.toInt32)), .val (.int ((xb &&& (255 : Int32)).toUInt32.toUInt16.toUInt32.toInt32)), .val (.int ((((xb.toUInt32 >>> ((8 : Int32) &&& 31).toUInt32).toInt32) &&& (255 : Int32)).toUInt32.toUInt16.toUInt32.toInt32)), .val (.int ((xc &&& (255 : Int32)).toUInt32.toUInt16.toUInt32.toInt32)), .val (.int ((((xc.toUInt32 >>> ((8 : Int32) &&& 31).toUInt32).toInt32) &&& (255 : Int32)).toUInt32.toUInt16.toUInt32.toInt32)), .val (.ref b1), .val (.ref b18), .val (.ref b54), .val (.ref b113), .val (.int (1 : Int32)), .val (.ref b18), .unset, .unset, .unset] [(.int (1 : Int32))]))
    refine Go.st (fun _ k' => XS.iconst X226.here hx rfl (hb hby at_209) k') ?_
    show Go p e below s _ _ _ (T226.setTop (mkF m 210 #[.val (.int xa), .val (.int xb), .val (.int xc), .val (.int sel), .val (.int ((xa &&& (255 : Int32)).toUInt32.toUInt16.toUInt32.toInt32)), .val (.int ((((xa.toUInt32 >>> ((8 : Int32) &&& 31).toUInt32).toInt32) &&& (255 : Int32)).toUInt32.toUInt16.toUInt32.toInt32)), .val (.int ((xb &&& (255 : Int32)).toUInt32.toUInt16.toUInt32.toInt32)), .val (.int ((((xb.toUInt32 >>> ((8 : Int32) &&& 31).toUInt32).toInt32) &&& (255 : Int32)).toUInt32.toUInt16.toUInt32.toInt32)), .val (.int ((xc &&& (255 : Int32)).toUInt32.toUInt16.toUInt32.toInt32)), .val (.int ((((xc.toUInt32 >>> ((8 : Int32) &&& 31).toUInt32).toInt32) &&& (255 : Int32)).toUInt32.toUInt16.toUInt32.toInt32)), .val (.ref b1), .val (.ref b18), .val (.ref b54), .val (.ref b113), .val (.int (1 : Int32)), .val (.ref b18), .unset, .unset, .unset] [(.int (3 : Int32)), (.int (1 : Int32))]))
    refine Go.st (fun _ k' => XS.icmpYes X226.here hx rfl (pc0 := 210) (pc' := 219) rfl (hb hby at_210) rfl (XT.ii_lt_t (by decide)) (by decide) (by decide) k') ?_
    show Go p e below s _ _ _ (T226.setTop (mkF m 219 #[.val (.int xa), .val (.int xb), .val (.int xc), .val (.int sel), .val (.int ((xa &&& (255 : Int32)).toUInt32.toUInt16.toUInt32.toInt32)), .val (.int ((((xa.toUInt32 >>> ((8 : Int32) &&& 31).toUInt32).toInt32) &&& (255 : Int32)).toUInt32.toUInt16.toUInt32.toInt32)), .val (.int ((xb &&& (255 : Int32)).toUInt32.toUInt16.toUInt32.toInt32)), .val (.int ((((xb.toUInt32 >>> ((8 : Int32) &&& 31).toUInt32).toInt32) &&& (255 : Int32)).toUInt32.toUInt16.toUInt32.toInt32)), .val (.int ((xc &&& (255 : Int32)).toUInt32.toUInt16.toUInt32.toInt32)), .val (.int ((((xc.toUInt32 >>> ((8 : Int32) &&& 31).toUInt32).toInt32) &&& (255 : Int32)).toUInt32.toUInt16.toUInt32.toInt32)), .val (.ref b1), .val (.ref b18), .val (.ref b54), .val (.ref b113), .val (.int (1 : Int32)), .val (.ref b18), .unset, .unset, .unset] []))
    refine Go.st (fun _ k' => XS.iload X226.here hx rfl (hb hby at_219) rfl k') ?_
    show Go p e below s _ _ _ (T226.setTop (mkF m 221 #[.val (.int xa), .val (.int xb), .val (.int xc), .val (.int sel), .val (.int ((xa &&& (255 : Int32)).toUInt32.toUInt16.toUInt32.toInt32)), .val (.int ((((xa.toUInt32 >>> ((8 : Int32) &&& 31).toUInt32).toInt32) &&& (255 : Int32)).toUInt32.toUInt16.toUInt32.toInt32)), .val (.int ((xb &&& (255 : Int32)).toUInt32.toUInt16.toUInt32.toInt32)), .val (.int ((((xb.toUInt32 >>> ((8 : Int32) &&& 31).toUInt32).toInt32) &&& (255 : Int32)).toUInt32.toUInt16.toUInt32.toInt32)), .val (.int ((xc &&& (255 : Int32)).toUInt32.toUInt16.toUInt32.toInt32)), .val (.int ((((xc.toUInt32 >>> ((8 : Int32) &&& 31).toUInt32).toInt32) &&& (255 : Int32)).toUInt32.toUInt16.toUInt32.toInt32)), .val (.ref b1), .val (.ref b18), .val (.ref b54), .val (.ref b113), .val (.int (1 : Int32)), .val (.ref b18), .unset, .unset, .unset] [(.int (1 : Int32))]))
    refine Go.st (fun _ k' => XS.iconst X226.here hx rfl (hb hby at_221) k') ?_
    show Go p e below s _ _ _ (T226.setTop (mkF m 222 #[.val (.int xa), .val (.int xb), .val (.int xc), .val (.int sel), .val (.int ((xa &&& (255 : Int32)).toUInt32.toUInt16.toUInt32.toInt32)), .val (.int ((((xa.toUInt32 >>> ((8 : Int32) &&& 31).toUInt32).toInt32) &&& (255 : Int32)).toUInt32.toUInt16.toUInt32.toInt32)), .val (.int ((xb &&& (255 : Int32)).toUInt32.toUInt16.toUInt32.toInt32)), .val (.int ((((xb.toUInt32 >>> ((8 : Int32) &&& 31).toUInt32).toInt32) &&& (255 : Int32)).toUInt32.toUInt16.toUInt32.toInt32)), .val (.int ((xc &&& (255 : Int32)).toUInt32.toUInt16.toUInt32.toInt32)), .val (.int ((((xc.toUInt32 >>> ((8 : Int32) &&& 31).toUInt32).toInt32) &&& (255 : Int32)).toUInt32.toUInt16.toUInt32.toInt32)), .val (.ref b1), .val (.ref b18), .val (.ref b54), .val (.ref b113), .val (.int (1 : Int32)), .val (.ref b18), .unset, .unset, .unset] [(.int (3 : Int32)), (.int (1 : Int32))]))
    refine Go.st (fun _ k' => XS.icmpYes X226.here hx rfl (pc0 := 222) (pc' := 239) rfl (hb hby at_222) rfl (XT.ii_ne_t (by decide)) (by decide) (by decide) k') ?_
    show Go p e below s _ _ _ (T226.setTop (mkF m 239 #[.val (.int xa), .val (.int xb), .val (.int xc), .val (.int sel), .val (.int ((xa &&& (255 : Int32)).toUInt32.toUInt16.toUInt32.toInt32)), .val (.int ((((xa.toUInt32 >>> ((8 : Int32) &&& 31).toUInt32).toInt32) &&& (255 : Int32)).toUInt32.toUInt16.toUInt32.toInt32)), .val (.int ((xb &&& (255 : Int32)).toUInt32.toUInt16.toUInt32.toInt32)), .val (.int ((((xb.toUInt32 >>> ((8 : Int32) &&& 31).toUInt32).toInt32) &&& (255 : Int32)).toUInt32.toUInt16.toUInt32.toInt32)), .val (.int ((xc &&& (255 : Int32)).toUInt32.toUInt16.toUInt32.toInt32)), .val (.int ((((xc.toUInt32 >>> ((8 : Int32) &&& 31).toUInt32).toInt32) &&& (255 : Int32)).toUInt32.toUInt16.toUInt32.toInt32)), .val (.ref b1), .val (.ref b18), .val (.ref b54), .val (.ref b113), .val (.int (1 : Int32)), .val (.ref b18), .unset, .unset, .unset] []))
    refine Go.st (fun _ k' => XS.aload X226.here hx rfl (hb hby at_239) rfl rfl k') ?_
    show Go p e below s _ _ _ (T226.setTop (mkF m 241 #[.val (.int xa), .val (.int xb), .val (.int xc), .val (.int sel), .val (.int ((xa &&& (255 : Int32)).toUInt32.toUInt16.toUInt32.toInt32)), .val (.int ((((xa.toUInt32 >>> ((8 : Int32) &&& 31).toUInt32).toInt32) &&& (255 : Int32)).toUInt32.toUInt16.toUInt32.toInt32)), .val (.int ((xb &&& (255 : Int32)).toUInt32.toUInt16.toUInt32.toInt32)), .val (.int ((((xb.toUInt32 >>> ((8 : Int32) &&& 31).toUInt32).toInt32) &&& (255 : Int32)).toUInt32.toUInt16.toUInt32.toInt32)), .val (.int ((xc &&& (255 : Int32)).toUInt32.toUInt16.toUInt32.toInt32)), .val (.int ((((xc.toUInt32 >>> ((8 : Int32) &&& 31).toUInt32).toInt32) &&& (255 : Int32)).toUInt32.toUInt16.toUInt32.toInt32)), .val (.ref b1), .val (.ref b18), .val (.ref b54), .val (.ref b113), .val (.int (1 : Int32)), .val (.ref b18), .unset, .unset, .unset] [(.ref b113)]))
    obtain ⟨cq239, kq239, q239a, q239b, q239c⟩ := isOf hZ rfl f235
    obtain ⟨_, _, ⟨T239, L239, k239, n239⟩, -, X239, ⟨Lc239, hQ239, l239, y239, z239⟩, st239⟩ := X226.virtualBack hx (y := (⟨"com/example/reportwire/reportwire/Arguments", "peek", "()Ljava/lang/String;"⟩ : MethodName)) (z := (⟨"com/example/reportwire/reportwire/Arguments", "peek", "()Ljava/lang/String;"⟩ : MethodName)) hown (mvT hZ (wdx hw 107 rfl)) (mvT hZ (wdx hw 96 rfl)) (notFace_of_selects (args := #[]) (mvT hZ (wdx hw 98 rfl))) (mvT hZ (wdx hw 98 rfl)) (mvT hZ (wdx hw 97 rfl)) (by decide) (backOf (W := 0) (rm14_3_1 l Z a0 hw [] b113 na_187 kn_187 b1 b18 b54 T226.heap n0 O226 f235 f227 f228 f238) hZ (wdx hw 99 rfl) (wdx hw 32 rfl) (by decide) (by decide)) q239a q239c (g := (mkF m 241 #[.val (.int xa), .val (.int xb), .val (.int xc), .val (.int sel), .val (.int ((xa &&& (255 : Int32)).toUInt32.toUInt16.toUInt32.toInt32)), .val (.int ((((xa.toUInt32 >>> ((8 : Int32) &&& 31).toUInt32).toInt32) &&& (255 : Int32)).toUInt32.toUInt16.toUInt32.toInt32)), .val (.int ((xb &&& (255 : Int32)).toUInt32.toUInt16.toUInt32.toInt32)), .val (.int ((((xb.toUInt32 >>> ((8 : Int32) &&& 31).toUInt32).toInt32) &&& (255 : Int32)).toUInt32.toUInt16.toUInt32.toInt32)), .val (.int ((xc &&& (255 : Int32)).toUInt32.toUInt16.toUInt32.toInt32)), .val (.int ((((xc.toUInt32 >>> ((8 : Int32) &&& 31).toUInt32).toInt32) &&& (255 : Int32)).toUInt32.toUInt16.toUInt32.toInt32)), .val (.ref b1), .val (.ref b18), .val (.ref b54), .val (.ref b113), .val (.int (1 : Int32)), .val (.ref b18), .unset, .unset, .unset] [(.ref b113)])) rfl (by rw [hml]; rfl) (Steps.refl _) (argsL := []) (rest := []) (lenOf pd___Ljava_lang_String_ rfl) rfl (by show 2 * 0 + _ ≤ _; exact Nat.le_of_eq rfl) (hb hby at_241) (fun _ _ => ⟨rfl, rfl, (by exact Nat.le_of_ble_eq_true rfl), (by exact Nat.le_of_ble_eq_true rfl)⟩)
    dsimp only [Pt.U, Pt.locs, Pt.cells, Pt.slots] at X239 l239 y239 z239 st239 hQ239
    subst l239 y239 z239
    obtain ⟨rfl, Nq239, eq239⟩ := hQ239
    have N239 := Fr.app N226 Nq239
    refine Go.tr st239 ?_
    show Go p e below s _ _ _ (T239.setTop (mkF m 244 #[.val (.int xa), .val (.int xb), .val (.int xc), .val (.int sel), .val (.int ((xa &&& (255 : Int32)).toUInt32.toUInt16.toUInt32.toInt32)), .val (.int ((((xa.toUInt32 >>> ((8 : Int32) &&& 31).toUInt32).toInt32) &&& (255 : Int32)).toUInt32.toUInt16.toUInt32.toInt32)), .val (.int ((xb &&& (255 : Int32)).toUInt32.toUInt16.toUInt32.toInt32)), .val (.int ((((xb.toUInt32 >>> ((8 : Int32) &&& 31).toUInt32).toInt32) &&& (255 : Int32)).toUInt32.toUInt16.toUInt32.toInt32)), .val (.int ((xc &&& (255 : Int32)).toUInt32.toUInt16.toUInt32.toInt32)), .val (.int ((((xc.toUInt32 >>> ((8 : Int32) &&& 31).toUInt32).toInt32) &&& (255 : Int32)).toUInt32.toUInt16.toUInt32.toInt32)), .val (.ref b1), .val (.ref b18), .val (.ref b54), .val (.ref b113), .val (.int (1 : Int32)), .val (.ref b18), .unset, .unset, .unset] [(.ref b18)]))
    refine Go.st (fun _ k' => XS.astore X239.here hx rfl (hb hby at_244) rfl rfl (l' := #[.val (.int xa), .val (.int xb), .val (.int xc), .val (.int sel), .val (.int ((xa &&& (255 : Int32)).toUInt32.toUInt16.toUInt32.toInt32)), .val (.int ((((xa.toUInt32 >>> ((8 : Int32) &&& 31).toUInt32).toInt32) &&& (255 : Int32)).toUInt32.toUInt16.toUInt32.toInt32)), .val (.int ((xb &&& (255 : Int32)).toUInt32.toUInt16.toUInt32.toInt32)), .val (.int ((((xb.toUInt32 >>> ((8 : Int32) &&& 31).toUInt32).toInt32) &&& (255 : Int32)).toUInt32.toUInt16.toUInt32.toInt32)), .val (.int ((xc &&& (255 : Int32)).toUInt32.toUInt16.toUInt32.toInt32)), .val (.int ((((xc.toUInt32 >>> ((8 : Int32) &&& 31).toUInt32).toInt32) &&& (255 : Int32)).toUInt32.toUInt16.toUInt32.toInt32)), .val (.ref b1), .val (.ref b18), .val (.ref b54), .val (.ref b113), .val (.int (1 : Int32)), .val (.ref b18), .val (.ref b18), .unset, .unset]) rfl k') ?_
    show Go p e below s _ _ _ (T239.setTop (mkF m 246 #[.val (.int xa), .val (.int xb), .val (.int xc), .val (.int sel), .val (.int ((xa &&& (255 : Int32)).toUInt32.toUInt16.toUInt32.toInt32)), .val (.int ((((xa.toUInt32 >>> ((8 : Int32) &&& 31).toUInt32).toInt32) &&& (255 : Int32)).toUInt32.toUInt16.toUInt32.toInt32)), .val (.int ((xb &&& (255 : Int32)).toUInt32.toUInt16.toUInt32.toInt32)), .val (.int ((((xb.toUInt32 >>> ((8 : Int32) &&& 31).toUInt32).toInt32) &&& (255 : Int32)).toUInt32.toUInt16.toUInt32.toInt32)), .val (.int ((xc &&& (255 : Int32)).toUInt32.toUInt16.toUInt32.toInt32)), .val (.int ((((xc.toUInt32 >>> ((8 : Int32) &&& 31).toUInt32).toInt32) &&& (255 : Int32)).toUInt32.toUInt16.toUInt32.toInt32)), .val (.ref b1), .val (.ref b18), .val (.ref b54), .val (.ref b113), .val (.int (1 : Int32)), .val (.ref b18), .val (.ref b18), .unset, .unset] []))
    refine Go.st (fun _ k' => XS.aload X239.here hx rfl (hb hby at_246) rfl rfl k') ?_
    show Go p e below s _ _ _ (T239.setTop (mkF m 248 #[.val (.int xa), .val (.int xb), .val (.int xc), .val (.int sel), .val (.int ((xa &&& (255 : Int32)).toUInt32.toUInt16.toUInt32.toInt32)), .val (.int ((((xa.toUInt32 >>> ((8 : Int32) &&& 31).toUInt32).toInt32) &&& (255 : Int32)).toUInt32.toUInt16.toUInt32.toInt32)), .val (.int ((xb &&& (255 : Int32)).toUInt32.toUInt16.toUInt32.toInt32)), .val (.int ((((xb.toUInt32 >>> ((8 : Int32) &&& 31).toUInt32).toInt32) &&& (255 : Int32)).toUInt32.toUInt16.toUInt32.toInt32)), .val (.int ((xc &&& (255 : Int32)).toUInt32.toUInt16.toUInt32.toInt32)), .val (.int ((((xc.toUInt32 >>> ((8 : Int32) &&& 31).toUInt32).toInt32) &&& (255 : Int32)).toUInt32.toUInt16.toUInt32.toInt32)), .val (.ref b1), .val (.ref b18), .val (.ref b54), .val (.ref b113), .val (.int (1 : Int32)), .val (.ref b18), .val (.ref b18), .unset, .unset] [(.ref b113)]))
    obtain ⟨cq240, kq240, q240a, q240b, q240c⟩ := isOf hZ eq239 f235
    obtain ⟨_, _, ⟨T240, L240, k240, n240⟩, -, X240, ⟨Lc240, hQ240, l240, y240, z240⟩, st240⟩ := X239.virtualBack hx (y := (⟨"com/example/reportwire/reportwire/Arguments", "peek", "()Ljava/lang/String;"⟩ : MethodName)) (z := (⟨"com/example/reportwire/reportwire/Arguments", "peek", "()Ljava/lang/String;"⟩ : MethodName)) hown (mvT hZ (wdx hw 107 rfl)) (mvT hZ (wdx hw 96 rfl)) (notFace_of_selects (args := #[]) (mvT hZ (wdx hw 98 rfl))) (mvT hZ (wdx hw 98 rfl)) (mvT hZ (wdx hw 97 rfl)) (by decide) (backOf (W := 0) (rm14_3_1 l Z a0 hw [] b113 na_187 kn_187 b1 b18 b54 T226.heap n0 O226 f235 f227 f228 f238) hZ (wdx hw 99 rfl) (wdx hw 32 rfl) (by decide) (by decide)) q240a q240c (g := (mkF m 248 #[.val (.int xa), .val (.int xb), .val (.int xc), .val (.int sel), .val (.int ((xa &&& (255 : Int32)).toUInt32.toUInt16.toUInt32.toInt32)), .val (.int ((((xa.toUInt32 >>> ((8 : Int32) &&& 31).toUInt32).toInt32) &&& (255 : Int32)).toUInt32.toUInt16.toUInt32.toInt32)), .val (.int ((xb &&& (255 : Int32)).toUInt32.toUInt16.toUInt32.toInt32)), .val (.int ((((xb.toUInt32 >>> ((8 : Int32) &&& 31).toUInt32).toInt32) &&& (255 : Int32)).toUInt32.toUInt16.toUInt32.toInt32)), .val (.int ((xc &&& (255 : Int32)).toUInt32.toUInt16.toUInt32.toInt32)), .val (.int ((((xc.toUInt32 >>> ((8 : Int32) &&& 31).toUInt32).toInt32) &&& (255 : Int32)).toUInt32.toUInt16.toUInt32.toInt32)), .val (.ref b1), .val (.ref b18), .val (.ref b54), .val (.ref b113), .val (.int (1 : Int32)), .val (.ref b18), .val (.ref b18), .unset, .unset] [(.ref b113)])) rfl (by rw [hml]; rfl) (Steps.refl _) (argsL := []) (rest := []) (lenOf pd___Ljava_lang_String_ rfl) rfl (by show 2 * 0 + _ ≤ _; exact Nat.le_of_eq rfl) (hb hby at_248) (fun _ _ => ⟨rfl, eq239, (by exact Nat.le_of_ble_eq_true rfl), (by exact Nat.le_of_ble_eq_true rfl)⟩)
    dsimp only [Pt.U, Pt.locs, Pt.cells, Pt.slots] at X240 l240 y240 z240 st240 hQ240
    subst l240 y240 z240
    obtain ⟨rfl, Nq240, eq240⟩ := hQ240
    have N240 := Fr.app N239 Nq240
    refine Go.tr st240 ?_
    show Go p e below s _ _ _ (T240.setTop (mkF m 251 #[.val (.int xa), .val (.int xb), .val (.int xc), .val (.int sel), .val (.int ((xa &&& (255 : Int32)).toUInt32.toUInt16.toUInt32.toInt32)), .val (.int ((((xa.toUInt32 >>> ((8 : Int32) &&& 31).toUInt32).toInt32) &&& (255 : Int32)).toUInt32.toUInt16.toUInt32.toInt32)), .val (.int ((xb &&& (255 : Int32)).toUInt32.toUInt16.toUInt32.toInt32)), .val (.int ((((xb.toUInt32 >>> ((8 : Int32) &&& 31).toUInt32).toInt32) &&& (255 : Int32)).toUInt32.toUInt16.toUInt32.toInt32)), .val (.int ((xc &&& (255 : Int32)).toUInt32.toUInt16.toUInt32.toInt32)), .val (.int ((((xc.toUInt32 >>> ((8 : Int32) &&& 31).toUInt32).toInt32) &&& (255 : Int32)).toUInt32.toUInt16.toUInt32.toInt32)), .val (.ref b1), .val (.ref b18), .val (.ref b54), .val (.ref b113), .val (.int (1 : Int32)), .val (.ref b18), .val (.ref b18), .unset, .unset] [(.ref b18)]))
    refine Go.st (fun _ k' => XS.astore X240.here hx rfl (hb hby at_251) rfl rfl (l' := #[.val (.int xa), .val (.int xb), .val (.int xc), .val (.int sel), .val (.int ((xa &&& (255 : Int32)).toUInt32.toUInt16.toUInt32.toInt32)), .val (.int ((((xa.toUInt32 >>> ((8 : Int32) &&& 31).toUInt32).toInt32) &&& (255 : Int32)).toUInt32.toUInt16.toUInt32.toInt32)), .val (.int ((xb &&& (255 : Int32)).toUInt32.toUInt16.toUInt32.toInt32)), .val (.int ((((xb.toUInt32 >>> ((8 : Int32) &&& 31).toUInt32).toInt32) &&& (255 : Int32)).toUInt32.toUInt16.toUInt32.toInt32)), .val (.int ((xc &&& (255 : Int32)).toUInt32.toUInt16.toUInt32.toInt32)), .val (.int ((((xc.toUInt32 >>> ((8 : Int32) &&& 31).toUInt32).toInt32) &&& (255 : Int32)).toUInt32.toUInt16.toUInt32.toInt32)), .val (.ref b1), .val (.ref b18), .val (.ref b54), .val (.ref b113), .val (.int (1 : Int32)), .val (.ref b18), .val (.ref b18), .val (.ref b18), .unset]) rfl k') ?_
    show Go p e below s _ _ _ (T240.setTop (mkF m 253 #[.val (.int xa), .val (.int xb), .val (.int xc), .val (.int sel), .val (.int ((xa &&& (255 : Int32)).toUInt32.toUInt16.toUInt32.toInt32)), .val (.int ((((xa.toUInt32 >>> ((8 : Int32) &&& 31).toUInt32).toInt32) &&& (255 : Int32)).toUInt32.toUInt16.toUInt32.toInt32)), .val (.int ((xb &&& (255 : Int32)).toUInt32.toUInt16.toUInt32.toInt32)), .val (.int ((((xb.toUInt32 >>> ((8 : Int32) &&& 31).toUInt32).toInt32) &&& (255 : Int32)).toUInt32.toUInt16.toUInt32.toInt32)), .val (.int ((xc &&& (255 : Int32)).toUInt32.toUInt16.toUInt32.toInt32)), .val (.int ((((xc.toUInt32 >>> ((8 : Int32) &&& 31).toUInt32).toInt32) &&& (255 : Int32)).toUInt32.toUInt16.toUInt32.toInt32)), .val (.ref b1), .val (.ref b18), .val (.ref b54), .val (.ref b113), .val (.int (1 : Int32)), .val (.ref b18), .val (.ref b18), .val (.ref b18), .unset] []))
    refine Go.st (fun _ k' => XS.aload X240.here hx rfl (hb hby at_253) rfl rfl k') ?_
    show Go p e below s _ _ _ (T240.setTop (mkF m 255 #[.val (.int xa), .val (.int xb), .val (.int xc), .val (.int sel), .val (.int ((xa &&& (255 : Int32)).toUInt32.toUInt16.toUInt32.toInt32)), .val (.int ((((xa.toUInt32 >>> ((8 : Int32) &&& 31).toUInt32).toInt32) &&& (255 : Int32)).toUInt32.toUInt16.toUInt32.toInt32)), .val (.int ((xb &&& (255 : Int32)).toUInt32.toUInt16.toUInt32.toInt32)), .val (.int ((((xb.toUInt32 >>> ((8 : Int32) &&& 31).toUInt32).toInt32) &&& (255 : Int32)).toUInt32.toUInt16.toUInt32.toInt32)), .val (.int ((xc &&& (255 : Int32)).toUInt32.toUInt16.toUInt32.toInt32)), .val (.int ((((xc.toUInt32 >>> ((8 : Int32) &&& 31).toUInt32).toInt32) &&& (255 : Int32)).toUInt32.toUInt16.toUInt32.toInt32)), .val (.ref b1), .val (.ref b18), .val (.ref b54), .val (.ref b113), .val (.int (1 : Int32)), .val (.ref b18), .val (.ref b18), .val (.ref b18), .unset] [(.ref b113)]))
    obtain ⟨cq241, kq241, q241a, q241b, q241c⟩ := isOf hZ eq240 f235
    obtain ⟨_, _, ⟨T241, L241, k241, n241⟩, -, X241, ⟨Lc241, hQ241, l241, y241, z241⟩, st241⟩ := X240.virtualBack hx (y := (⟨"com/example/reportwire/reportwire/Arguments", "next", "()Ljava/lang/String;"⟩ : MethodName)) (z := (⟨"com/example/reportwire/reportwire/Arguments", "next", "()Ljava/lang/String;"⟩ : MethodName)) hown (mvT hZ (wdx hw 90 rfl)) (mvT hZ (wdx hw 91 rfl)) (notFace_of_selects (args := #[]) (mvT hZ (wdx hw 93 rfl))) (mvT hZ (wdx hw 93 rfl)) (mvT hZ (wdx hw 92 rfl)) (by decide) (backOf (W := 0) (rm13_3_1 l Z a0 hw [] b113 na_187 kn_187 b1 b18 b54 T226.heap n0 O226 f235 f227 f228 f238 g_b113 ne206) hZ (wdx hw 94 rfl) (wdx hw 32 rfl) (by decide) (by decide)) q241a q241c (g := (mkF m 255 #[.val (.int xa), .val (.int xb), .val (.int xc), .val (.int sel), .val (.int ((xa &&& (255 : Int32)).toUInt32.toUInt16.toUInt32.toInt32)), .val (.int ((((xa.toUInt32 >>> ((8 : Int32) &&& 31).toUInt32).toInt32) &&& (255 : Int32)).toUInt32.toUInt16.toUInt32.toInt32)), .val (.int ((xb &&& (255 : Int32)).toUInt32.toUInt16.toUInt32.toInt32)), .val (.int ((((xb.toUInt32 >>> ((8 : Int32) &&& 31).toUInt32).toInt32) &&& (255 : Int32)).toUInt32.toUInt16.toUInt32.toInt32)), .val (.int ((xc &&& (255 : Int32)).toUInt32.toUInt16.toUInt32.toInt32)), .val (.int ((((xc.toUInt32 >>> ((8 : Int32) &&& 31).toUInt32).toInt32) &&& (255 : Int32)).toUInt32.toUInt16.toUInt32.toInt32)), .val (.ref b1), .val (.ref b18), .val (.ref b54), .val (.ref b113), .val (.int (1 : Int32)), .val (.ref b18), .val (.ref b18), .val (.ref b18), .unset] [(.ref b113)])) rfl (by rw [hml]; rfl) (Steps.refl _) (argsL := []) (rest := []) (lenOf pd___Ljava_lang_String_ rfl) rfl (by show 2 * 0 + _ ≤ _; exact Nat.le_of_eq rfl) (hb hby at_255) (fun _ _ => ⟨rfl, eq240, (by exact Nat.le_of_ble_eq_true rfl), (by exact Nat.le_of_ble_eq_true rfl)⟩)
    dsimp only [Pt.U, Pt.locs, Pt.cells, Pt.slots] at X241 l241 y241 z241 st241 hQ241
    subst l241 y241 z241
    obtain ⟨rfl, Nq241, Kq241, f242, f243⟩ := hQ241
    have N241 := Fr.app N240 Nq241
    refine Go.tr st241 ?_
    have f244 : Exa Z T241.heap b1 "java/lang/String" := f229.keep Kq241
    have f245 : Arv Z T241.heap b4 k4 .char (1 : Int32) [(.int (nar .char ((xa &&& (255 : Int32)).toUInt32.toUInt16.toUInt32.toInt32)))] (.int (0 : Int32)) := f230.keep Kq241 (ninS ne115 nin0)
    have f246 : Exa Z T241.heap b18 "java/lang/String" := f231.keep Kq241
    have f247 : Arv Z T241.heap b25 k25 .char (2 : Int32) [(.int (nar .char ((((xa.toUInt32 >>> ((8 : Int32) &&& 31).toUInt32).toInt32) &&& (255 : Int32)).toUInt32.toUInt16.toUInt32.toInt32))), (.int (nar .char ((xb &&& (255 : Int32)).toUInt32.toUInt16.toUInt32.toInt32)))] (.int (0 : Int32)) := f232.keep Kq241 (ninS ne117 nin0)
    have f248 : Exa Z T241.heap b54 "java/lang/String" := f233.keep Kq241
    have f249 : Arv Z T241.heap b65 k65 .char (3 : Int32) [(.int (nar .char ((((xb.toUInt32 >>> ((8 : Int32) &&& 31).toUInt32).toInt32) &&& (255 : Int32)).toUInt32.toUInt16.toUInt32.toInt32))), (.int (nar .char ((xc &&& (255 : Int32)).toUInt32.toUInt16.toUInt32.toInt32))), (.int (nar .char ((((xc.toUInt32 >>> ((8 : Int32) &&& 31).toUInt32).toInt32) &&& (255 : Int32)).toUInt32.toUInt16.toUInt32.toInt32)))] (.int (0 : Int32)) := f234.keep Kq241 (ninS ne119 nin0)
    have f250 : Exa Z T241.heap b113 "com/example/reportwire/reportwire/Arguments" := f235.keep Kq241
    have f251 : Exa Z T241.heap b129 "[Ljava/lang/String;" := f236.keep Kq241
    have f252 : Arv Z T241.heap b129 k129 (.object "java/lang/String") (3 : Int32) [(.ref b1), (.ref b18), (.ref b54)] .null := f237.keep Kq241 (ninS (Ne.symm ne136) nin0)
    have f253 : Arv Z T241.heap na_187 kn_187 (.object "java/lang/String") (3 : Int32) [(.ref b1), (.ref b18), (.ref b54)] .null := f238.keep Kq241 (ninS (Ne.symm ne206) nin0)
    have O241 : Old Z n0 T241.heap := O226.keep Kq241 (allS g_b113 all0)
    show Go p e below s _ _ _ (T241.setTop (mkF m 258 #[.val (.int xa), .val (.int xb), .val (.int xc), .val (.int sel), .val (.int ((xa &&& (255 : Int32)).toUInt32.toUInt16.toUInt32.toInt32)), .val (.int ((((xa.toUInt32 >>> ((8 : Int32) &&& 31).toUInt32).toInt32) &&& (255 : Int32)).toUInt32.toUInt16.toUInt32.toInt32)), .val (.int ((xb &&& (255 : Int32)).toUInt32.toUInt16.toUInt32.toInt32)), .val (.int ((((xb.toUInt32 >>> ((8 : Int32) &&& 31).toUInt32).toInt32) &&& (255 : Int32)).toUInt32.toUInt16.toUInt32.toInt32)), .val (.int ((xc &&& (255 : Int32)).toUInt32.toUInt16.toUInt32.toInt32)), .val (.int ((((xc.toUInt32 >>> ((8 : Int32) &&& 31).toUInt32).toInt32) &&& (255 : Int32)).toUInt32.toUInt16.toUInt32.toInt32)), .val (.ref b1), .val (.ref b18), .val (.ref b54), .val (.ref b113), .val (.int (1 : Int32)), .val (.ref b18), .val (.ref b18), .val (.ref b18), .unset] [(.ref b18)]))
    refine Go.st (fun _ k' => XS.astore X241.here hx rfl (hb hby at_258) rfl rfl (l' := #[.val (.int xa), .val (.int xb), .val (.int xc), .val (.int sel), .val (.int ((xa &&& (255 : Int32)).toUInt32.toUInt16.toUInt32.toInt32)), .val (.int ((((xa.toUInt32 >>> ((8 : Int32) &&& 31).toUInt32).toInt32) &&& (255 : Int32)).toUInt32.toUInt16.toUInt32.toInt32)), .val (.int ((xb &&& (255 : Int32)).toUInt32.toUInt16.toUInt32.toInt32)), .val (.int ((((xb.toUInt32 >>> ((8 : Int32) &&& 31).toUInt32).toInt32) &&& (255 : Int32)).toUInt32.toUInt16.toUInt32.toInt32)), .val (.int ((xc &&& (255 : Int32)).toUInt32.toUInt16.toUInt32.toInt32)), .val (.int ((((xc.toUInt32 >>> ((8 : Int32) &&& 31).toUInt32).toInt32) &&& (255 : Int32)).toUInt32.toUInt16.toUInt32.toInt32)), .val (.ref b1), .val (.ref b18), .val (.ref b54), .val (.ref b113), .val (.int (1 : Int32)), .val (.ref b18), .val (.ref b18), .val (.ref b18), .val (.ref b18)]) rfl k') ?_
    show Go p e below s _ _ _ (T241.setTop (mkF m 260 #[.val (.int xa), .val (.int xb), .val (.int xc), .val (.int sel), .val (.int ((xa &&& (255 : Int32)).toUInt32.toUInt16.toUInt32.toInt32)), .val (.int ((((xa.toUInt32 >>> ((8 : Int32) &&& 31).toUInt32).toInt32) &&& (255 : Int32)).toUInt32.toUInt16.toUInt32.toInt32)), .val (.int ((xb &&& (255 : Int32)).toUInt32.toUInt16.toUInt32.toInt32)), .val (.int ((((xb.toUInt32 >>> ((8 : Int32) &&& 31).toUInt32).toInt32) &&& (255 : Int32)).toUInt32.toUInt16.toUInt32.toInt32)), .val (.int ((xc &&& (255 : Int32)).toUInt32.toUInt16.toUInt32.toInt32)), .val (.int ((((xc.toUInt32 >>> ((8 : Int32) &&& 31).toUInt32).toInt32) &&& (255 : Int32)).toUInt32.toUInt16.toUInt32.toInt32)), .val (.ref b1), .val (.ref b18), .val (.ref b54), .val (.ref b113), .val (.int (1 : Int32)), .val (.ref b18), .val (.ref b18), .val (.ref b18), .val (.ref b18)] []))
    refine Go.st (fun _ k' => XS.aload X241.here hx rfl (hb hby at_260) rfl rfl k') ?_
    show Go p e below s _ _ _ (T241.setTop (mkF m 262 #[.val (.int xa), .val (.int xb), .val (.int xc), .val (.int sel), .val (.int ((xa &&& (255 : Int32)).toUInt32.toUInt16.toUInt32.toInt32)), .val (.int ((((xa.toUInt32 >>> ((8 : Int32) &&& 31).toUInt32).toInt32) &&& (255 : Int32)).toUInt32.toUInt16.toUInt32.toInt32)), .val (.int ((xb &&& (255 : Int32)).toUInt32.toUInt16.toUInt32.toInt32)), .val (.int ((((xb.toUInt32 >>> ((8 : Int32) &&& 31).toUInt32).toInt32) &&& (255 : Int32)).toUInt32.toUInt16.toUInt32.toInt32)), .val (.int ((xc &&& (255 : Int32)).toUInt32.toUInt16.toUInt32.toInt32)), .val (.int ((((xc.toUInt32 >>> ((8 : Int32) &&& 31).toUInt32).toInt32) &&& (255 : Int32)).toUInt32.toUInt16.toUInt32.toInt32)), .val (.ref b1), .val (.ref b18), .val (.ref b54), .val (.ref b113), .val (.int (1 : Int32)), .val (.ref b18), .val (.ref b18), .val (.ref b18), .val (.ref b18)] [(.ref b18)]))
    refine Go.st (fun _ k' => XS.aload X241.here hx rfl (hb hby at_262) rfl rfl k') ?_
    show Go p e below s _ _ _ (T241.setTop (mkF m 264 #[.val (.int xa), .val (.int xb), .val (.int xc), .val (.int sel), .val (.int ((xa &&& (255 : Int32)).toUInt32.toUInt16.toUInt32.toInt32)), .val (.int ((((xa.toUInt32 >>> ((8 : Int32) &&& 31).toUInt32).toInt32) &&& (255 : Int32)).toUInt32.toUInt16.toUInt32.toInt32)), .val (.int ((xb &&& (255 : Int32)).toUInt32.toUInt16.toUInt32.toInt32)), .val (.int ((((xb.toUInt32 >>> ((8 : Int32) &&& 31).toUInt32).toInt32) &&& (255 : Int32)).toUInt32.toUInt16.toUInt32.toInt32)), .val (.int ((xc &&& (255 : Int32)).toUInt32.toUInt16.toUInt32.toInt32)), .val (.int ((((xc.toUInt32 >>> ((8 : Int32) &&& 31).toUInt32).toInt32) &&& (255 : Int32)).toUInt32.toUInt16.toUInt32.toInt32)), .val (.ref b1), .val (.ref b18), .val (.ref b54), .val (.ref b113), .val (.int (1 : Int32)), .val (.ref b18), .val (.ref b18), .val (.ref b18), .val (.ref b18)] [(.ref b18), (.ref b18)]))
    obtain ⟨cq254, kq254, q254a, q254b, q254c⟩ := isOf hZ rfl f246
    obtain ⟨_, _, ⟨T254, L254, k254, n254⟩, -, X254, ⟨Lc254, hQ254, l254, y254, z254⟩, st254⟩ := X241.virtualBack hx (y := (⟨"java/lang/String", "equals", "(Ljava/lang/Object;)Z"⟩ : MethodName)) (z := (⟨"java/lang/String", "equals", "(Ljava/lang/Object;)Z"⟩ : MethodName)) hown (mvT hZ (wdx hw 108 rfl)) (mvT hZ (wdx hw 109 rfl)) (notFace_of_selects (args := #[]) (mvT hZ (wdx hw 111 rfl))) (mvT hZ (wdx hw 111 rfl)) (mvT hZ (wdx hw 110 rfl)) (by decide) (backOf (W := 0) (rm16 l Z a0 hw [] b18 T241.heap n0 O241 ) hZ (wdx hw 112 rfl) (wdx hw 2 rfl) (by decide) (by decide)) q254a q254c (g := (mkF m 264 #[.val (.int xa), .val (.int xb), .val (.int xc), .val (.int sel), .val (.int ((xa &&& (255 : Int32)).toUInt32.toUInt16.toUInt32.toInt32)), .val (.int ((((xa.toUInt32 >>> ((8 : Int32) &&& 31).toUInt32).toInt32) &&& (255 : Int32)).toUInt32.toUInt16.toUInt32.toInt32)), .val (.int ((xb &&& (255 : Int32)).toUInt32.toUInt16.toUInt32.toInt32)), .val (.int ((((xb.toUInt32 >>> ((8 : Int32) &&& 31).toUInt32).toInt32) &&& (255 : Int32)).toUInt32.toUInt16.toUInt32.toInt32)), .val (.int ((xc &&& (255 : Int32)).toUInt32.toUInt16.toUInt32.toInt32)), .val (.int ((((xc.toUInt32 >>> ((8 : Int32) &&& 31).toUInt32).toInt32) &&& (255 : Int32)).toUInt32.toUInt16.toUInt32.toInt32)), .val (.ref b1), .val (.ref b18), .val (.ref b54), .val (.ref b113), .val (.int (1 : Int32)), .val (.ref b18), .val (.ref b18), .val (.ref b18), .val (.ref b18)] [(.ref b18), (.ref b18)])) rfl (by rw [hml]; rfl) (Steps.refl _) (argsL := [(.ref b18)]) (rest := []) (lenOf pd__Ljava_lang_Object__Z rfl) rfl (by show 2 * 0 + _ ≤ _; exact Nat.le_of_eq rfl) (hb hby at_264) (fun _ _ => ⟨rfl, rfl, (by exact Nat.le_of_ble_eq_true rfl), (by exact Nat.le_of_ble_eq_true rfl)⟩)
    dsimp only [Pt.U, Pt.locs, Pt.cells, Pt.slots] at X254 l254 y254 z254 st254 hQ254
    subst l254 y254 z254
    obtain ⟨rfl, Nq254, eq254⟩ := hQ254
    have N254 := Fr.app N241 Nq254
    refine Go.tr st254 ?_
    show Go p e below s _ _ _ (T254.setTop (mkF m 267 #[.val (.int xa), .val (.int xb), .val (.int xc), .val (.int sel), .val (.int ((xa &&& (255 : Int32)).toUInt32.toUInt16.toUInt32.toInt32)), .val (.int ((((xa.toUInt32 >>> ((8 : Int32) &&& 31).toUInt32).toInt32) &&& (255 : Int32)).toUInt32.toUInt16.toUInt32.toInt32)), .val (.int ((xb &&& (255 : Int32)).toUInt32.toUInt16.toUInt32.toInt32)), .val (.int ((((xb.toUInt32 >>> ((8 : Int32) &&& 31).toUInt32).toInt32) &&& (255 : Int32)).toUInt32.toUInt16.toUInt32.toInt32)), .val (.int ((xc &&& (255 : Int32)).toUInt32.toUInt16.toUInt32.toInt32)), .val (.int ((((xc.toUInt32 >>> ((8 : Int32) &&& 31).toUInt32).toInt32) &&& (255 : Int32)).toUInt32.toUInt16.toUInt32.toInt32)), .val (.ref b1), .val (.ref b18), .val (.ref b54), .val (.ref b113), .val (.int (1 : Int32)), .val (.ref b18), .val (.ref b18), .val (.ref b18), .val (.ref b18)] [(.int (1 : Int32))]))
    refine Go.st (fun _ k' => XS.ifNo X254.here hx rfl (hb hby at_267) rfl (XT.i0_eq_f (by decide)) k') ?_
    show Go p e below s _ _ _ (T254.setTop (mkF m 270 #[.val (.int xa), .val (.int xb), .val (.int xc), .val (.int sel), .val (.int ((xa &&& (255 : Int32)).toUInt32.toUInt16.toUInt32.toInt32)), .val (.int ((((xa.toUInt32 >>> ((8 : Int32) &&& 31).toUInt32).toInt32) &&& (255 : Int32)).toUInt32.toUInt16.toUInt32.toInt32)), .val (.int ((xb &&& (255 : Int32)).toUInt32.toUInt16.toUInt32.toInt32)), .val (.int ((((xb.toUInt32 >>> ((8 : Int32) &&& 31).toUInt32).toInt32) &&& (255 : Int32)).toUInt32.toUInt16.toUInt32.toInt32)), .val (.int ((xc &&& (255 : Int32)).toUInt32.toUInt16.toUInt32.toInt32)), .val (.int ((((xc.toUInt32 >>> ((8 : Int32) &&& 31).toUInt32).toInt32) &&& (255 : Int32)).toUInt32.toUInt16.toUInt32.toInt32)), .val (.ref b1), .val (.ref b18), .val (.ref b54), .val (.ref b113), .val (.int (1 : Int32)), .val (.ref b18), .val (.ref b18), .val (.ref b18), .val (.ref b18)] []))
    refine Go.st (fun _ k' => XS.aload X254.here hx rfl (hb hby at_270) rfl rfl k') ?_
    show Go p e below s _ _ _ (T254.setTop (mkF m 272 #[.val (.int xa), .val (.int xb), .val (.int xc), .val (.int sel), .val (.int ((xa &&& (255 : Int32)).toUInt32.toUInt16.toUInt32.toInt32)), .val (.int ((((xa.toUInt32 >>> ((8 : Int32) &&& 31).toUInt32).toInt32) &&& (255 : Int32)).toUInt32.toUInt16.toUInt32.toInt32)), .val (.int ((xb &&& (255 : Int32)).toUInt32.toUInt16.toUInt32.toInt32)), .val (.int ((((xb.toUInt32 >>> ((8 : Int32) &&& 31).toUInt32).toInt32) &&& (255 : Int32)).toUInt32.toUInt16.toUInt32.toInt32)), .val (.int ((xc &&& (255 : Int32)).toUInt32.toUInt16.toUInt32.toInt32)), .val (.int ((((xc.toUInt32 >>> ((8 : Int32) &&& 31).toUInt32).toInt32) &&& (255 : Int32)).toUInt32.toUInt16.toUInt32.toInt32)), .val (.ref b1), .val (.ref b18), .val (.ref b54), .val (.ref b113), .val (.int (1 : Int32)), .val (.ref b18), .val (.ref b18), .val (.ref b18), .val (.ref b18)] [(.ref b18)]))
    refine Go.st (fun _ k' => XS.aload X254.here hx rfl (hb hby at_272) rfl rfl k') ?_
    show Go p e below s _ _ _ (T254.setTop (mkF m 274 #[.val (.int xa), .val (.int xb), .val (.int xc), .val (.int sel), .val (.int ((xa &&& (255 : Int32)).toUInt32.toUInt16.toUInt32.toInt32)), .val (.int ((((xa.toUInt32 >>> ((8 : Int32) &&& 31).toUInt32).toInt32) &&& (255 : Int32)).toUInt32.toUInt16.toUInt32.toInt32)), .val (.int ((xb &&& (255 : Int32)).toUInt32.toUInt16.toUInt32.toInt32)), .val (.int ((((xb.toUInt32 >>> ((8 : Int32) &&& 31).toUInt32).toInt32) &&& (255 : Int32)).toUInt32.toUInt16.toUInt32.toInt32)), .val (.int ((xc &&& (255 : Int32)).toUInt32.toUInt16.toUInt32.toInt32)), .val (.int ((((xc.toUInt32 >>> ((8 : Int32) &&& 31).toUInt32).toInt32) &&& (255 : Int32)).toUInt32.toUInt16.toUInt32.toInt32)), .val (.ref b1), .val (.ref b18), .val (.ref b54), .val (.ref b113), .val (.int (1 : Int32)), .val (.ref b18), .val (.ref b18), .val (.ref b18), .val (.ref b18)] [(.ref b18), (.ref b18)]))
    obtain ⟨cq255, kq255, q255a, q255b, q255c⟩ := isOf hZ eq254 f246
    obtain ⟨_, _, ⟨T255, L255, k255, n255⟩, -, X255, ⟨Lc255, hQ255, l255, y255, z255⟩, st255⟩ := X254.virtualBack hx (y := (⟨"java/lang/String", "equals", "(Ljava/lang/Object;)Z"⟩ : MethodName)) (z := (⟨"java/lang/String", "equals", "(Ljava/lang/Object;)Z"⟩ : MethodName)) hown (mvT hZ (wdx hw 108 rfl)) (mvT hZ (wdx hw 109 rfl)) (notFace_of_selects (args := #[]) (mvT hZ (wdx hw 111 rfl))) (mvT hZ (wdx hw 111 rfl)) (mvT hZ (wdx hw 110 rfl)) (by decide) (backOf (W := 0) (rm16 l Z a0 hw [] b18 T241.heap n0 O241 ) hZ (wdx hw 112 rfl) (wdx hw 2 rfl) (by decide) (by decide)) q255a q255c (g := (mkF m 274 #[.val (.int xa), .val (.int xb), .val (.int xc), .val (.int sel), .val (.int ((xa &&& (255 : Int32)).toUInt32.toUInt16.toUInt32.toInt32)), .val (.int ((((xa.toUInt32 >>> ((8 : Int32) &&& 31).toUInt32).toInt32) &&& (255 : Int32)).toUInt32.toUInt16.toUInt32.toInt32)), .val (.int ((xb &&& (255 : Int32)).toUInt32.toUInt16.toUInt32.toInt32)), .val (.int ((((xb.toUInt32 >>> ((8 : Int32) &&& 31).toUInt32).toInt32) &&& (255 : Int32)).toUInt32.toUInt16.toUInt32.toInt32)), .val (.int ((xc &&& (255 : Int32)).toUInt32.toUInt16.toUInt32.toInt32)), .val (.int ((((xc.toUInt32 >>> ((8 : Int32) &&& 31).toUInt32).toInt32) &&& (255 : Int32)).toUInt32.toUInt16.toUInt32.toInt32)), .val (.ref b1), .val (.ref b18), .val (.ref b54), .val (.ref b113), .val (.int (1 : Int32)), .val (.ref b18), .val (.ref b18), .val (.ref b18), .val (.ref b18)] [(.ref b18), (.ref b18)])) rfl (by rw [hml]; rfl) (Steps.refl _) (argsL := [(.ref b18)]) (rest := []) (lenOf pd__Ljava_lang_Object__Z rfl) rfl (by show 2 * 0 + _ ≤ _; exact Nat.le_of_eq rfl) (hb hby at_274) (fun _ _ => ⟨rfl, eq254, (by exact Nat.le_of_ble_eq_true rfl), (by exact Nat.le_of_ble_eq_true rfl)⟩)
    dsimp only [Pt.U, Pt.locs, Pt.cells, Pt.slots] at X255 l255 y255 z255 st255 hQ255
    subst l255 y255 z255
    obtain ⟨rfl, Nq255, eq255⟩ := hQ255
    have N255 := Fr.app N254 Nq255
    refine Go.tr st255 ?_
    show Go p e below s _ _ _ (T255.setTop (mkF m 277 #[.val (.int xa), .val (.int xb), .val (.int xc), .val (.int sel), .val (.int ((xa &&& (255 : Int32)).toUInt32.toUInt16.toUInt32.toInt32)), .val (.int ((((xa.toUInt32 >>> ((8 : Int32) &&& 31).toUInt32).toInt32) &&& (255 : Int32)).toUInt32.toUInt16.toUInt32.toInt32)), .val (.int ((xb &&& (255 : Int32)).toUInt32.toUInt16.toUInt32.toInt32)), .val (.int ((((xb.toUInt32 >>> ((8 : Int32) &&& 31).toUInt32).toInt32) &&& (255 : Int32)).toUInt32.toUInt16.toUInt32.toInt32)), .val (.int ((xc &&& (255 : Int32)).toUInt32.toUInt16.toUInt32.toInt32)), .val (.int ((((xc.toUInt32 >>> ((8 : Int32) &&& 31).toUInt32).toInt32) &&& (255 : Int32)).toUInt32.toUInt16.toUInt32.toInt32)), .val (.ref b1), .val (.ref b18), .val (.ref b54), .val (.ref b113), .val (.int (1 : Int32)), .val (.ref b18), .val (.ref b18), .val (.ref b18), .val (.ref b18)] [(.int (1 : Int32))]))
    refine Go.st (fun _ k' => XS.ifNo X255.here hx rfl (hb hby at_277) rfl (XT.i0_eq_f (by decide)) k') ?_
    show Go p e below s _ _ _ (T255.setTop (mkF m 280 #[.val (.int xa), .val (.int xb), .val (.int xc), .val (.int sel), .val (.int ((xa &&& (255 : Int32)).toUInt32.toUInt16.toUInt32.toInt32)), .val (.int ((((xa.toUInt32 >>> ((8 : Int32) &&& 31).toUInt32).toInt32) &&& (255 : Int32)).toUInt32.toUInt16.toUInt32.toInt32)), .val (.int ((xb &&& (255 : Int32)).toUInt32.toUInt16.toUInt32.toInt32)), .val (.int ((((xb.toUInt32 >>> ((8 : Int32) &&& 31).toUInt32).toInt32) &&& (255 : Int32)).toUInt32.toUInt16.toUInt32.toInt32)), .val (.int ((xc &&& (255 : Int32)).toUInt32.toUInt16.toUInt32.toInt32)), .val (.int ((((xc.toUInt32 >>> ((8 : Int32) &&& 31).toUInt32).toInt32) &&& (255 : Int32)).toUInt32.toUInt16.toUInt32.toInt32)), .val (.ref b1), .val (.ref b18), .val (.ref b54), .val (.ref b113), .val (.int (1 : Int32)), .val (.ref b18), .val (.ref b18), .val (.ref b18), .val (.ref b18)] []))
    refine Go.st (fun _ k' => XS.aload X255.here hx rfl (hb hby at_280) rfl rfl k') ?_
    show Go p e below s _ _ _ (T255.setTop (mkF m 282 #[.val (.int xa), .val (.int xb), .val (.int xc), .val (.int sel), .val (.int ((xa &&& (255 : Int32)).toUInt32.toUInt16.toUInt32.toInt32)), .val (.int ((((xa.toUInt32 >>> ((8 : Int32) &&& 31).toUInt32).toInt32) &&& (255 : Int32)).toUInt32.toUInt16.toUInt32.toInt32)), .val (.int ((xb &&& (255 : Int32)).toUInt32.toUInt16.toUInt32.toInt32)), .val (.int ((((xb.toUInt32 >>> ((8 : Int32) &&& 31).toUInt32).toInt32) &&& (255 : Int32)).toUInt32.toUInt16.toUInt32.toInt32)), .val (.int ((xc &&& (255 : Int32)).toUInt32.toUInt16.toUInt32.toInt32)), .val (.int ((((xc.toUInt32 >>> ((8 : Int32) &&& 31).toUInt32).toInt32) &&& (255 : Int32)).toUInt32.toUInt16.toUInt32.toInt32)), .val (.ref b1), .val (.ref b18), .val (.ref b54), .val (.ref b113), .val (.int (1 : Int32)), .val (.ref b18), .val (.ref b18), .val (.ref b18), .val (.ref b18)] [(.ref b18)]))
    refine Go.st (fun _ k' => XS.aload X255.here hx rfl (hb hby at_282) rfl rfl k') ?_
    show Go p e below s _ _ _ (T255.setTop (mkF m 284 #[.val (.int xa), .val (.int xb), .val (.int xc), .val (.int sel), .val (.int ((xa &&& (255 : Int32)).toUInt32.toUInt16.toUInt32.toInt32)), .val (.int ((((xa.toUInt32 >>> ((8 : Int32) &&& 31).toUInt32).toInt32) &&& (255 : Int32)).toUInt32.toUInt16.toUInt32.toInt32)), .val (.int ((xb &&& (255 : Int32)).toUInt32.toUInt16.toUInt32.toInt32)), .val (.int ((((xb.toUInt32 >>> ((8 : Int32) &&& 31).toUInt32).toInt32) &&& (255 : Int32)).toUInt32.toUInt16.toUInt32.toInt32)), .val (.int ((xc &&& (255 : Int32)).toUInt32.toUInt16.toUInt32.toInt32)), .val (.int ((((xc.toUInt32 >>> ((8 : Int32) &&& 31).toUInt32).toInt32) &&& (255 : Int32)).toUInt32.toUInt16.toUInt32.toInt32)), .val (.ref b1), .val (.ref b18), .val (.ref b54), .val (.ref b113), .val (.int (1 : Int32)), .val (.ref b18), .val (.ref b18), .val (.ref b18), .val (.ref b18)] [(.ref b18), (.ref b18)]))
    obtain ⟨cq256, kq256, q256a, q256b, q256c⟩ := isOf hZ eq255 f246
    obtain ⟨_, _, ⟨T256, L256, k256, n256⟩, -, X256, ⟨Lc256, hQ256, l256, y256, z256⟩, st256⟩ := X255.virtualBack hx (y := (⟨"java/lang/String", "equals", "(Ljava/lang/Object;)Z"⟩ : MethodName)) (z := (⟨"java/lang/String", "equals", "(Ljava/lang/Object;)Z"⟩ : MethodName)) hown (mvT hZ (wdx hw 108 rfl)) (mvT hZ (wdx hw 109 rfl)) (notFace_of_selects (args := #[]) (mvT hZ (wdx hw 111 rfl))) (mvT hZ (wdx hw 111 rfl)) (mvT hZ (wdx hw 110 rfl)) (by decide) (backOf (W := 0) (rm16 l Z a0 hw [] b18 T241.heap n0 O241 ) hZ (wdx hw 112 rfl) (wdx hw 2 rfl) (by decide) (by decide)) q256a q256c (g := (mkF m 284 #[.val (.int xa), .val (.int xb), .val (.int xc), .val (.int sel), .val (.int ((xa &&& (255 : Int32)).toUInt32.toUInt16.toUInt32.toInt32)), .val (.int ((((xa.toUInt32 >>> ((8 : Int32) &&& 31).toUInt32).toInt32) &&& (255 : Int32)).toUInt32.toUInt16.toUInt32.toInt32)), .val (.int ((xb &&& (255 : Int32)).toUInt32.toUInt16.toUInt32.toInt32)), .val (.int ((((xb.toUInt32 >>> ((8 : Int32) &&& 31).toUInt32).toInt32) &&& (255 : Int32)).toUInt32.toUInt16.toUInt32.toInt32)), .val (.int ((xc &&& (255 : Int32)).toUInt32.toUInt16.toUInt32.toInt32)), .val (.int ((((xc.toUInt32 >>> ((8 : Int32) &&& 31).toUInt32).toInt32) &&& (255 : Int32)).toUInt32.toUInt16.toUInt32.toInt32)), .val (.ref b1), .val (.ref b18), .val (.ref b54), .val (.ref b113), .val (.int (1 : Int32)), .val (.ref b18), .val (.ref b18), .val (.ref b18), .val (.ref b18)] [(.ref b18), (.ref b18)])) rfl (by rw [hml]; rfl) (Steps.refl _) (argsL := [(.ref b18)]) (rest := []) (lenOf pd__Ljava_lang_Object__Z rfl) rfl (by show 2 * 0 + _ ≤ _; exact Nat.le_of_eq rfl) (hb hby at_284) (fun _ _ => ⟨rfl, eq255, (by exact Nat.le_of_ble_eq_true rfl), (by exact Nat.le_of_ble_eq_true rfl)⟩)
    dsimp only [Pt.U, Pt.locs, Pt.cells, Pt.slots] at X256 l256 y256 z256 st256 hQ256
    subst l256 y256 z256
    obtain ⟨rfl, Nq256, eq256⟩ := hQ256
    have N256 := Fr.app N255 Nq256
    refine Go.tr st256 ?_
    show Go p e below s _ _ _ (T256.setTop (mkF m 287 #[.val (.int xa), .val (.int xb), .val (.int xc), .val (.int sel), .val (.int ((xa &&& (255 : Int32)).toUInt32.toUInt16.toUInt32.toInt32)), .val (.int ((((xa.toUInt32 >>> ((8 : Int32) &&& 31).toUInt32).toInt32) &&& (255 : Int32)).toUInt32.toUInt16.toUInt32.toInt32)), .val (.int ((xb &&& (255 : Int32)).toUInt32.toUInt16.toUInt32.toInt32)), .val (.int ((((xb.toUInt32 >>> ((8 : Int32) &&& 31).toUInt32).toInt32) &&& (255 : Int32)).toUInt32.toUInt16.toUInt32.toInt32)), .val (.int ((xc &&& (255 : Int32)).toUInt32.toUInt16.toUInt32.toInt32)), .val (.int ((((xc.toUInt32 >>> ((8 : Int32) &&& 31).toUInt32).toInt32) &&& (255 : Int32)).toUInt32.toUInt16.toUInt32.toInt32)), .val (.ref b1), .val (.ref b18), .val (.ref b54), .val (.ref b113), .val (.int (1 : Int32)), .val (.ref b18), .val (.ref b18), .val (.ref b18), .val (.ref b18)] [(.int (1 : Int32))]))
    refine Go.st (fun _ k' => XS.ifNo X256.here hx rfl (hb hby at_287) rfl (XT.i0_eq_f (by decide)) k') ?_
    show Go p e below s _ _ _ (T256.setTop (mkF m 290 #[.val (.int xa), .val (.int xb), .val (.int xc), .val (.int sel), .val (.int ((xa &&& (255 : Int32)).toUInt32.toUInt16.toUInt32.toInt32)), .val (.int ((((xa.toUInt32 >>> ((8 : Int32) &&& 31).toUInt32).toInt32) &&& (255 : Int32)).toUInt32.toUInt16.toUInt32.toInt32)), .val (.int ((xb &&& (255 : Int32)).toUInt32.toUInt16.toUInt32.toInt32)), .val (.int ((((xb.toUInt32 >>> ((8 : Int32) &&& 31).toUInt32).toInt32) &&& (255 : Int32)).toUInt32.toUInt16.toUInt32.toInt32)), .val (.int ((xc &&& (255 : Int32)).toUInt32.toUInt16.toUInt32.toInt32)), .val (.int ((((xc.toUInt32 >>> ((8 : Int32) &&& 31).toUInt32).toInt32) &&& (255 : Int32)).toUInt32.toUInt16.toUInt32.toInt32)), .val (.ref b1), .val (.ref b18), .val (.ref b54), .val (.ref b113), .val (.int (1 : Int32)), .val (.ref b18), .val (.ref b18), .val (.ref b18), .val (.ref b18)] []))
    refine Go.st (fun _ k' => XS.iconst X256.here hx rfl (hb hby at_290) k') ?_
    show Go p e below s _ _ _ (T256.setTop (mkF m 291 #[.val (.int xa), .val (.int xb), .val (.int xc), .val (.int sel), .val (.int ((xa &&& (255 : Int32)).toUInt32.toUInt16.toUInt32.toInt32)), .val (.int ((((xa.toUInt32 >>> ((8 : Int32) &&& 31).toUInt32).toInt32) &&& (255 : Int32)).toUInt32.toUInt16.toUInt32.toInt32)), .val (.int ((xb &&& (255 : Int32)).toUInt32.toUInt16.toUInt32.toInt32)), .val (.int ((((xb.toUInt32 >>> ((8 : Int32) &&& 31).toUInt32).toInt32) &&& (255 : Int32)).toUInt32.toUInt16.toUInt32.toInt32)), .val (.int ((xc &&& (255 : Int32)).toUInt32.toUInt16.toUInt32.toInt32)), .val (.int ((((xc.toUInt32 >>> ((8 : Int32) &&& 31).toUInt32).toInt32) &&& (255 : Int32)).toUInt32.toUInt16.toUInt32.toInt32)), .val (.ref b1), .val (.ref b18), .val (.ref b54), .val (.ref b113), .val (.int (1 : Int32)), .val (.ref b18), .val (.ref b18), .val (.ref b18), .val (.ref b18)] [(.int (1 : Int32))]))
    refine Go.st (fun _ k' => XS.goto X256.here hx rfl (pc0 := 291) (pc' := 295) rfl (hb hby at_291) (by decide) (by decide) k') ?_
    show Go p e below s _ _ _ (T256.setTop (mkF m 295 #[.val (.int xa), .val (.int xb), .val (.int xc), .val (.int sel), .val (.int ((xa &&& (255 : Int32)).toUInt32.toUInt16.toUInt32.toInt32)), .val (.int ((((xa.toUInt32 >>> ((8 : Int32) &&& 31).toUInt32).toInt32) &&& (255 : Int32)).toUInt32.toUInt16.toUInt32.toInt32)), .val (.int ((xb &&& (255 : Int32)).toUInt32.toUInt16.toUInt32.toInt32)), .val (.int ((((xb.toUInt32 >>> ((8 : Int32) &&& 31).toUInt32).toInt32) &&& (255 : Int32)).toUInt32.toUInt16.toUInt32.toInt32)), .val (.int ((xc &&& (255 : Int32)).toUInt32.toUInt16.toUInt32.toInt32)), .val (.int ((((xc.toUInt32 >>> ((8 : Int32) &&& 31).toUInt32).toInt32) &&& (255 : Int32)).toUInt32.toUInt16.toUInt32.toInt32)), .val (.ref b1), .val (.ref b18), .val (.ref b54), .val (.ref b113), .val (.int (1 : Int32)), .val (.ref b18), .val (.ref b18), .val (.ref b18), .val (.ref b18)] [(.int (1 : Int32))]))
    refine Go.retB X256 hx hlk (t := .boolean) Bd.returns (by simp) (hb hby at_295) (by decide) (by decide) eq256 ?_
    exact ⟨rfl, N256, trivial⟩
  · rw [hi]
    show Go p e below s _ _ _ (T187.setTop (mkF m 159 #[.val (.int xa), .val (.int xb), .val (.int xc), .val (.int sel), .val (.int ((xa &&& (255 : Int32)).toUInt32.toUInt16.toUInt32.toInt32)), .val (.int ((((xa.toUInt32 >>> ((8 : Int32) &&& 31).toUInt32).toInt32) &&& (255 : Int32)).toUInt32.toUInt16.toUInt32.toInt32)), .val (.int ((xb &&& (255 : Int32)).toUInt32.toUInt16.toUInt32.toInt32)), .val (.int ((((xb.toUInt32 >>> ((8 : Int32) &&& 31).toUInt32).toInt32) &&& (255 : Int32)).toUInt32.toUInt16.toUInt32.toInt32)), .val (.int ((xc &&& (255 : Int32)).toUInt32.toUInt16.toUInt32.toInt32)), .val (.int ((((xc.toUInt32 >>> ((8 : Int32) &&& 31).toUInt32).toInt32) &&& (255 : Int32)).toUInt32.toUInt16.toUInt32.toInt32)), .val (.ref b1), .val (.ref b18), .val (.ref b54), .val (.ref b113), .val (.int (2 : Int32)), .unset, .unset, .unset, .unset] []))
    refine Go.st (fun _ k' => XS.aload X187.here hx rfl (hb hby at_159) rfl rfl k') ?_
    show Go p e below s _ _ _ (T187.setTop (mkF m 161 #[.val (.int xa), .val (.int xb), .val (.int xc), .val (.int sel), .val (.int ((xa &&& (255 : Int32)).toUInt32.toUInt16.toUInt32.toInt32)), .val (.int ((((xa.toUInt32 >>> ((8 : Int32) &&& 31).toUInt32).toInt32) &&& (255 : Int32)).toUInt32.toUInt16.toUInt32.toInt32)), .val (.int ((xb &&& (255 : Int32)).toUInt32.toUInt16.toUInt32.toInt32)), .val (.int ((((xb.toUInt32 >>> ((8 : Int32) &&& 31).toUInt32).toInt32) &&& (255 : Int32)).toUInt32.toUInt16.toUInt32.toInt32)), .val (.int ((xc &&& (255 : Int32)).toUInt32.toUInt16.toUInt32.toInt32)), .val (.int ((((xc.toUInt32 >>> ((8 : Int32) &&& 31).toUInt32).toInt32) &&& (255 : Int32)).toUInt32.toUInt16.toUInt32.toInt32)), .val (.ref b1), .val (.ref b18), .val (.ref b54), .val (.ref b113), .val (.int (2 : Int32)), .unset, .unset, .unset, .unset] [(.ref b1)]))
    refine Go.st (fun _ k' => XS.astore X187.here hx rfl (hb hby at_161) rfl rfl (l' := #[.val (.int xa), .val (.int xb), .val (.int xc), .val (.int sel), .val (.int ((xa &&& (255 : Int32)).toUInt32.toUInt16.toUInt32.toInt32)), .val (.int ((((xa.toUInt32 >>> ((8 : Int32) &&& 31).toUInt32).toInt32) &&& (255 : Int32)).toUInt32.toUInt16.toUInt32.toInt32)), .val (.int ((xb &&& (255 : Int32)).toUInt32.toUInt16.toUInt32.toInt32)), .val (.int ((((xb.toUInt32 >>> ((8 : Int32) &&& 31).toUInt32).toInt32) &&& (255 : Int32)).toUInt32.toUInt16.toUInt32.toInt32)), .val (.int ((xc &&& (255 : Int32)).toUInt32.toUInt16.toUInt32.toInt32)), .val (.int ((((xc.toUInt32 >>> ((8 : Int32) &&& 31).toUInt32).toInt32) &&& (255 : Int32)).toUInt32.toUInt16.toUInt32.toInt32)), .val (.ref b1), .val (.ref b18), .val (.ref b54), .val (.ref b113), .val (.int (2 : Int32)), .val (.ref b1), .unset, .unset, .unset]) rfl k') ?_
    show Go p e below s _ _ _ (T187.setTop (mkF m 163 #[.val (.int xa), .val (.int xb), .val (.int xc), .val (.int sel), .val (.int ((xa &&& (255 : Int32)).toUInt32.toUInt16.toUInt32.toInt32)), .val (.int ((((xa.toUInt32 >>> ((8 : Int32) &&& 31).toUInt32).toInt32) &&& (255 : Int32)).toUInt32.toUInt16.toUInt32.toInt32)), .val (.int ((xb &&& (255 : Int32)).toUInt32.toUInt16.toUInt32.toInt32)), .val (.int ((((xb.toUInt32 >>> ((8 : Int32) &&& 31).toUInt32).toInt32) &&& (255 : Int32)).toUInt32.toUInt16.toUInt32.toInt32)), .val (.int ((xc &&& (255 : Int32)).toUInt32.toUInt16.toUInt32.toInt32)), .val (.int ((((xc.toUInt32 >>> ((8 : Int32) &&& 31).toUInt32).toInt32) &&& (255 : Int32)).toUInt32.toUInt16.toUInt32.toInt32)), .val (.ref b1), .val (.ref b18), .val (.ref b54), .val (.ref b113), .val (.int (2 : Int32)), .val (.ref b1), .unset, .unset, .unset] []))
    refine Go.st (fun _ k' => XS.iload X187.here hx rfl (hb hby at_163) rfl k') ?_
    show Go p e below s _ _ _ (T187.setTop (mkF m 165 #[.val (.int xa), .val (.int xb), .val (.int xc), .val (.int sel), .val (.int ((xa &&& (255 : Int32)).toUInt32.toUInt16.toUInt32.toInt32)), .val (.int ((((xa.toUInt32 >>> ((8 : Int32) &&& 31).toUInt32).toInt32) &&& (255 : Int32)).toUInt32.toUInt16.toUInt32.toInt32)), .val (.int ((xb &&& (255 : Int32)).toUInt32.toUInt16.toUInt32.toInt32)), .val (.int ((((xb.toUInt32 >>> ((8 : Int32) &&& 31).toUInt32).toInt32) &&& (255 : Int32)).toUInt32.toUInt16.toUInt32.toInt32)), .val (.int ((xc &&& (255 : Int32)).toUInt32.toUInt16.toUInt32.toInt32)), .val (.int ((((xc.toUInt32 >>> ((8 : Int32) &&& 31).toUInt32).toInt32) &&& (255 : Int32)).toUInt32.toUInt16.toUInt32.toInt32)), .val (.ref b1), .val (.ref b18), .val (.ref b54), .val (.ref b113), .val (.int (2 : Int32)), .val (.ref b1), .unset, .unset, .unset] [(.int (2 : Int32))]))
    refine Go.st (fun _ k' => XS.iconst X187.here hx rfl (hb hby at_165) k') ?_
    show Go p e below s _ _ _ (T187.setTop (mkF m 166 #[.val (.int xa), .val (.int xb), .val (.int xc), .val (.int sel), .val (.int ((xa &&& (255 : Int32)).toUInt32.toUInt16.toUInt32.toInt32)), .val (.int ((((xa.toUInt32 >>> ((8 : Int32) &&& 31).toUInt32).toInt32) &&& (255 : Int32)).toUInt32.toUInt16.toUInt32.toInt32)), .val (.int ((xb &&& (255 : Int32)).toUInt32.toUInt16.toUInt32.toInt32)), .val (.int ((((xb.toUInt32 >>> ((8 : Int32) &&& 31).toUInt32).toInt32) &&& (255 : Int32)).toUInt32.toUInt16.toUInt32.toInt32)), .val (.int ((xc &&& (255 : Int32)).toUInt32.toUInt16.toUInt32.toInt32)), .val (.int ((((xc.toUInt32 >>> ((8 : Int32) &&& 31).toUInt32).toInt32) &&& (255 : Int32)).toUInt32.toUInt16.toUInt32.toInt32)), .val (.ref b1), .val (.ref b18), .val (.ref b54), .val (.ref b113), .val (.int (2 : Int32)), .val (.ref b1), .unset, .unset, .unset] [(.int (1 : Int32)), (.int (2 : Int32))]))
    refine Go.st (fun _ k' => XS.icmpYes X187.here hx rfl (pc0 := 166) (pc' := 173) rfl (hb hby at_166) rfl (XT.ii_ne_t (by decide)) (by decide) (by decide) k') ?_
    show Go p e below s _ _ _ (T187.setTop (mkF m 173 #[.val (.int xa), .val (.int xb), .val (.int xc), .val (.int sel), .val (.int ((xa &&& (255 : Int32)).toUInt32.toUInt16.toUInt32.toInt32)), .val (.int ((((xa.toUInt32 >>> ((8 : Int32) &&& 31).toUInt32).toInt32) &&& (255 : Int32)).toUInt32.toUInt16.toUInt32.toInt32)), .val (.int ((xb &&& (255 : Int32)).toUInt32.toUInt16.toUInt32.toInt32)), .val (.int ((((xb.toUInt32 >>> ((8 : Int32) &&& 31).toUInt32).toInt32) &&& (255 : Int32)).toUInt32.toUInt16.toUInt32.toInt32)), .val (.int ((xc &&& (255 : Int32)).toUInt32.toUInt16.toUInt32.toInt32)), .val (.int ((((xc.toUInt32 >>> ((8 : Int32) &&& 31).toUInt32).toInt32) &&& (255 : Int32)).toUInt32.toUInt16.toUInt32.toInt32)), .val (.ref b1), .val (.ref b18), .val (.ref b54), .val (.ref b113), .val (.int (2 : Int32)), .val (.ref b1), .unset, .unset, .unset] []))
    refine Go.st (fun _ k' => XS.iload X187.here hx rfl (hb hby at_173) rfl k') ?_
    show Go p e below s _ _ _ (T187.setTop (mkF m 175 #[.val (.int xa), .val (.int xb), .val (.int xc), .val (.int sel), .val (.int ((xa &&& (255 : Int32)).toUInt32.toUInt16.toUInt32.toInt32)), .val (.int ((((xa.toUInt32 >>> ((8 : Int32) &&& 31).toUInt32).toInt32) &&& (255 : Int32)).toUInt32.toUInt16.toUInt32.toInt32)), .val (.int ((xb &&& (255 : Int32)).toUInt32.toUInt16.toUInt32.toInt32)), .val (.int ((((xb.toUInt32 >>> ((8 : Int32) &&& 31).toUInt32).toInt32) &&& (255 : Int32)).toUInt32.toUInt16.toUInt32.toInt32)), .val (.int ((xc &&& (255 : Int32)).toUInt32.toUInt16.toUInt32.toInt32)), .val (.int ((((xc.toUInt32 >>> ((8 : Int32) &&& 31).toUInt32).toInt32) &&& (255 : Int32)).toUInt32.toUInt16.toUInt32.toInt32)), .val (.ref b1), .val (.ref b18), .val (.ref b54), .val (.ref b113), .val (.int (2 : Int32)), .val (.ref b1), .unset, .unset, .unset] [(.int (2 : Int32))]))
    refine Go.st (fun _ k' => XS.iconst X187.here hx rfl (hb hby at_175) k') ?_
    show Go p e below s _ _ _ (T187.setTop (mkF m 176 #[.val (.int xa), .val (.int xb), .val (.int xc), .val (.int sel), .val (.int ((xa &&& (255 : Int32)).toUInt32.toUInt16.toUInt32.toInt32)), .val (.int ((((xa.toUInt32 >>> ((8 : Int32) &&& 31).toUInt32).toInt32) &&& (255 : Int32)).toUInt32.toUInt16.toUInt32.toInt32)), .val (.int ((xb &&& (255 : Int32)).toUInt32.toUInt16.toUInt32.toInt32)), .val (.int ((((xb.toUInt32 >>> ((8 : Int32) &&& 31).toUInt32).toInt32) &&& (255 : Int32)).toUInt32.toUInt16.toUInt32.toInt32)), .val (.int ((xc &&& (255 : Int32)).toUInt32.toUInt16.toUInt32.toInt32)), .val (.int ((((xc.toUInt32 >>> ((8 : Int32) &&& 31).toUInt32).toInt32) &&& (255 : Int32)).toUInt32.toUInt16.toUInt32.toInt32)), .val (.ref b1), .val (.ref b18), .val (.ref b54), .val (.ref b113), .val (.int (2 : Int32)), .val (.ref b1), .unset, .unset, .unset] [(.int (2 : Int32)), (.int (2 : Int32))]))
    refine Go.st (fun _ k' => XS.icmpNo X187.here hx rfl (hb hby at_176) rfl (XT.ii_ne_f (by decide)) k') ?_
    show Go p e below s _ _ _ (T187.setTop (mkF m 179 #[.val (.int xa), .val (.int xb), .val (.int xc), .val (.int sel), .val (.int ((xa &&& (255 : Int32)).toUInt32.toUInt16.toUInt32.toInt32)), .val (.int ((((xa.toUInt32 >>> ((8 : Int32) &&& 31).toUInt32).toInt32) &&& (255 : Int32)).toUInt32.toUInt16.toUInt32.toInt32)), .val (.int ((xb &&& (255 : Int32)).toUInt32.toUInt16.toUInt32.toInt32)), .val (.int ((((xb.toUInt32 >>> ((8 : Int32) &&& 31).toUInt32).toInt32) &&& (255 : Int32)).toUInt32.toUInt16.toUInt32.toInt32)), .val (.int ((xc &&& (255 : Int32)).toUInt32.toUInt16.toUInt32.toInt32)), .val (.int ((((xc.toUInt32 >>> ((8 : Int32) &&& 31).toUInt32).toInt32) &&& (255 : Int32)).toUInt32.toUInt16.toUInt32.toInt32)), .val (.ref b1), .val (.ref b18), .val (.ref b54), .val (.ref b113), .val (.int (2 : Int32)), .val (.ref b1), .unset, .unset, .unset] []))
    refine Go.st (fun _ k' => XS.aload X187.here hx rfl (hb hby at_179) rfl rfl k') ?_
    show Go p e below s _ _ _ (T187.setTop (mkF m 181 #[.val (.int xa), .val (.int xb), .val (.int xc), .val (.int sel), .val (.int ((xa &&& (255 : Int32)).toUInt32.toUInt16.toUInt32.toInt32)), .val (.int ((((xa.toUInt32 >>> ((8 : Int32) &&& 31).toUInt32).toInt32) &&& (255 : Int32)).toUInt32.toUInt16.toUInt32.toInt32)), .val (.int ((xb &&& (255 : Int32)).toUInt32.toUInt16.toUInt32.toInt32)), .val (.int ((((xb.toUInt32 >>> ((8 : Int32) &&& 31).toUInt32).toInt32) &&& (255 : Int32)).toUInt32.toUInt16.toUInt32.toInt32)), .val (.int ((xc &&& (255 : Int32)).toUInt32.toUInt16.toUInt32.toInt32)), .val (.int ((((xc.toUInt32 >>> ((8 : Int32) &&& 31).toUInt32).toInt32) &&& (255 : Int32)).toUInt32.toUInt16.toUInt32.toInt32)), .val (.ref b1), .val (.ref b18), .val (.ref b54), .val (.ref b113), .val (.int (2 : Int32)), .val (.ref b1), .unset, .unset, .unset] [(.ref b54)]))
    refine Go.st (fun _ k' => XS.astore X187.here hx rfl (hb hby at_181) rfl rfl (l' := #[.val (.int xa), .val (.int xb), .val (.int xc), .val (.int sel), .val (.int ((xa &&& (255 : Int32)).toUInt32.toUInt16.toUInt32.toInt32)), .val (.int ((((xa.toUInt32 >>> ((8 : Int32) &&& 31).toUInt32).toInt32) &&& (255 : Int32)).toUInt32.toUInt16.toUInt32.toInt32)), .val (.int ((xb &&& (255 : Int32)).toUInt32.toUInt16.toUInt32.toInt32)), .val (.int ((((xb.toUInt32 >>> ((8 : Int32) &&& 31).toUInt32).toInt32) &&& (255 : Int32)).toUInt32.toUInt16.toUInt32.toInt32)), .val (.int ((xc &&& (255 : Int32)).toUInt32.toUInt16.toUInt32.toInt32)), .val (.int ((((xc.toUInt32 >>> ((8 : Int32) &&& 31).toUInt32).toInt32) &&& (255 : Int32)).toUInt32.toUInt16.toUInt32.toInt32)), .val (.ref b1), .val (.ref b18), .val (.ref b54), .val (.ref b113), .val (.int (2 : Int32)), .val (.ref b54), .unset, .unset, .unset]) rfl k') ?_
    show Go p e below s _ _ _ (T187.setTop (mkF m 183 #[.val (.int xa), .val (.int xb), .val (.int xc), .val (.int sel), .val (.int ((xa &&& (255 : Int32)).toUInt32.toUInt16.toUInt32.toInt32)), .val (.int ((((xa.toUInt32 >>> ((8 : Int32) &&& 31).toUInt32).toInt32) &&& (255 : Int32)).toUInt32.toUInt16.toUInt32.toInt32)), .val (.int ((xb &&& (255 : Int32)).toUInt32.toUInt16.toUInt32.toInt32)), .val (.int ((((xb.toUInt32 >>> ((8 : Int32) &&& 31).toUInt32).toInt32) &&& (255 : Int32)).toUInt32.toUInt16.toUInt32.toInt32)), .val (.int ((xc &&& (255 : Int32)).toUInt32.toUInt16.toUInt32.toInt32)), .val (.int ((((xc.toUInt32 >>> ((8 : Int32) &&& 31).toUInt32).toInt32) &&& (255 : Int32)).toUInt32.toUInt16.toUInt32.toInt32)), .val (.ref b1), .val (.ref b18), .val (.ref b54), .val (.ref b113), .val (.int (2 : Int32)), .val (.ref b54), .unset, .unset, .unset] []))
    refine Go.st (fun _ k' => XS.iload X187.here hx rfl (hb hby at_183) rfl k') ?_
    show Go p e below s _ _ _ (T187.setTop (mkF m 185 #[.val (.int xa), .val (.int xb), .val (.int xc), .val (.int sel), .val (.int ((xa &&& (255 : Int32)).toUInt32.toUInt16.toUInt32.toInt32)), .val (.int ((((xa.toUInt32 >>> ((8 : Int32) &&& 31).toUInt32).toInt32) &&& (255 : Int32)).toUInt32.toUInt16.toUInt32.toInt32)), .val (.int ((xb &&& (255 : Int32)).toUInt32.toUInt16.toUInt32.toInt32)), .val (.int ((((xb.toUInt32 >>> ((8 : Int32) &&& 31).toUInt32).toInt32) &&& (255 : Int32)).toUInt32.toUInt16.toUInt32.toInt32)), .val (.int ((xc &&& (255 : Int32)).toUInt32.toUInt16.toUInt32.toInt32)), .val (.int ((((xc.toUInt32 >>> ((8 : Int32) &&& 31).toUInt32).toInt32) &&& (255 : Int32)).toUInt32.toUInt16.toUInt32.toInt32)), .val (.ref b1), .val (.ref b18), .val (.ref b54), .val (.ref b113), .val (.int (2 : Int32)), .val (.ref b54), .unset, .unset, .unset] [(.int (2 : Int32))]))
    refine Go.st (fun _ k' => XS.iconst X187.here hx rfl (hb hby at_185) k') ?_
    show Go p e below s _ _ _ (T187.setTop (mkF m 186 #[.val (.int xa), .val (.int xb), .val (.int xc), .val (.int sel), .val (.int ((xa &&& (255 : Int32)).toUInt32.toUInt16.toUInt32.toInt32)), .val (.int ((((xa.toUInt32 >>> ((8 : Int32) &&& 31).toUInt32).toInt32) &&& (255 : Int32)).toUInt32.toUInt16.toUInt32.toInt32)), .val (.int ((xb &&& (255 : Int32)).toUInt32.toUInt16.toUInt32.toInt32)), .val (.int ((((xb.toUInt32 >>> ((8 : Int32) &&& 31).toUInt32).toInt32) &&& (255 : Int32)).toUInt32.toUInt16.toUInt32.toInt32)), .val (.int ((xc &&& (255 : Int32)).toUInt32.toUInt16.toUInt32.toInt32)), .val (.int ((((xc.toUInt32 >>> ((8 : Int32) &&& 31).toUInt32).toInt32) &&& (255 : Int32)).toUInt32.toUInt16.toUInt32.toInt32)), .val (.ref b1), .val (.ref b18), .val (.ref b54), .val (.ref b113), .val (.int (2 : Int32)), .val (.ref b54), .unset, .unset, .unset] [(.int (1 : Int32)), (.int (2 : Int32))]))
    refine Go.st (fun _ k' => XS.icmpNo X187.here hx rfl (hb hby at_186) rfl (XT.ii_lt_f (by decide)) k') ?_
    show Go p e below s _ _ _ (T187.setTop (mkF m 189 #[.val (.int xa), .val (.int xb), .val (.int xc), .val (.int sel), .val (.int ((xa &&& (255 : Int32)).toUInt32.toUInt16.toUInt32.toInt32)), .val (.int ((((xa.toUInt32 >>> ((8 : Int32) &&& 31).toUInt32).toInt32) &&& (255 : Int32)).toUInt32.toUInt16.toUInt32.toInt32)), .val (.int ((xb &&& (255 : Int32)).toUInt32.toUInt16.toUInt32.toInt32)), .val (.int ((((xb.toUInt32 >>> ((8 : Int32) &&& 31).toUInt32).toInt32) &&& (255 : Int32)).toUInt32.toUInt16.toUInt32.toInt32)), .val (.int ((xc &&& (255 : Int32)).toUInt32.toUInt16.toUInt32.toInt32)), .val (.int ((((xc.toUInt32 >>> ((8 : Int32) &&& 31).toUInt32).toInt32) &&& (255 : Int32)).toUInt32.toUInt16.toUInt32.toInt32)), .val (.ref b1), .val (.ref b18), .val (.ref b54), .val (.ref b113), .val (.int (2 : Int32)), .val (.ref b54), .unset, .unset, .unset] []))
    refine Go.st (fun _ k' => XS.aload X187.here hx rfl (hb hby at_189) rfl rfl k') ?_
    show Go p e below s _ _ _ (T187.setTop (mkF m 191 #[.val (.int xa), .val (.int xb), .val (.int xc), .val (.int sel), .val (.int ((xa &&& (255 : Int32)).toUInt32.toUInt16.toUInt32.toInt32)), .val (.int ((((xa.toUInt32 >>> ((8 : Int32) &&& 31).toUInt32).toInt32) &&& (255 : Int32)).toUInt32.toUInt16.toUInt32.toInt32)), .val (.int ((xb &&& (255 : Int32)).toUInt32.toUInt16.toUInt32.toInt32)), .val (.int ((((xb.toUInt32 >>> ((8 : Int32) &&& 31).toUInt32).toInt32) &&& (255 : Int32)).toUInt32.toUInt16.toUInt32.toInt32)), .val (.int ((xc &&& (255 : Int32)).toUInt32.toUInt16.toUInt32.toInt32)), .val (.int ((((xc.toUInt32 >>> ((8 : Int32) &&& 31).toUInt32).toInt32) &&& (255 : Int32)).toUInt32.toUInt16.toUInt32.toInt32)), .val (.ref b1), .val (.ref b18), .val (.ref b54), .val (.ref b113), .val (.int (2 : Int32)), .val (.ref b54), .unset, .unset, .unset] [(.ref b113)]))
    obtain ⟨cq257, kq257, q257a, q257b, q257c⟩ := isOf hZ rfl f197
    obtain ⟨_, _, ⟨T257, L257, k257, n257⟩, -, X257, ⟨Lc257, hQ257, l257, y257, z257⟩, st257⟩ := X187.virtualBack hx (y := (⟨"com/example/reportwire/reportwire/Arguments", "next", "()Ljava/lang/String;"⟩ : MethodName)) (z := (⟨"com/example/reportwire/reportwire/Arguments", "next", "()Ljava/lang/String;"⟩ : MethodName)) hown (mvT hZ (wdx hw 90 rfl)) (mvT hZ (wdx hw 91 rfl)) (notFace_of_selects (args := #[]) (mvT hZ (wdx hw 93 rfl))) (mvT hZ (wdx hw 93 rfl)) (mvT hZ (wdx hw 92 rfl)) (by decide) (backOf (W := 0) (rm13_3_0 l Z a0 hw [] b113 na_187 kn_187 b1 b18 b54 T187.heap n0 O187 f197 f188 f189 f190 g_b113 ne206) hZ (wdx hw 94 rfl) (wdx hw 32 rfl) (by decide) (by decide)) q257a q257c (g := (mkF m 191 #[.val (.int xa), .val (.int xb), .val (.int xc), .val (.int sel), .val (.int ((xa &&& (255 : Int32)).toUInt32.toUInt16.toUInt32.toInt32)), .val (.int ((((xa.toUInt32 >>> ((8 : Int32) &&& 31).toUInt32).toInt32) &&& (255 : Int32)).toUInt32.toUInt16.toUInt32.toInt32)), .val (.int ((xb &&& (255 : Int32)).toUInt32.toUInt16.toUInt32.toInt32)), .val (.int ((((xb.toUInt32 >>> ((8 : Int32) &&& 31).toUInt32).toInt32) &&& (255 : Int32)).toUInt32.toUInt16.toUInt32.toInt32)), .val (.int ((xc &&& (255 : Int32)).toUInt32.toUInt16.toUInt32.toInt32)), .val (.int ((((xc.toUInt32 >>> ((8 : Int32) &&& 31).toUInt32).toInt32) &&& (255 : Int32)).toUInt32.toUInt16.toUInt32.toInt32)), .val (.ref b1), .val (.ref b18), .val (.ref b54), .val (.ref b113), .val (.int (2 : Int32)), .val (.ref b54), .unset, .unset, .unset] [(.ref b113)])) rfl (by rw [hml]; rfl) (Steps.refl _) (argsL := []) (rest := []) (lenOf pd___Ljava_lang_String_ rfl) rfl (by show 2 * 0 + _ ≤ _; exact Nat.le_of_eq rfl) (hb hby at_191) (fun _ _ => ⟨rfl, rfl, (by exact Nat.le_of_ble_eq_true rfl), (by exact Nat.le_of_ble_eq_true rfl)⟩)
    dsimp only [Pt.U, Pt.locs, Pt.cells, Pt.slots] at X257 l257 y257 z257 st257 hQ257
    subst l257 y257 z257
    obtain ⟨rfl, Nq257, Kq257, f258, f259⟩ := hQ257
    have N257 := Fr.app N187 Nq257
    refine Go.tr st257 ?_
    have f260 : Exa Z T257.heap b1 "java/lang/String" := f191.keep Kq257
    have f261 : Arv Z T257.heap b4 k4 .char (1 : Int32) [(.int (nar .char ((xa &&& (255 : Int32)).toUInt32.toUInt16.toUInt32.toInt32)))] (.int (0 : Int32)) := f192.keep Kq257 (ninS ne115 nin0)
    have f262 : Exa Z T257.heap b18 "java/lang/String" := f193.keep Kq257
    have f263 : Arv Z T257.heap b25 k25 .char (2 : Int32) [(.int (nar .char ((((xa.toUInt32 >>> ((8 : Int32) &&& 31).toUInt32).toInt32) &&& (255 : Int32)).toUInt32.toUInt16.toUInt32.toInt32))), (.int (nar .char ((xb &&& (255 : Int32)).toUInt32.toUInt16.toUInt32.toInt32)))] (.int (0 : Int32)) := f194.keep Kq257 (ninS ne117 nin0)
    have f264 : Exa Z T257.heap b54 "java/lang/String" := f195.keep Kq257
    have f265 : Arv Z T257.heap b65 k65 .char (3 : Int32) [(.int (nar .char ((((xb.toUInt32 >>> ((8 : Int32) &&& 31).toUInt32).toInt32) &&& (255 : Int32)).toUInt32.toUInt16.toUInt32.toInt32))), (.int (nar .char ((xc &&& (255 : Int32)).toUInt32.toUInt16.toUInt32.toInt32))), (.int (nar .char ((((xc.toUInt32 >>> ((8 : Int32) &&& 31).toUInt32).toInt32) &&& (255 : Int32)).toUInt32.toUInt16.toUInt32.toInt32)))] (.int (0 : Int32)) := f196.keep Kq257 (ninS ne119 nin0)
    have f266 : Exa Z T257.heap b113 "com/example/reportwire/reportwire/Arguments" := f197.keep Kq257
    have f267 : Exa Z T257.heap b129 "[Ljava/lang/String;" := f198.keep Kq257
    have f268 : Arv Z T257.heap b129 k129 (.object "java/lang/String") (3 : Int32) [(.ref b1), (.ref b18), (.ref b54)] .null := f199.keep Kq257 (ninS (Ne.symm ne136) nin0)
    have f269 : Arv Z T257.heap na_187 kn_187 (.object "java/lang/String") (3 : Int32) [(.ref b1), (.ref b18), (.ref b54)] .null := f190.keep Kq257 (ninS (Ne.symm ne206) nin0)
    have O257 : Old Z n0 T257.heap := O187.keep Kq257 (allS g_b113 all0)
    show Go p e below s _ _ _ (T257.setTop (mkF m 194 #[.val (.int xa), .val (.int xb), .val (.int xc), .val (.int sel), .val (.int ((xa &&& (255 : Int32)).toUInt32.toUInt16.toUInt32.toInt32)), .val (.int ((((xa.toUInt32 >>> ((8 : Int32) &&& 31).toUInt32).toInt32) &&& (255 : Int32)).toUInt32.toUInt16.toUInt32.toInt32)), .val (.int ((xb &&& (255 : Int32)).toUInt32.toUInt16.toUInt32.toInt32)), .val (.int ((((xb.toUInt32 >>> ((8 : Int32) &&& 31).toUInt32).toInt32) &&& (255 : Int32)).toUInt32.toUInt16.toUInt32.toInt32)), .val (.int ((xc &&& (255 : Int32)).toUInt32.toUInt16.toUInt32.toInt32)), .val (.int ((((xc.toUInt32 >>> ((8 : Int32) &&& 31).toUInt32).toInt32) &&& (255 : Int32)).toUInt32.toUInt16.toUInt32.toInt32)), .val (.ref b1), .val (.ref b18), .val (.ref b54), .val (.ref b113), .val (.int (2 : Int32)), .val (.ref b54), .unset, .unset, .unset] [(.ref b1)]))
    refine Go.st (fun _ k' => XS.pop X257.here hx rfl (hb hby at_194) rfl rfl k') ?_
    show Go p e below s _ _ _ (T257.setTop (mkF m 195 #[.val (.int xa), .val (.int xb), .val (.int xc), .val (.int sel), .val (.int ((xa &&& (255 : Int32)).toUInt32.toUInt16.toUInt32.toInt32)), .val (.int ((((xa.toUInt32 >>> ((8 : Int32) &&& 31).toUInt32).toInt32) &&& (255 : Int32)).toUInt32.toUInt16.toUInt32.toInt32)), .val (.int ((xb &&& (255 : Int32)).toUInt32.toUInt16.toUInt32.toInt32)), .val (.int ((((xb.toUInt32 >>> ((8 : Int32) &&& 31).toUInt32).toInt32) &&& (255 : Int32)).toUInt32.toUInt16.toUInt32.toInt32)), .val (.int ((xc &&& (255 : Int32)).toUInt32.toUInt16.toUInt32.toInt32)), .val (.int ((((xc.toUInt32 >>> ((8 : Int32) &&& 31).toUInt32).toInt32) &&& (255 : Int32)).toUInt32.toUInt16.toUInt32.toInt32)), .val (.ref b1), .val (.ref b18), .val (.ref b54), .val (.ref b113), .val (.int (2 : Int32)), .val (.ref b54), .unset, .unset, .unset] []))
    refine Go.st (fun _ k' => XS.iload X257.here hx rfl (hb hby at_195) rfl k') ?_
    show Go p e below s _ _ _ (T257.setTop (mkF m 197 #[.val (.int xa), .val (.int xb), .val (.int xc), .val (.int sel), .val (.int ((xa &&& (255 : Int32)).toUInt32.toUInt16.toUInt32.toInt32)), .val (.int ((((xa.toUInt32 >>> ((8 : Int32) &&& 31).toUInt32).toInt32) &&& (255 : Int32)).toUInt32.toUInt16.toUInt32.toInt32)), .val (.int ((xb &&& (255 : Int32)).toUInt32.toUInt16.toUInt32.toInt32)), .val (.int ((((xb.toUInt32 >>> ((8 : Int32) &&& 31).toUInt32).toInt32) &&& (255 : Int32)).toUInt32.toUInt16.toUInt32.toInt32)), .val (.int ((xc &&& (255 : Int32)).toUInt32.toUInt16.toUInt32.toInt32)), .val (.int ((((xc.toUInt32 >>> ((8 : Int32) &&& 31).toUInt32).toInt32) &&& (255 : Int32)).toUInt32.toUInt16.toUInt32.toInt32)), .val (.ref b1), .val (.ref b18), .val (.ref b54), .val (.ref b113), .val (.int (2 : Int32)), .val (.ref b54), .unset, .unset, .unset] [(.int (2 : Int32))]))
    refine Go.st (fun _ k' => XS.iconst X257.here hx rfl (hb hby at_197) k') ?_
    show Go p e below s _ _ _ (T257.setTop (mkF m 198 #[.val (.int xa), .val (.int xb), .val (.int xc), .val (.int sel), .val (.int ((xa &&& (255 : Int32)).toUInt32.toUInt16.toUInt32.toInt32)), .val (.int ((((xa.toUInt32 >>> ((8 : Int32) &&& 31).toUInt32).toInt32) &&& (255 : Int32)).toUInt32.toUInt16.toUInt32.toInt32)), .val (.int ((xb &&& (255 : Int32)).toUInt32.toUInt16.toUInt32.toInt32)), .val (.int ((((xb.toUInt32 >>> ((8 : Int32) &&& 31).toUInt32).toInt32) &&& (255 : Int32)).toUInt32.toUInt16.toUInt32.toInt32)), .val (.int ((xc &&& (255 : Int32)).toUInt32.toUInt16.toUInt32.toInt32)), .val (.int ((((xc.toUInt32 >>> ((8 : Int32) &&& 31).toUInt32).toInt32) &&& (255 : Int32)).toUInt32.toUInt16.toUInt32.toInt32)), .val (.ref b1), .val (.ref b18), .val (.ref b54), .val (.ref b113), .val (.int (2 : Int32)), .val (.ref b54), .unset, .unset, .unset] [(.int (2 : Int32)), (.int (2 : Int32))]))
    refine Go.st (fun _ k' => XS.icmpNo X257.here hx rfl (hb hby at_198) rfl (XT.ii_lt_f (by decide)) k') ?_
    show Go p e below s _ _ _ (T257.setTop (mkF m 201 #[.val (.int xa), .val (.int xb), .val (.int xc), .val (.int sel), .val (.int ((xa &&& (255 : Int32)).toUInt32.toUInt16.toUInt32.toInt32)), .val (.int ((((xa.toUInt32 >>> ((8 : Int32) &&& 31).toUInt32).toInt32) &&& (255 : Int32)).toUInt32.toUInt16.toUInt32.toInt32)), .val (.int ((xb &&& (255 : Int32)).toUInt32.toUInt16.toUInt32.toInt32)), .val (.int ((((xb.toUInt32 >>> ((8 : Int32) &&& 31).toUInt32).toInt32) &&& (255 : Int32)).toUInt32.toUInt16.toUInt32.toInt32)), .val (.int ((xc &&& (255 : Int32)).toUInt32.toUInt16.toUInt32.toInt32)), .val (.int ((((xc.toUInt32 >>> ((8 : Int32) &&& 31).toUInt32).toInt32) &&& (255 : Int32)).toUInt32.toUInt16.toUInt32.toInt32)), .val (.ref b1), .val (.ref b18), .val (.ref b54), .val (.ref b113), .val (.int (2 : Int32)), .val (.ref b54), .unset, .unset, .unset] []))
    refine Go.st (fun _ k' => XS.aload X257.here hx rfl (hb hby at_201) rfl rfl k') ?_
    show Go p e below s _ _ _ (T257.setTop (mkF m 203 #[.val (.int xa), .val (.int xb), .val (.int xc), .val (.int sel), .val (.int ((xa &&& (255 : Int32)).toUInt32.toUInt16.toUInt32.toInt32)), .val (.int ((((xa.toUInt32 >>> ((8 : Int32) &&& 31).toUInt32).toInt32) &&& (255 : Int32)).toUInt32.toUInt16.toUInt32.toInt32)), .val (.int ((xb &&& (255 : Int32)).toUInt32.toUInt16.toUInt32.toInt32)), .val (.int ((((xb.toUInt32 >>> ((8 : Int32) &&& 31).toUInt32).toInt32) &&& (255 : Int32)).toUInt32.toUInt16.toUInt32.toInt32)), .val (.int ((xc &&& (255 : Int32)).toUInt32.toUInt16.toUInt32.toInt32)), .val (.int ((((xc.toUInt32 >>> ((8 : Int32) &&& 31).toUInt32).toInt32) &&& (255 : Int32)).toUInt32.toUInt16.toUInt32.toInt32)), .val (.ref b1), .val (.ref b18), .val (.ref b54), .val (.ref b113), .val (.int (2 : Int32)), .val (.ref b54), .unset, .unset, .unset] [(.ref b113)]))
    obtain ⟨cq270, kq270, q270a, q270b, q270c⟩ := isOf hZ rfl f266
    obtain ⟨_, _, ⟨T270, L270, k270, n270⟩, -, X270, ⟨Lc270, hQ270, l270, y270, z270⟩, st270⟩ := X257.virtualBack hx (y := (⟨"com/example/reportwire/reportwire/Arguments", "next", "()Ljava/lang/String;"⟩ : MethodName)) (z := (⟨"com/example/reportwire/reportwire/Arguments", "next", "()Ljava/lang/String;"⟩ : MethodName)) hown (mvT hZ (wdx hw 90 rfl)) (mvT hZ (wdx hw 91 rfl)) (notFace_of_selects (args := #[]) (mvT hZ (wdx hw 93 rfl))) (mvT hZ (wdx hw 93 rfl)) (mvT hZ (wdx hw 92 rfl)) (by decide) (backOf (W := 0) (rm13_3_1 l Z a0 hw [] b113 na_187 kn_187 b1 b18 b54 T257.heap n0 O257 f266 f258 f259 f269 g_b113 ne206) hZ (wdx hw 94 rfl) (wdx hw 32 rfl) (by decide) (by decide)) q270a q270c (g := (mkF m 203 #[.val (.int xa), .val (.int xb), .val (.int xc), .val (.int sel), .val (.int ((xa &&& (255 : Int32)).toUInt32.toUInt16.toUInt32.toInt32)), .val (.int ((((xa.toUInt32 >>> ((8 : Int32) &&& 31).toUInt32).toInt32) &&& (255 : Int32)).toUInt32.toUInt16.toUInt32.toInt32)), .val (.int ((xb &&& (255 : Int32)).toUInt32.toUInt16.toUInt32.toInt32)), .val (.int ((((xb.toUInt32 >>> ((8 : Int32) &&& 31).toUInt32).toInt32) &&& (255 : Int32)).toUInt32.toUInt16.toUInt32.toInt32)), .val (.int ((xc &&& (255 : Int32)).toUInt32.toUInt16.toUInt32.toInt32)), .val (.int ((((xc.toUInt32 >>> ((8 : Int32) &&& 31).toUInt32).toInt32) &&& (255 : Int32)).toUInt32.toUInt16.toUInt32.toInt32)), .val (.ref b1), .val (.ref b18), .val (.ref b54), .val (.ref b113), .val (.int (2 : Int32)), .val (.ref b54), .unset, .unset, .unset] [(.ref b113)])) rfl (by rw [hml]; rfl) (Steps.refl _) (argsL := []) (rest := []) (lenOf pd___Ljava_lang_String_ rfl) rfl (by show 2 * 0 + _ ≤ _; exact Nat.le_of_eq rfl) (hb hby at_203) (fun _ _ => ⟨rfl, rfl, (by exact Nat.le_of_ble_eq_true rfl), (by exact Nat.le_of_ble_eq_true rfl)⟩)
    dsimp only [Pt.U, Pt.locs, Pt.cells, Pt.slots] at X270 l270 y270 z270 st270 hQ270
    subst l270 y270 z270
    obtain ⟨rfl, Nq270, Kq270, f271, f272⟩ := hQ270
    have N270 := Fr.app N257 Nq270
    refine Go.tr st270 ?_
    have f273 : Exa Z T270.heap b1 "java/lang/String" := f260.keep Kq270
    have f274 : Arv Z T270.heap b4 k4 .char (1 : Int32) [(.int (nar .char ((xa &&& (255 : Int32)).toUInt32.toUInt16.toUInt32.toInt32)))] (.int (0 : Int32)) := f261.keep Kq270 (ninS ne115 nin0)
    have f275 : Exa Z T270.heap b18 "java/lang/String" := f262.keep Kq270
    have f276 : Arv Z T270.heap b25 k25 .char (2 : Int32) [(.int (nar .char ((((xa.toUInt32 >>> ((8 : Int32) &&& 31).toUInt32).toInt32) &&& (255 : Int32)).toUInt32.toUInt16.toUInt32.toInt32))), (.int (nar .char ((xb &&& (255 : Int32)).toUInt32.toUInt16.toUInt32.toInt32)))] (.int (0 : Int32)) := f263.keep Kq270 (ninS ne117 nin0)
    have f277 : Exa Z T270.heap b54 "java/lang/String" := f264.keep Kq270
    have f278 : Arv Z T270.heap b65 k65 .char (3 : Int32) [(.int (nar .char ((((xb.toUInt32 >>> ((8 : Int32) &&& 31).toUInt32).toInt32) &&& (255 : Int32)).toUInt32.toUInt16.toUInt32.toInt32))), (.int (nar .char ((xc &&& (255 : Int32)).toUInt32.toUInt16.toUInt32.toInt32))), (.int (nar .char ((((xc.toUInt32 >>> ((8 : Int32) &&& 31).toUInt32).toInt32) &&& (255 : Int32)).toUInt32.toUInt16.toUInt32.toInt32)))] (.int (0 : Int32)) := f265.keep Kq270 (ninS ne119 nin0)
    have f279 : Exa Z T270.heap b113 "com/example/reportwire/reportwire/Arguments" := f266.keep Kq270
    have f280 : Exa Z T270.heap b129 "[Ljava/lang/String;" := f267.keep Kq270
    have f281 : Arv Z T270.heap b129 k129 (.object "java/lang/String") (3 : Int32) [(.ref b1), (.ref b18), (.ref b54)] .null := f268.keep Kq270 (ninS (Ne.symm ne136) nin0)
    have f282 : Arv Z T270.heap na_187 kn_187 (.object "java/lang/String") (3 : Int32) [(.ref b1), (.ref b18), (.ref b54)] .null := f269.keep Kq270 (ninS (Ne.symm ne206) nin0)
    have O270 : Old Z n0 T270.heap := O257.keep Kq270 (allS g_b113 all0)
    show Go p e below s _ _ _ (T270.setTop (mkF m 206 #[.val (.int xa), .val (.int xb), .val (.int xc), .val (.int sel), .val (.int ((xa &&& (255 : Int32)).toUInt32.toUInt16.toUInt32.toInt32)), .val (.int ((((xa.toUInt32 >>> ((8 : Int32) &&& 31).toUInt32).toInt32) &&& (255 : Int32)).toUInt32.toUInt16.toUInt32.toInt32)), .val (.int ((xb &&& (255 : Int32)).toUInt32.toUInt16.toUInt32.toInt32)), .val (.int ((((xb.toUInt32 >>> ((8 : Int32) &&& 31).toUInt32).toInt32) &&& (255 : Int32)).toUInt32.toUInt16.toUInt32.toInt32)), .val (.int ((xc &&& (255 : Int32)).toUInt32.toUInt16.toUInt32.toInt32)), .val (.int ((((xc.toUInt32 >>> ((8 : Int32) &&& 31).toUInt32).toInt32) &&& (255 : Int32)).toUInt32.toUInt16.toUInt32.toInt32)), .val (.ref b1), .val (.ref b18), .val (.ref b54), .val (.ref b113), .val (.int (2 : Int32)), .val (.ref b54), .unset, .unset, .unset] [(.ref b18)]))
    refine Go.st (fun _ k' => XS.pop X270.here hx rfl (hb hby at_206) rfl rfl k') ?_
    show Go p e below s _ _ _ (T270.setTop (mkF m 207 #[.val (.int xa), .val (.int xb), .val (.int xc), .val (.int sel), .val (.int ((xa &&& (255 : Int32)).toUInt32.toUInt16.toUInt32.toInt32)), .val (.int ((((xa.toUInt32 >>> ((8 : Int32) &&& 31).toUInt32).toInt32) &&& (255 : Int32)).toUInt32.toUInt16.toUInt32.toInt32)), .val (.int ((xb &&& (255 : Int32)).toUInt32.toUInt16.toUInt32.toInt32)), .val (.int ((((xb.toUInt32 >>> ((8 : Int32) &&& 31).toUInt32).toInt32) &&& (255 : Int32)).toUInt32.toUInt16.toUInt32.toInt32)), .val (.int ((xc &&& (255 : Int32)).toUInt32.toUInt16.toUInt32.toInt32)), .val (.int ((((xc.toUInt32 >>> ((8 : Int32) &&& 31).toUInt32).toInt32) &&& (255 : Int32)).toUInt32.toUInt16.toUInt32.toInt32)), .val (.ref b1), .val (.ref b18), .val (.ref b54), .val (.ref b113), .val (.int (2 : Int32)), .val (.ref b54), .unset, .unset, .unset] []))
    refine Go.st (fun _ k' => XS.iload X270.here hx rfl (hb hby at_207) rfl k') ?_
    show Go p e below s _ _ _ (T270.setTop (mkF m 209 #[.val (.int xa), .val (.int xb), .val (.int xc), .val (.int sel), .val (.int ((xa &&& (255 : Int32)).toUInt32.toUInt16.toUInt32.toInt32)), .val (.int ((((xa.toUInt32 >>> ((8 : Int32) &&& 31).toUInt32).toInt32) &&& (255 : Int32)).toUInt32.toUInt16.toUInt32.toInt32)), .val (.int ((xb &&& (255 : Int32)).toUInt32.toUInt16.toUInt32.toInt32)), .val (.int ((((xb.toUInt32 >>> ((8 : Int32) &&& 31).toUInt32).toInt32) &&& (255 : Int32)).toUInt32.toUInt16.toUInt32.toInt32)), .val (.int ((xc &&& (255 : Int32)).toUInt32.toUInt16.toUInt32.toInt32)), .val (.int ((((xc.toUInt32 >>> ((8 : Int32) &&& 31).toUInt32).toInt32) &&& (255 : Int32)).toUInt32.toUInt16.toUInt32.toInt32)), .val (.ref b1), .val (.ref b18), .val (.ref b54), .val (.ref b113), .val (.int (2 : Int32)), .val (.ref b54), .unset, .unset, .unset] [(.int (2 : Int32))]))
    refine Go.st (fun _ k' => XS.iconst X270.here hx rfl (hb hby at_209) k') ?_
    show Go p e below s _ _ _ (T270.setTop (mkF m 210 #[.val (.int xa), .val (.int xb), .val (.int xc), .val (.int sel), .val (.int ((xa &&& (255 : Int32)).toUInt32.toUInt16.toUInt32.toInt32)), .val (.int ((((xa.toUInt32 >>> ((8 : Int32) &&& 31).toUInt32).toInt32) &&& (255 : Int32)).toUInt32.toUInt16.toUInt32.toInt32)), .val (.int ((xb &&& (255 : Int32)).toUInt32.toUInt16.toUInt32.toInt32)), .val (.int ((((xb.toUInt32 >>> ((8 : Int32) &&& 31).toUInt32).toInt32) &&& (255 : Int32)).toUInt32.toUInt16.toUInt32.toInt32)), .val (.int ((xc &&& (255 : Int32)).toUInt32.toUInt16.toUInt32.toInt32)), .val (.int ((((xc.toUInt32 >>> ((8 : Int32) &&& 31).toUInt32).toInt32) &&& (255 : Int32)).toUInt32.toUInt16.toUInt32.toInt32)), .val (.ref b1), .val (.ref b18), .val (.ref b54), .val (.ref b113), .val (.int (2 : Int32)), .val (.ref b54), .unset, .unset, .unset] [(.int (3 : Int32)), (.int (2 : Int32))]))
    refine Go.st (fun _ k' => XS.icmpYes X270.here hx rfl (pc0 := 210) (pc' := 219) rfl (hb hby at_210) rfl (XT.ii_lt_t (by decide)) (by decide) (by decide) k') ?_
    show Go p e below s _ _ _ (T270.setTop (mkF m 219 #[.val (.int xa), .val (.int xb), .val (.int xc), .val (.int sel), .val (.int ((xa &&& (255 : Int32)).toUInt32.toUInt16.toUInt32.toInt32)), .val (.int ((((xa.toUInt32 >>> ((8 : Int32) &&& 31).toUInt32).toInt32) &&& (255 : Int32)).toUInt32.toUInt16.toUInt32.toInt32)), .val (.int ((xb &&& (255 : Int32)).toUInt32.toUInt16.toUInt32.toInt32)), .val (.int ((((xb.toUInt32 >>> ((8 : Int32) &&& 31).toUInt32).toInt32) &&& (255 : Int32)).toUInt32.toUInt16.toUInt32.toInt32)), .val (.int ((xc &&& (255 : Int32)).toUInt32.toUInt16.toUInt32.toInt32)), .val (.int ((((xc.toUInt32 >>> ((8 : Int32) &&& 31).toUInt32).toInt32) &&& (255 : Int32)).toUInt32.toUInt16.toUInt32.toInt32)), .val (.ref b1), .val (.ref b18), .val (.ref b54), .val (.ref b113), .val (.int (2 : Int32)), .val (.ref b54), .unset, .unset, .unset] []))
    refine Go.st (fun _ k' => XS.iload X270.here hx rfl (hb hby at_219) rfl k') ?_
    show Go p e below s _ _ _ (T270.setTop (mkF m 221 #[.val (.int xa), .val (.int xb), .val (.int xc), .val (.int sel), .val (.int ((xa &&& (255 : Int32)).toUInt32.toUInt16.toUInt32.toInt32)), .val (.int ((((xa.toUInt32 >>> ((8 : Int32) &&& 31).toUInt32).toInt32) &&& (255 : Int32)).toUInt32.toUInt16.toUInt32.toInt32)), .val (.int ((xb &&& (255 : Int32)).toUInt32.toUInt16.toUInt32.toInt32)), .val (.int ((((xb.toUInt32 >>> ((8 : Int32) &&& 31).toUInt32).toInt32) &&& (255 : Int32)).toUInt32.toUInt16.toUInt32.toInt32)), .val (.int ((xc &&& (255 : Int32)).toUInt32.toUInt16.toUInt32.toInt32)), .val (.int ((((xc.toUInt32 >>> ((8 : Int32) &&& 31).toUInt32).toInt32) &&& (255 : Int32)).toUInt32.toUInt16.toUInt32.toInt32)), .val (.ref b1), .val (.ref b18), .val (.ref b54), .val (.ref b113), .val (.int (2 : Int32)), .val (.ref b54), .unset, .unset, .unset] [(.int (2 : Int32))]))
    refine Go.st (fun _ k' => XS.iconst X270.here hx rfl (hb hby at_221) k') ?_
    show Go p e below s _ _ _ (T270.setTop (mkF m 222 #[.val (.int xa), .val (.int xb), .val (.int xc), .val (.int sel), .val (.int ((xa &&& (255 : Int32)).toUInt32.toUInt16.toUInt32.toInt32)), .val (.int ((((xa.toUInt32 >>> ((8 : Int32) &&& 31).toUInt32).toInt32) &&& (255 : Int32)).toUInt32.toUInt16.toUInt32.toInt32)), .val (.int ((xb &&& (255 : Int32)).toUInt32.toUInt16.toUInt32.toInt32)), .val (.int ((((xb.toUInt32 >>> ((8 : Int32) &&& 31).toUInt32).toInt32) &&& (255 : Int32)).toUInt32.toUInt16.toUInt32.toInt32)), .val (.int ((xc &&& (255 : Int32)).toUInt32.toUInt16.toUInt32.toInt32)), .val (.int ((((xc.toUInt32 >>> ((8 : Int32) &&& 31).toUInt32).toInt32) &&& (255 : Int32)).toUInt32.toUInt16.toUInt32.toInt32)), .val (.ref b1), .val (.ref b18), .val (.ref b54), .val (.ref b113), .val (.int (2 : Int32)), .val (.ref b54), .unset, .unset, .unset] [(.int (3 : Int32)), (.int (2 : Int32))]))
    refine Go.st (fun _ k' => XS.icmpYes X270.here hx rfl (pc0 := 222) (pc' := 239) rfl (hb hby at_222) rfl (XT.ii_ne_t (by decide)) (by decide) (by decide) k') ?_
    show Go p e below s _ _ _ (T270.setTop (mkF m 239 #[.val (.int xa), .val (.int xb), .val (.int xc), .val (.int sel), .val (.int ((xa &&& (255 : Int32)).toUInt32.toUInt16.toUInt32.toInt32)), .val (.int ((((xa.toUInt32 >>> ((8 : Int32) &&& 31).toUInt32).toInt32) &&& (255 : Int32)).toUInt32.toUInt16.toUInt32.toInt32)), .val (.int ((xb &&& (255 : Int32)).toUInt32.toUInt16.toUInt32.toInt32)), .val (.int ((((xb.toUInt32 >>> ((8 : Int32) &&& 31).toUInt32).toInt32) &&& (255 : Int32)).toUInt32.toUInt16.toUInt32.toInt32)), .val (.int ((xc &&& (255 : Int32)).toUInt32.toUInt16.toUInt32.toInt32)), .val (.int ((((xc.toUInt32 >>> ((8 : Int32) &&& 31).toUInt32).toInt32) &&& (255 : Int32)).toUInt32.toUInt16.toUInt32.toInt32)), .val (.ref b1), .val (.ref b18), .val (.ref b54), .val (.ref b113), .val (.int (2 : Int32)), .val (.ref b54), .unset, .unset, .unset] []))
    refine Go.st (fun _ k' => XS.aload X270.here hx rfl (hb hby at_239) rfl rfl k') ?_
    show Go p e below s _ _ _ (T270.setTop (mkF m 241 #[.val (.int xa), .val (.int xb), .val (.int xc), .val (.int sel), .val (.int ((xa &&& (255 : Int32)).toUInt32.toUInt16.toUInt32.toInt32)), .val (.int ((((xa.toUInt32 >>> ((8 : Int32) &&& 31).toUInt32).toInt32) &&& (255 : Int32)).toUInt32.toUInt16.toUInt32.toInt32)), .val (.int ((xb &&& (255 : Int32)).toUInt32.toUInt16.toUInt32.toInt32)), .val (.int ((((xb.toUInt32 >>> ((8 : Int32) &&& 31).toUInt32).toInt32) &&& (255 : Int32)).toUInt32.toUInt16.toUInt32.toInt32)), .val (.int ((xc &&& (255 : Int32)).toUInt32.toUInt16.toUInt32.toInt32)), .val (.int ((((xc.toUInt32 >>> ((8 : Int32) &&& 31).toUInt32).toInt32) &&& (255 : Int32)).toUInt32.toUInt16.toUInt32.toInt32)), .val (.ref b1), .val (.ref b18), .val (.ref b54), .val (.ref b113), .val (.int (2 : Int32)), .val (.ref b54), .unset, .unset, .unset] [(.ref b113)]))
    obtain ⟨cq283, kq283, q283a, q283b, q283c⟩ := isOf hZ rfl f279
    obtain ⟨_, _, ⟨T283, L283, k283, n283⟩, -, X283, ⟨Lc283, hQ283, l283, y283, z283⟩, st283⟩ := X270.virtualBack hx (y := (⟨"com/example/reportwire/reportwire/Arguments", "peek", "()Ljava/lang/String;"⟩ : MethodName)) (z := (⟨"com/example/reportwire/reportwire/Arguments", "peek", "()Ljava/lang/String;"⟩ : MethodName)) hown (mvT hZ (wdx hw 107 rfl)) (mvT hZ (wdx hw 96 rfl)) (notFace_of_selects (args := #[]) (mvT hZ (wdx hw 98 rfl))) (mvT hZ (wdx hw 98 rfl)) (mvT hZ (wdx hw 97 rfl)) (by decide) (backOf (W := 0) (rm14_3_2 l Z a0 hw [] b113 na_187 kn_187 b1 b18 b54 T270.heap n0 O270 f279 f271 f272 f282) hZ (wdx hw 99 rfl) (wdx hw 32 rfl) (by decide) (by decide)) q283a q283c (g := (mkF m 241 #[.val (.int xa), .val (.int xb), .val (.int xc), .val (.int sel), .val (.int ((xa &&& (255 : Int32)).toUInt32.toUInt16.toUInt32.toInt32)), .val (.int ((((xa.toUInt32 >>> ((8 : Int32) &&& 31).toUInt32).toInt32) &&& (255 : Int32)).toUInt32.toUInt16.toUInt32.toInt32)), .val (.int ((xb &&& (255 : Int32)).toUInt32.toUInt16.toUInt32.toInt32)), .val (.int ((((xb.toUInt32 >>> ((8 : Int32) &&& 31).toUInt32).toInt32) &&& (255 : Int32)).toUInt32.toUInt16.toUInt32.toInt32)), .val (.int ((xc &&& (255 : Int32)).toUInt32.toUInt16.toUInt32.toInt32)), .val (.int ((((xc.toUInt32 >>> ((8 : Int32) &&& 31).toUInt32).toInt32) &&& (255 : Int32)).toUInt32.toUInt16.toUInt32.toInt32)), .val (.ref b1), .val (.ref b18), .val (.ref b54), .val (.ref b113), .val (.int (2 : Int32)), .val (.ref b54), .unset, .unset, .unset] [(.ref b113)])) rfl (by rw [hml]; rfl) (Steps.refl _) (argsL := []) (rest := []) (lenOf pd___Ljava_lang_String_ rfl) rfl (by show 2 * 0 + _ ≤ _; exact Nat.le_of_eq rfl) (hb hby at_241) (fun _ _ => ⟨rfl, rfl, (by exact Nat.le_of_ble_eq_true rfl), (by exact Nat.le_of_ble_eq_true rfl)⟩)
    dsimp only [Pt.U, Pt.locs, Pt.cells, Pt.slots] at X283 l283 y283 z283 st283 hQ283
    subst l283 y283 z283
    obtain ⟨rfl, Nq283, eq283⟩ := hQ283
    have N283 := Fr.app N270 Nq283
    refine Go.tr st283 ?_
    show Go p e below s _ _ _ (T283.setTop (mkF m 244 #[.val (.int xa), .val (.int xb), .val (.int xc), .val (.int sel), .val (.int ((xa &&& (255 : Int32)).toUInt32.toUInt16.toUInt32.toInt32)), .val (.int ((((xa.toUInt32 >>> ((8 : Int32) &&& 31).toUInt32).toInt32) &&& (255 : Int32)).toUInt32.toUInt16.toUInt32.toInt32)), .val (.int ((xb &&& (255 : Int32)).toUInt32.toUInt16.toUInt32.toInt32)), .val (.int ((((xb.toUInt32 >>> ((8 : Int32) &&& 31).toUInt32).toInt32) &&& (255 : Int32)).toUInt32.toUInt16.toUInt32.toInt32)), .val (.int ((xc &&& (255 : Int32)).toUInt32.toUInt16.toUInt32.toInt32)), .val (.int ((((xc.toUInt32 >>> ((8 : Int32) &&& 31).toUInt32).toInt32) &&& (255 : Int32)).toUInt32.toUInt16.toUInt32.toInt32)), .val (.ref b1), .val (.ref b18), .val (.ref b54), .val (.ref b113), .val (.int (2 : Int32)), .val (.ref b54), .unset, .unset, .unset] [(.ref b54)]))
    refine Go.st (fun _ k' => XS.astore X283.here hx rfl (hb hby at_244) rfl rfl (l' := #[.val (.int xa), .val (.int xb), .val (.int xc), .val (.int sel), .val (.int ((xa &&& (255 : Int32)).toUInt32.toUInt16.toUInt32.toInt32)), .val (.int ((((xa.toUInt32 >>> ((8 : Int32) &&& 31).toUInt32).toInt32) &&& (255 : Int32)).toUInt32.toUInt16.toUInt32.toInt32)), .val (.int ((xb &&& (255 : Int32)).toUInt32.toUInt16.toUInt32.toInt32)), .val (.int ((((xb.toUInt32 >>> ((8 : Int32) &&& 31).toUInt32).toInt32) &&& (255 : Int32)).toUInt32.toUInt16.toUInt32.toInt32)), .val (.int ((xc &&& (255 : Int32)).toUInt32.toUInt16.toUInt32.toInt32)), .val (.int ((((xc.toUInt32 >>> ((8 : Int32) &&& 31).toUInt32).toInt32) &&& (255 : Int32)).toUInt32.toUInt16.toUInt32.toInt32)), .val (.ref b1), .val (.ref b18), .val (.ref b54), .val (.ref b113), .val (.int (2 : Int32)), .val (.ref b54), .val (.ref b54), .unset, .unset]) rfl k') ?_
    show Go p e below s _ _ _ (T283.setTop (mkF m 246 #[.val (.int xa), .val (.int xb), .val (.int xc), .val (.int sel), .val (.int ((xa &&& (255 : Int32)).toUInt32.toUInt16.toUInt32.toInt32)), .val (.int ((((xa.toUInt32 >>> ((8 : Int32) &&& 31).toUInt32).toInt32) &&& (255 : Int32)).toUInt32.toUInt16.toUInt32.toInt32)), .val (.int ((xb &&& (255 : Int32)).toUInt32.toUInt16.toUInt32.toInt32)), .val (.int ((((xb.toUInt32 >>> ((8 : Int32) &&& 31).toUInt32).toInt32) &&& (255 : Int32)).toUInt32.toUInt16.toUInt32.toInt32)), .val (.int ((xc &&& (255 : Int32)).toUInt32.toUInt16.toUInt32.toInt32)), .val (.int ((((xc.toUInt32 >>> ((8 : Int32) &&& 31).toUInt32).toInt32) &&& (255 : Int32)).toUInt32.toUInt16.toUInt32.toInt32)), .val (.ref b1), .val (.ref b18), .val (.ref b54), .val (.ref b113), .val (.int (2 : Int32)), .val (.ref b54), .val (.ref b54), .unset, .unset] []))
    refine Go.st (fun _ k' => XS.aload X283.here hx rfl (hb hby at_246) rfl rfl k') ?_
    show Go p e below s _ _ _ (T283.setTop (mkF m 248 #[.val (.int xa), .val (.int xb), .val (.int xc), .val (.int sel), .val (.int ((xa &&& (255 : Int32)).toUInt32.toUInt16.toUInt32.toInt32)), .val (.int ((((xa.toUInt32 >>> ((8 : Int32) &&& 31).toUInt32).toInt32) &&& (255 : Int32)).toUInt32.toUInt16.toUInt32.toInt32)), .val (.int ((xb &&& (255 : Int32)).toUInt32.toUInt16.toUInt32.toInt32)), .val (.int ((((xb.toUInt32 >>> ((8 : Int32) &&& 31).toUInt32).toInt32) &&& (255 : Int32)).toUInt32.toUInt16.toUInt32.toInt32)), .val (.int ((xc &&& (255 : Int32)).toUInt32.toUInt16.toUInt32.toInt32)), .val (.int ((((xc.toUInt32 >>> ((8 : Int32) &&& 31).toUInt32).toInt32) &&& (255 : Int32)).toUInt32.toUInt16.toUInt32.toInt32)), .val (.ref b1), .val (.ref b18), .val (.ref b54), .val (.ref b113), .val (.int (2 : Int32)), .val (.ref b54), .val (.ref b54), .unset, .unset] [(.ref b113)]))
    obtain ⟨cq284, kq284, q284a, q284b, q284c⟩ := isOf hZ eq283 f279
    obtain ⟨_, _, ⟨T284, L284, k284, n284⟩, -, X284, ⟨Lc284, hQ284, l284, y284, z284⟩, st284⟩ := X283.virtualBack hx (y := (⟨"com/example/reportwire/reportwire/Arguments", "peek", "()Ljava/lang/String;"⟩ : MethodName)) (z := (⟨"com/example/reportwire/reportwire/Arguments", "peek", "()Ljava/lang/String;"⟩ : MethodName)) hown (mvT hZ (wdx hw 107 rfl)) (mvT hZ (wdx hw 96 rfl)) (notFace_of_selects (args := #[]) (mvT hZ (wdx hw 98 rfl))) (mvT hZ (wdx hw 98 rfl)) (mvT hZ (wdx hw 97 rfl)) (by decide) (backOf (W := 0) (rm14_3_2 l Z a0 hw [] b113 na_187 kn_187 b1 b18 b54 T270.heap n0 O270 f279 f271 f272 f282) hZ (wdx hw 99 rfl) (wdx hw 32 rfl) (by decide) (by decide)) q284a q284c (g := (mkF m 248 #[.val (.int xa), .val (.int xb), .val (.int xc), .val (.int sel), .val (.int ((xa &&& (255 : Int32)).toUInt32.toUInt16.toUInt32.toInt32)), .val (.int ((((xa.toUInt32 >>> ((8 : Int32) &&& 31).toUInt32).toInt32) &&& (255 : Int32)).toUInt32.toUInt16.toUInt32.toInt32)), .val (.int ((xb &&& (255 : Int32)).toUInt32.toUInt16.toUInt32.toInt32)), .val (.int ((((xb.toUInt32 >>> ((8 : Int32) &&& 31).toUInt32).toInt32) &&& (255 : Int32)).toUInt32.toUInt16.toUInt32.toInt32)), .val (.int ((xc &&& (255 : Int32)).toUInt32.toUInt16.toUInt32.toInt32)), .val (.int ((((xc.toUInt32 >>> ((8 : Int32) &&& 31).toUInt32).toInt32) &&& (255 : Int32)).toUInt32.toUInt16.toUInt32.toInt32)), .val (.ref b1), .val (.ref b18), .val (.ref b54), .val (.ref b113), .val (.int (2 : Int32)), .val (.ref b54), .val (.ref b54), .unset, .unset] [(.ref b113)])) rfl (by rw [hml]; rfl) (Steps.refl _) (argsL := []) (rest := []) (lenOf pd___Ljava_lang_String_ rfl) rfl (by show 2 * 0 + _ ≤ _; exact Nat.le_of_eq rfl) (hb hby at_248) (fun _ _ => ⟨rfl, eq283, (by exact Nat.le_of_ble_eq_true rfl), (by exact Nat.le_of_ble_eq_true rfl)⟩)
    dsimp only [Pt.U, Pt.locs, Pt.cells, Pt.slots] at X284 l284 y284 z284 st284 hQ284
    subst l284 y284 z284
    obtain ⟨rfl, Nq284, eq284⟩ := hQ284
    have N284 := Fr.app N283 Nq284
    refine Go.tr st284 ?_
    show Go p e below s _ _ _ (T284.setTop (mkF m 251 #[.val (.int xa), .val (.int xb), .val (.int xc), .val (.int sel), .val (.int ((xa &&& (255 : Int32)).toUInt32.toUInt16.toUInt32.toInt32)), .val (.int ((((xa.toUInt32 >>> ((8 : Int32) &&& 31).toUInt32).toInt32) &&& (255 : Int32)).toUInt32.toUInt16.toUInt32.toInt32)), .val (.int ((xb &&& (255 : Int32)).toUInt32.toUInt16.toUInt32.toInt32)), .val (.int ((((xb.toUInt32 >>> ((8 : Int32) &&& 31).toUInt32).toInt32) &&& (255 : Int32)).toUInt32.toUInt16.toUInt32.toInt32)), .val (.int ((xc &&& (255 : Int32)).toUInt32.toUInt16.toUInt32.toInt32)), .val (.int ((((xc.toUInt32 >>> ((8 : Int32) &&& 31).toUInt32).toInt32) &&& (255 : Int32)).toUInt32.toUInt16.toUInt32.toInt32)), .val (.ref b1), .val (.ref b18), .val (.ref b54), .val (.ref b113), .val (.int (2 : Int32)), .val (.ref b54), .val (.ref b54), .unset, .unset] [(.ref b54)]))
    refine Go.st (fun _ k' => XS.astore X284.here hx rfl (hb hby at_251) rfl rfl (l' := #[.val (.int xa), .val (.int xb), .val (.int xc), .val (.int sel), .val (.int ((xa &&& (255 : Int32)).toUInt32.toUInt16.toUInt32.toInt32)), .val (.int ((((xa.toUInt32 >>> ((8 : Int32) &&& 31).toUInt32).toInt32) &&& (255 : Int32)).toUInt32.toUInt16.toUInt32.toInt32)), .val (.int ((xb &&& (255 : Int32)).toUInt32.toUInt16.toUInt32.toInt32)), .val (.int ((((xb.toUInt32 >>> ((8 : Int32) &&& 31).toUInt32).toInt32) &&& (255 : Int32)).toUInt32.toUInt16.toUInt32.toInt32)), .val (.int ((xc &&& (255 : Int32)).toUInt32.toUInt16.toUInt32.toInt32)), .val (.int ((((xc.toUInt32 >>> ((8 : Int32) &&& 31).toUInt32).toInt32) &&& (255 : Int32)).toUInt32.toUInt16.toUInt32.toInt32)), .val (.ref b1), .val (.ref b18), .val (.ref b54), .val (.ref b113), .val (.int (2 : Int32)), .val (.ref b54), .val (.ref b54), .val (.ref b54), .unset]) rfl k') ?_
    show Go p e below s _ _ _ (T284.setTop (mkF m 253 #[.val (.int xa), .val (.int xb), .val (.int xc), .val (.int sel), .val (.int ((xa &&& (255 : Int32)).toUInt32.toUInt16.toUInt32.toInt32)), .val (.int ((((xa.toUInt32 >>> ((8 : Int32) &&& 31).toUInt32).toInt32) &&& (255 : Int32)).toUInt32.toUInt16.toUInt32.toInt32)), .val (.int ((xb &&& (255 : Int32)).toUInt32.toUInt16.toUInt32.toInt32)), .val (.int ((((xb.toUInt32 >>> ((8 : Int32) &&& 31).toUInt32).toInt32) &&& (255 : Int32)).toUInt32.toUInt16.toUInt32.toInt32)), .val (.int ((xc &&& (255 : Int32)).toUInt32.toUInt16.toUInt32.toInt32)), .val (.int ((((xc.toUInt32 >>> ((8 : Int32) &&& 31).toUInt32).toInt32) &&& (255 : Int32)).toUInt32.toUInt16.toUInt32.toInt32)), .val (.ref b1), .val (.ref b18), .val (.ref b54), .val (.ref b113), .val (.int (2 : Int32)), .val (.ref b54), .val (.ref b54), .val (.ref b54), .unset] []))
    refine Go.st (fun _ k' => XS.aload X284.here hx rfl (hb hby at_253) rfl rfl k') ?_
    show Go p e below s _ _ _ (T284.setTop (mkF m 255 #[.val (.int xa), .val (.int xb), .val (.int xc), .val (.int sel), .val (.int ((xa &&& (255 : Int32)).toUInt32.toUInt16.toUInt32.toInt32)), .val (.int ((((xa.toUInt32 >>> ((8 : Int32) &&& 31).toUInt32).toInt32) &&& (255 : Int32)).toUInt32.toUInt16.toUInt32.toInt32)), .val (.int ((xb &&& (255 : Int32)).toUInt32.toUInt16.toUInt32.toInt32)), .val (.int ((((xb.toUInt32 >>> ((8 : Int32) &&& 31).toUInt32).toInt32) &&& (255 : Int32)).toUInt32.toUInt16.toUInt32.toInt32)), .val (.int ((xc &&& (255 : Int32)).toUInt32.toUInt16.toUInt32.toInt32)), .val (.int ((((xc.toUInt32 >>> ((8 : Int32) &&& 31).toUInt32).toInt32) &&& (255 : Int32)).toUInt32.toUInt16.toUInt32.toInt32)), .val (.ref b1), .val (.ref b18), .val (.ref b54), .val (.ref b113), .val (.int (2 : Int32)), .val (.ref b54), .val (.ref b54), .val (.ref b54), .unset] [(.ref b113)]))
    obtain ⟨cq285, kq285, q285a, q285b, q285c⟩ := isOf hZ eq284 f279
    obtain ⟨_, _, ⟨T285, L285, k285, n285⟩, -, X285, ⟨Lc285, hQ285, l285, y285, z285⟩, st285⟩ := X284.virtualBack hx (y := (⟨"com/example/reportwire/reportwire/Arguments", "next", "()Ljava/lang/String;"⟩ : MethodName)) (z := (⟨"com/example/reportwire/reportwire/Arguments", "next", "()Ljava/lang/String;"⟩ : MethodName)) hown (mvT hZ (wdx hw 90 rfl)) (mvT hZ (wdx hw 91 rfl)) (notFace_of_selects (args := #[]) (mvT hZ (wdx hw 93 rfl))) (mvT hZ (wdx hw 93 rfl)) (mvT hZ (wdx hw 92 rfl)) (by decide) (backOf (W := 0) (rm13_3_2 l Z a0 hw [] b113 na_187 kn_187 b1 b18 b54 T270.heap n0 O270 f279 f271 f272 f282 g_b113 ne206) hZ (wdx hw 94 rfl) (wdx hw 32 rfl) (by decide) (by decide)) q285a q285c (g := (mkF m 255 #[.val (.int xa), .val (.int xb), .val (.int xc), .val (.int sel), .val (.int ((xa &&& (255 : Int32)).toUInt32.toUInt16.toUInt32.toInt32)), .val (.int ((((xa.toUInt32 >>> ((8 : Int32) &&& 31).toUInt32).toInt32) &&& (255 : Int32)).toUInt32.toUInt16.toUInt32.toInt32)), .val (.int ((xb &&& (255 : Int32)).toUInt32.toUInt16.toUInt32.toInt32)), .val (.int ((((xb.toUInt32 >>> ((8 : Int32) &&& 31).toUInt32).toInt32) &&& (255 : Int32)).toUInt32.toUInt16.toUInt32.toInt32)), .val (.int ((xc &&& (255 : Int32)).toUInt32.toUInt16.toUInt32.toInt32)), .val (.int ((((xc.toUInt32 >>> ((8 : Int32) &&& 31).toUInt32).toInt32) &&& (255 : Int32)).toUInt32.toUInt16.toUInt32.toInt32)), .val (.ref b1), .val (.ref b18), .val (.ref b54), .val (.ref b113), .val (.int (2 : Int32)), .val (.ref b54), .val (.ref b54), .val (.ref b54), .unset] [(.ref b113)])) rfl (by rw [hml]; rfl) (Steps.refl _) (argsL := []) (rest := []) (lenOf pd___Ljava_lang_String_ rfl) rfl (by show 2 * 0 + _ ≤ _; exact Nat.le_of_eq rfl) (hb hby at_255) (fun _ _ => ⟨rfl, eq284, (by exact Nat.le_of_ble_eq_true rfl), (by exact Nat.le_of_ble_eq_true rfl)⟩)
    dsimp only [Pt.U, Pt.locs, Pt.cells, Pt.slots] at X285 l285 y285 z285 st285 hQ285
    subst l285 y285 z285
    obtain ⟨rfl, Nq285, Kq285, f286, f287⟩ := hQ285
    have N285 := Fr.app N284 Nq285
    refine Go.tr st285 ?_
    have f288 : Exa Z T285.heap b1 "java/lang/String" := f273.keep Kq285
    have f289 : Arv Z T285.heap b4 k4 .char (1 : Int32) [(.int (nar .char ((xa &&& (255 : Int32)).toUInt32.toUInt16.toUInt32.toInt32)))] (.int (0 : Int32)) := f274.keep Kq285 (ninS ne115 nin0)
    have f290 : Exa Z T285.heap b18 "java/lang/String" := f275.keep Kq285
    have f291 : Arv Z T285.heap b25 k25 .char (2 : Int32) [(.int (nar .char ((((xa.toUInt32 >>> ((8 : Int32) &&& 31).toUInt32).toInt32) &&& (255 : Int32)).toUInt32.toUInt16.toUInt32.toInt32))), (.int (nar .char ((xb &&& (255 : Int32)).toUInt32.toUInt16.toUInt32.toInt32)))] (.int (0 : Int32)) := f276.keep Kq285 (ninS ne117 nin0)
    have f292 : Exa Z T285.heap b54 "java/lang/String" := f277.keep Kq285
    have f293 : Arv Z T285.heap b65 k65 .char (3 : Int32) [(.int (nar .char ((((xb.toUInt32 >>> ((8 : Int32) &&& 31).toUInt32).toInt32) &&& (255 : Int32)).toUInt32.toUInt16.toUInt32.toInt32))), (.int (nar .char ((xc &&& (255 : Int32)).toUInt32.toUInt16.toUInt32.toInt32))), (.int (nar .char ((((xc.toUInt32 >>> ((8 : Int32) &&& 31).toUInt32).toInt32) &&& (255 : Int32)).toUInt32.toUInt16.toUInt32.toInt32)))] (.int (0 : Int32)) := f278.keep Kq285 (ninS ne119 nin0)
    have f294 : Exa Z T285.heap b113 "com/example/reportwire/reportwire/Arguments" := f279.keep Kq285
    have f295 : Exa Z T285.heap b129 "[Ljava/lang/String;" := f280.keep Kq285
    have f296 : Arv Z T285.heap b129 k129 (.object "java/lang/String") (3 : Int32) [(.ref b1), (.ref b18), (.ref b54)] .null := f281.keep Kq285 (ninS (Ne.symm ne136) nin0)
    have f297 : Arv Z T285.heap na_187 kn_187 (.object "java/lang/String") (3 : Int32) [(.ref b1), (.ref b18), (.ref b54)] .null := f282.keep Kq285 (ninS (Ne.symm ne206) nin0)
    have O285 : Old Z n0 T285.heap := O270.keep Kq285 (allS g_b113 all0)
    show Go p e below s _ _ _ (T285.setTop (mkF m 258 #[.val (.int xa), .val (.int xb), .val (.int xc), .val (.int sel), .val (.int ((xa &&& (255 : Int32)).toUInt32.toUInt16.toUInt32.toInt32)), .val (.int ((((xa.toUInt32 >>> ((8 : Int32) &&& 31).toUInt32).toInt32) &&& (255 : Int32)).toUInt32.toUInt16.toUInt32.toInt32)), .val (.int ((xb &&& (255 : Int32)).toUInt32.toUInt16.toUInt32.toInt32)), .val (.int ((((xb.toUInt32 >>> ((8 : Int32) &&& 31).toUInt32).toInt32) &&& (255 : Int32)).toUInt32.toUInt16.toUInt32.toInt32)), .val (.int ((xc &&& (255 : Int32)).toUInt32.toUInt16.toUInt32.toInt32)), .val (.int ((((xc.toUInt32 >>> ((8 : Int32) &&& 31).toUInt32).toInt32) &&& (255 : Int32)).toUInt32.toUInt16.toUInt32.toInt32)), .val (.ref b1), .val (.ref b18), .val (.ref b54), .val (.ref b113), .val (.int (2 : Int32)), .val (.ref b54), .val (.ref b54), .val (.ref b54), .unset] [(.ref b54)]))
    refine Go.st (fun _ k' => XS.astore X285.here hx rfl (hb hby at_258) rfl rfl (l' := #[.val (.int xa), .val (.int xb), .val (.int xc), .val (.int sel), .val (.int ((xa &&& (255 : Int32)).toUInt32.toUInt16.toUInt32.toInt32)), .val (.int ((((xa.toUInt32 >>> ((8 : Int32) &&& 31).toUInt32).toInt32) &&& (255 : Int32)).toUInt32.toUInt16.toUInt32.toInt32)), .val (.int ((xb &&& (255 : Int32)).toUInt32.toUInt16.toUInt32.toInt32)), .val (.int ((((xb.toUInt32 >>> ((8 : Int32) &&& 31).toUInt32).toInt32) &&& (255 : Int32)).toUInt32.toUInt16.toUInt32.toInt32)), .val (.int ((xc &&& (255 : Int32)).toUInt32.toUInt16.toUInt32.toInt32)), .val (.int ((((xc.toUInt32 >>> ((8 : Int32) &&& 31).toUInt32).toInt32) &&& (255 : Int32)).toUInt32.toUInt16.toUInt32.toInt32)), .val (.ref b1), .val (.ref b18), .val (.ref b54), .val (.ref b113), .val (.int (2 : Int32)), .val (.ref b54), .val (.ref b54), .val (.ref b54), .val (.ref b54)]) rfl k') ?_
    show Go p e below s _ _ _ (T285.setTop (mkF m 260 #[.val (.int xa), .val (.int xb), .val (.int xc), .val (.int sel), .val (.int ((xa &&& (255 : Int32)).toUInt32.toUInt16.toUInt32.toInt32)), .val (.int ((((xa.toUInt32 >>> ((8 : Int32) &&& 31).toUInt32).toInt32) &&& (255 : Int32)).toUInt32.toUInt16.toUInt32.toInt32)), .val (.int ((xb &&& (255 : Int32)).toUInt32.toUInt16.toUInt32.toInt32)), .val (.int ((((xb.toUInt32 >>> ((8 : Int32) &&& 31).toUInt32).toInt32) &&& (255 : Int32)).toUInt32.toUInt16.toUInt32.toInt32)), .val (.int ((xc &&& (255 : Int32)).toUInt32.toUInt16.toUInt32.toInt32)), .val (.int ((((xc.toUInt32 >>> ((8 : Int32) &&& 31).toUInt32).toInt32) &&& (255 : Int32)).toUInt32.toUInt16.toUInt32.toInt32)), .val (.ref b1), .val (.ref b18), .val (.ref b54), .val (.ref b113), .val (.int (2 : Int32)), .val (.ref b54), .val (.ref b54), .val (.ref b54), .val (.ref b54)] []))
    refine Go.st (fun _ k' => XS.aload X285.here hx rfl (hb hby at_260) rfl rfl k') ?_
    show Go p e below s _ _ _ (T285.setTop (mkF m 262 #[.val (.int xa), .val (.int xb), .val (.int xc), .val (.int sel), .val (.int ((xa &&& (255 : Int32)).toUInt32.toUInt16.toUInt32.toInt32)), .val (.int ((((xa.toUInt32 >>> ((8 : Int32) &&& 31).toUInt32).toInt32) &&& (255 : Int32)).toUInt32.toUInt16.toUInt32.toInt32)), .val (.int ((xb &&& (255 : Int32)).toUInt32.toUInt16.toUInt32.toInt32)), .val (.int ((((xb.toUInt32 >>> ((8 : Int32) &&& 31).toUInt32).toInt32) &&& (255 : Int32)).toUInt32.toUInt16.toUInt32.toInt32)), .val (.int ((xc &&& (255 : Int32)).toUInt32.toUInt16.toUInt32.toInt32)), .val (.int ((((xc.toUInt32 >>> ((8 : Int32) &&& 31).toUInt32).toInt32) &&& (255 : Int32)).toUInt32.toUInt16.toUInt32.toInt32)), .val (.ref b1), .val (.ref b18), .val (.ref b54), .val (.ref b113), .val (.int (2 : Int32)), .val (.ref b54), .val (.ref b54), .val (.ref b54), .val (.ref b54)] [(.ref b54)]))
    refine Go.st (fun _ k' => XS.aload X285.here hx rfl (hb hby at_262) rfl rfl k') ?_
    show Go p e below s _ _ _ (T285.setTop (mkF m 264 #[.val (.int xa), .val (.int xb), .val (.int xc), .val (.int sel), .val (.int ((xa &&& (255 : Int32)).toUInt32.toUInt16.toUInt32.toInt32)), .val (.int ((((xa.toUInt32 >>> ((8 : Int32) &&& 31).toUInt32).toInt32) &&& (255 : Int32)).toUInt32.toUInt16.toUInt32.toInt32)), .val (.int ((xb &&& (255 : Int32)).toUInt32.toUInt16.toUInt32.toInt32)), .val (.int ((((xb.toUInt32 >>> ((8 : Int32) &&& 31).toUInt32).toInt32) &&& (255 : Int32)).toUInt32.toUInt16.toUInt32.toInt32)), .val (.int ((xc &&& (255 : Int32)).toUInt32.toUInt16.toUInt32.toInt32)), .val (.int ((((xc.toUInt32 >>> ((8 : Int32) &&& 31).toUInt32).toInt32) &&& (255 : Int32)).toUInt32.toUInt16.toUInt32.toInt32)), .val (.ref b1), .val (.ref b18), .val (.ref b54), .val (.ref b113), .val (.int (2 : Int32)), .val (.ref b54), .val (.ref b54), .val (.ref b54), .val (.ref b54)] [(.ref b54), (.ref b54)]))
    obtain ⟨cq298, kq298, q298a, q298b, q298c⟩ := isOf hZ rfl f292
    obtain ⟨_, _, ⟨T298, L298, k298, n298⟩, -, X298, ⟨Lc298, hQ298, l298, y298, z298⟩, st298⟩ := X285.virtualBack hx (y := (⟨"java/lang/String", "equals", "(Ljava/lang/Object;)Z"⟩ : MethodName)) (z := (⟨"java/lang/String", "equals", "(Ljava/lang/Object;)Z"⟩ : MethodName)) hown (mvT hZ (wdx hw 108 rfl)) (mvT hZ (wdx hw 109 rfl)) (notFace_of_selects (args := #[]) (mvT hZ (wdx hw 111 rfl))) (mvT hZ (wdx hw 111 rfl)) (mvT hZ (wdx hw 110 rfl)) (by decide) (backOf (W := 0) (rm16 l Z a0 hw [] b54 T285.heap n0 O285 ) hZ (wdx hw 112 rfl) (wdx hw 2 rfl) (by decide) (by decide)) q298a q298c (g := (mkF m 264 #[.val (.int xa), .val (.int xb), .val (.int xc), .val (.int sel), .val (.int ((xa &&& (255 : Int32)).toUInt32.toUInt16.toUInt32.toInt32)), .val (.int ((((xa.toUInt32 >>> ((8 : Int32) &&& 31).toUInt32).toInt32) &&& (255 : Int32)).toUInt32.toUInt16.toUInt32.toInt32)), .val (.int ((xb &&& (255 : Int32)).toUInt32.toUInt16.toUInt32.toInt32)), .val (.int ((((xb.toUInt32 >>> ((8 : Int32) &&& 31).toUInt32).toInt32) &&& (255 : Int32)).toUInt32.toUInt16.toUInt32.toInt32)), .val (.int ((xc &&& (255 : Int32)).toUInt32.toUInt16.toUInt32.toInt32)), .val (.int ((((xc.toUInt32 >>> ((8 : Int32) &&& 31).toUInt32).toInt32) &&& (255 : Int32)).toUInt32.toUInt16.toUInt32.toInt32)), .val (.ref b1), .val (.ref b18), .val (.ref b54), .val (.ref b113), .val (.int (2 : Int32)), .val (.ref b54), .val (.ref b54), .val (.ref b54), .val (.ref b54)] [(.ref b54), (.ref b54)])) rfl (by rw [hml]; rfl) (Steps.refl _) (argsL := [(.ref b54)]) (rest := []) (lenOf pd__Ljava_lang_Object__Z rfl) rfl (by show 2 * 0 + _ ≤ _; exact Nat.le_of_eq rfl) (hb hby at_264) (fun _ _ => ⟨rfl, rfl, (by exact Nat.le_of_ble_eq_true rfl), (by exact Nat.le_of_ble_eq_true rfl)⟩)
    dsimp only [Pt.U, Pt.locs, Pt.cells, Pt.slots] at X298 l298 y298 z298 st298 hQ298
    subst l298 y298 z298
    obtain ⟨rfl, Nq298, eq298⟩ := hQ298
    have N298 := Fr.app N285 Nq298
    refine Go.tr st298 ?_
    show Go p e below s _ _ _ (T298.setTop (mkF m 267 #[.val (.int xa), .val (.int xb), .val (.int xc), .val (.int sel), .val (.int ((xa &&& (255 : Int32)).toUInt32.toUInt16.toUInt32.toInt32)), .val (.int ((((xa.toUInt32 >>> ((8 : Int32) &&& 31).toUInt32).toInt32) &&& (255 : Int32)).toUInt32.toUInt16.toUInt32.toInt32)), .val (.int ((xb &&& (255 : Int32)).toUInt32.toUInt16.toUInt32.toInt32)), .val (.int ((((xb.toUInt32 >>> ((8 : Int32) &&& 31).toUInt32).toInt32) &&& (255 : Int32)).toUInt32.toUInt16.toUInt32.toInt32)), .val (.int ((xc &&& (255 : Int32)).toUInt32.toUInt16.toUInt32.toInt32)), .val (.int ((((xc.toUInt32 >>> ((8 : Int32) &&& 31).toUInt32).toInt32) &&& (255 : Int32)).toUInt32.toUInt16.toUInt32.toInt32)), .val (.ref b1), .val (.ref b18), .val (.ref b54), .val (.ref b113), .val (.int (2 : Int32)), .val (.ref b54), .val (.ref b54), .val (.ref b54), .val (.ref b54)] [(.int (1 : Int32))]))
    refine Go.st (fun _ k' => XS.ifNo X298.here hx rfl (hb hby at_267) rfl (XT.i0_eq_f (by decide)) k') ?_
    show Go p e below s _ _ _ (T298.setTop (mkF m 270 #[.val (.int xa), .val (.int xb), .val (.int xc), .val (.int sel), .val (.int ((xa &&& (255 : Int32)).toUInt32.toUInt16.toUInt32.toInt32)), .val (.int ((((xa.toUInt32 >>> ((8 : Int32) &&& 31).toUInt32).toInt32) &&& (255 : Int32)).toUInt32.toUInt16.toUInt32.toInt32)), .val (.int ((xb &&& (255 : Int32)).toUInt32.toUInt16.toUInt32.toInt32)), .val (.int ((((xb.toUInt32 >>> ((8 : Int32) &&& 31).toUInt32).toInt32) &&& (255 : Int32)).toUInt32.toUInt16.toUInt32.toInt32)), .val (.int ((xc &&& (255 : Int32)).toUInt32.toUInt16.toUInt32.toInt32)), .val (.int ((((xc.toUInt32 >>> ((8 : Int32) &&& 31).toUInt32).toInt32) &&& (255 : Int32)).toUInt32.toUInt16.toUInt32.toInt32)), .val (.ref b1), .val (.ref b18), .val (.ref b54), .val (.ref b113), .val (.int (2 : Int32)), .val (.ref b54), .val (.ref b54), .val (.ref b54), .val (.ref b54)] []))
    refine Go.st (fun _ k' => XS.aload X298.here hx rfl (hb hby at_270) rfl rfl k') ?_
    show Go p e below s _ _ _ (T298.setTop (mkF m 272 #[.val (.int xa), .val (.int xb), .val (.int xc), .val (.int sel), .val (.int ((xa &&& (255 : Int32)).toUInt32.toUInt16.toUInt32.toInt32)), .val (.int ((((xa.toUInt32 >>> ((8 : Int32) &&& 31).toUInt32).toInt32) &&& (255 : Int32)).toUInt32.toUInt16.toUInt32.toInt32)), .val (.int ((xb &&& (255 : Int32)).toUInt32.toUInt16.toUInt32.toInt32)), .val (.int ((((xb.toUInt32 >>> ((8 : Int32) &&& 31).toUInt32).toInt32) &&& (255 : Int32)).toUInt32.toUInt16.toUInt32.toInt32)), .val (.int ((xc &&& (255 : Int32)).toUInt32.toUInt16.toUInt32.toInt32)), .val (.int ((((xc.toUInt32 >>> ((8 : Int32) &&& 31).toUInt32).toInt32) &&& (255 : Int32)).toUInt32.toUInt16.toUInt32.toInt32)), .val (.ref b1), .val (.ref b18), .val (.ref b54), .val (.ref b113), .val (.int (2 : Int32)), .val (.ref b54), .val (.ref b54), .val (.ref b54), .val (.ref b54)] [(.ref b54)]))
    refine Go.st (fun _ k' => XS.aload X298.here hx rfl (hb hby at_272) rfl rfl k') ?_
    show Go p e below s _ _ _ (T298.setTop (mkF m 274 #[.val (.int xa), .val (.int xb), .val (.int xc), .val (.int sel), .val (.int ((xa &&& (255 : Int32)).toUInt32.toUInt16.toUInt32.toInt32)), .val (.int ((((xa.toUInt32 >>> ((8 : Int32) &&& 31).toUInt32).toInt32) &&& (255 : Int32)).toUInt32.toUInt16.toUInt32.toInt32)), .val (.int ((xb &&& (255 : Int32)).toUInt32.toUInt16.toUInt32.toInt32)), .val (.int ((((xb.toUInt32 >>> ((8 : Int32) &&& 31).toUInt32).toInt32) &&& (255 : Int32)).toUInt32.toUInt16.toUInt32.toInt32)), .val (.int ((xc &&& (255 : Int32)).toUInt32.toUInt16.toUInt32.toInt32)), .val (.int ((((xc.toUInt32 >>> ((8 : Int32) &&& 31).toUInt32).toInt32) &&& (255 : Int32)).toUInt32.toUInt16.toUInt32.toInt32)), .val (.ref b1), .val (.ref b18), .val (.ref b54), .val (.ref b113), .val (.int (2 : Int32)), .val (.ref b54), .val (.ref b54), .val (.ref b54), .val (.ref b54)] [(.ref b54), (.ref b54)]))
    obtain ⟨cq299, kq299, q299a, q299b, q299c⟩ := isOf hZ eq298 f292
    obtain ⟨_, _, ⟨T299, L299, k299, n299⟩, -, X299, ⟨Lc299, hQ299, l299, y299, z299⟩, st299⟩ := X298.virtualBack hx (y := (⟨"java/lang/String", "equals", "(Ljava/lang/Object;)Z"⟩ : MethodName)) (z := (⟨"java/lang/String", "equals", "(Ljava/lang/Object;)Z"⟩ : MethodName)) hown (mvT hZ (wdx hw 108 rfl)) (mvT hZ (wdx hw 109 rfl)) (notFace_of_selects (args := #[]) (mvT hZ (wdx hw 111 rfl))) (mvT hZ (wdx hw 111 rfl)) (mvT hZ (wdx hw 110 rfl)) (by decide) (backOf (W := 0) (rm16 l Z a0 hw [] b54 T285.heap n0 O285 ) hZ (wdx hw 112 rfl) (wdx hw 2 rfl) (by decide) (by decide)) q299a q299c (g := (mkF m 274 #[.val (.int xa), .val (.int xb), .val (.int xc), .val (.int sel), .val (.int ((xa &&& (255 : Int32)).toUInt32.toUInt16.toUInt32.toInt32)), .val (.int ((((xa.toUInt32 >>> ((8 : Int32) &&& 31).toUInt32).toInt32) &&& (255 : Int32)).toUInt32.toUInt16.toUInt32.toInt32)), .val (.int ((xb &&& (255 : Int32)).toUInt32.toUInt16.toUInt32.toInt32)), .val (.int ((((xb.toUInt32 >>> ((8 : Int32) &&& 31).toUInt32).toInt32) &&& (255 : Int32)).toUInt32.toUInt16.toUInt32.toInt32)), .val (.int ((xc &&& (255 : Int32)).toUInt32.toUInt16.toUInt32.toInt32)), .val (.int ((((xc.toUInt32 >>> ((8 : Int32) &&& 31).toUInt32).toInt32) &&& (255 : Int32)).toUInt32.toUInt16.toUInt32.toInt32)), .val (.ref b1), .val (.ref b18), .val (.ref b54), .val (.ref b113), .val (.int (2 : Int32)), .val (.ref b54), .val (.ref b54), .val (.ref b54), .val (.ref b54)] [(.ref b54), (.ref b54)])) rfl (by rw [hml]; rfl) (Steps.refl _) (argsL := [(.ref b54)]) (rest := []) (lenOf pd__Ljava_lang_Object__Z rfl) rfl (by show 2 * 0 + _ ≤ _; exact Nat.le_of_eq rfl) (hb hby at_274) (fun _ _ => ⟨rfl, eq298, (by exact Nat.le_of_ble_eq_true rfl), (by exact Nat.le_of_ble_eq_true rfl)⟩)
    dsimp only [Pt.U, Pt.locs, Pt.cells, Pt.slots] at X299 l299 y299 z299 st299 hQ299
    subst l299 y299 z299
    obtain ⟨rfl, Nq299, eq299⟩ := hQ299
    have N299 := Fr.app N298 Nq299
    refine Go.tr st299 ?_
    show Go p e below s _ _ _ (T299.setTop (mkF m 277 #[.val (.int xa), .val (.int xb), .val (.int xc), .val (.int sel), .val (.int ((xa &&& (255 : Int32)).toUInt32.toUInt16.toUInt32.toInt32)), .val (.int ((((xa.toUInt32 >>> ((8 : Int32) &&& 31).toUInt32).toInt32) &&& (255 : Int32)).toUInt32.toUInt16.toUInt32.toInt32)), .val (.int ((xb &&& (255 : Int32)).toUInt32.toUInt16.toUInt32.toInt32)), .val (.int ((((xb.toUInt32 >>> ((8 : Int32) &&& 31).toUInt32).toInt32) &&& (255 : Int32)).toUInt32.toUInt16.toUInt32.toInt32)), .val (.int ((xc &&& (255 : Int32)).toUInt32.toUInt16.toUInt32.toInt32)), .val (.int ((((xc.toUInt32 >>> ((8 : Int32) &&& 31).toUInt32).toInt32) &&& (255 : Int32)).toUInt32.toUInt16.toUInt32.toInt32)), .val (.ref b1), .val (.ref b18), .val (.ref b54), .val (.ref b113), .val (.int (2 : Int32)), .val (.ref b54), .val (.ref b54), .val (.ref b54), .val (.ref b54)] [(.int (1 : Int32))]))
    refine Go.st (fun _ k' => XS.ifNo X299.here hx rfl (hb hby at_277) rfl (XT.i0_eq_f (by decide)) k') ?_
    show Go p e below s _ _ _ (T299.setTop (mkF m 280 #[.val (.int xa), .val (.int xb), .val (.int xc), .val (.int sel), .val (.int ((xa &&& (255 : Int32)).toUInt32.toUInt16.toUInt32.toInt32)), .val (.int ((((xa.toUInt32 >>> ((8 : Int32) &&& 31).toUInt32).toInt32) &&& (255 : Int32)).toUInt32.toUInt16.toUInt32.toInt32)), .val (.int ((xb &&& (255 : Int32)).toUInt32.toUInt16.toUInt32.toInt32)), .val (.int ((((xb.toUInt32 >>> ((8 : Int32) &&& 31).toUInt32).toInt32) &&& (255 : Int32)).toUInt32.toUInt16.toUInt32.toInt32)), .val (.int ((xc &&& (255 : Int32)).toUInt32.toUInt16.toUInt32.toInt32)), .val (.int ((((xc.toUInt32 >>> ((8 : Int32) &&& 31).toUInt32).toInt32) &&& (255 : Int32)).toUInt32.toUInt16.toUInt32.toInt32)), .val (.ref b1), .val (.ref b18), .val (.ref b54), .val (.ref b113), .val (.int (2 : Int32)), .val (.ref b54), .val (.ref b54), .val (.ref b54), .val (.ref b54)] []))
    refine Go.st (fun _ k' => XS.aload X299.here hx rfl (hb hby at_280) rfl rfl k') ?_
    show Go p e below s _ _ _ (T299.setTop (mkF m 282 #[.val (.int xa), .val (.int xb), .val (.int xc), .val (.int sel), .val (.int ((xa &&& (255 : Int32)).toUInt32.toUInt16.toUInt32.toInt32)), .val (.int ((((xa.toUInt32 >>> ((8 : Int32) &&& 31).toUInt32).toInt32) &&& (255 : Int32)).toUInt32.toUInt16.toUInt32.toInt32)), .val (.int ((xb &&& (255 : Int32)).toUInt32.toUInt16.toUInt32.toInt32)), .val (.int ((((xb.toUInt32 >>> ((8 : Int32) &&& 31).toUInt32).toInt32) &&& (255 : Int32)).toUInt32.toUInt16.toUInt32.toInt32)), .val (.int ((xc &&& (255 : Int32)).toUInt32.toUInt16.toUInt32.toInt32)), .val (.int ((((xc.toUInt32 >>> ((8 : Int32) &&& 31).toUInt32).toInt32) &&& (255 : Int32)).toUInt32.toUInt16.toUInt32.toInt32)), .val (.ref b1), .val (.ref b18), .val (.ref b54), .val (.ref b113), .val (.int (2 : Int32)), .val (.ref b54), .val (.ref b54), .val (.ref b54), .val (.ref b54)] [(.ref b54)]))
    refine Go.st (fun _ k' => XS.aload X299.here hx rfl (hb hby at_282) rfl rfl k') ?_
    show Go p e below s _ _ _ (T299.setTop (mkF m 284 #[.val (.int xa), .val (.int xb), .val (.int xc), .val (.int sel), .val (.int ((xa &&& (255 : Int32)).toUInt32.toUInt16.toUInt32.toInt32)), .val (.int ((((xa.toUInt32 >>> ((8 : Int32) &&& 31).toUInt32).toInt32) &&& (255 : Int32)).toUInt32.toUInt16.toUInt32.toInt32)), .val (.int ((xb &&& (255 : Int32)).toUInt32.toUInt16.toUInt32.toInt32)), .val (.int ((((xb.toUInt32 >>> ((8 : Int32) &&& 31).toUInt32).toInt32) &&& (255 : Int32)).toUInt32.toUInt16.toUInt32.toInt32)), .val (.int ((xc &&& (255 : Int32)).toUInt32.toUInt16.toUInt32.toInt32)), .val (.int ((((xc.toUInt32 >>> ((8 : Int32) &&& 31).toUInt32).toInt32) &&& (255 : Int32)).toUInt32.toUInt16.toUInt32.toInt32)), .val (.ref b1), .val (.ref b18), .val (.ref b54), .val (.ref b113), .val (.int (2 : Int32)), .val (.ref b54), .val (.ref b54), .val (.ref b54), .val (.ref b54)] [(.ref b54), (.ref b54)]))
    obtain ⟨cq300, kq300, q300a, q300b, q300c⟩ := isOf hZ eq299 f292
    obtain ⟨_, _, ⟨T300, L300, k300, n300⟩, -, X300, ⟨Lc300, hQ300, l300, y300, z300⟩, st300⟩ := X299.virtualBack hx (y := (⟨"java/lang/String", "equals", "(Ljava/lang/Object;)Z"⟩ : MethodName)) (z := (⟨"java/lang/String", "equals", "(Ljava/lang/Object;)Z"⟩ : MethodName)) hown (mvT hZ (wdx hw 108 rfl)) (mvT hZ (wdx hw 109 rfl)) (notFace_of_selects (args := #[]) (mvT hZ (wdx hw 111 rfl))) (mvT hZ (wdx hw 111 rfl)) (mvT hZ (wdx hw 110 rfl)) (by decide) (backOf (W := 0) (rm16 l Z a0 hw [] b54 T285.heap n0 O285 ) hZ (wdx hw 112 rfl) (wdx hw 2 rfl) (by decide) (by decide)) q300a q300c (g := (mkF m 284 #[.val (.int xa), .val (.int xb), .val (.int xc), .val (.int sel), .val (.int ((xa &&& (255 : Int32)).toUInt32.toUInt16.toUInt32.toInt32)), .val (.int ((((xa.toUInt32 >>> ((8 : Int32) &&& 31).toUInt32).toInt32) &&& (255 : Int32)).toUInt32.toUInt16.toUInt32.toInt32)), .val (.int ((xb &&& (255 : Int32)).toUInt32.toUInt16.toUInt32.toInt32)), .val (.int ((((xb.toUInt32 >>> ((8 : Int32) &&& 31).toUInt32).toInt32) &&& (255 : Int32)).toUInt32.toUInt16.toUInt32.toInt32)), .val (.int ((xc &&& (255 : Int32)).toUInt32.toUInt16.toUInt32.toInt32)), .val (.int ((((xc.toUInt32 >>> ((8 : Int32) &&& 31).toUInt32).toInt32) &&& (255 : Int32)).toUInt32.toUInt16.toUInt32.toInt32)), .val (.ref b1), .val (.ref b18), .val (.ref b54), .val (.ref b113), .val (.int (2 : Int32)), .val (.ref b54), .val (.ref b54), .val (.ref b54), .val (.ref b54)] [(.ref b54), (.ref b54)])) rfl (by rw [hml]; rfl) (Steps.refl _) (argsL := [(.ref b54)]) (rest := []) (lenOf pd__Ljava_lang_Object__Z rfl) rfl (by show 2 * 0 + _ ≤ _; exact Nat.le_of_eq rfl) (hb hby at_284) (fun _ _ => ⟨rfl, eq299, (by exact Nat.le_of_ble_eq_true rfl), (by exact Nat.le_of_ble_eq_true rfl)⟩)
    dsimp only [Pt.U, Pt.locs, Pt.cells, Pt.slots] at X300 l300 y300 z300 st300 hQ300
    subst l300 y300 z300
    obtain ⟨rfl, Nq300, eq300⟩ := hQ300
    have N300 := Fr.app N299 Nq300
    refine Go.tr st300 ?_
    show Go p e below s _ _ _ (T300.setTop (mkF m 287 #[.val (.int xa), .val (.int xb), .val (.int xc), .val (.int sel), .val (.int ((xa &&& (255 : Int32)).toUInt32.toUInt16.toUInt32.toInt32)), .val (.int ((((xa.toUInt32 >>> ((8 : Int32) &&& 31).toUInt32).toInt32) &&& (255 : Int32)).toUInt32.toUInt16.toUInt32.toInt32)), .val (.int ((xb &&& (255 : Int32)).toUInt32.toUInt16.toUInt32.toInt32)), .val (.int ((((xb.toUInt32 >>> ((8 : Int32) &&& 31).toUInt32).toInt32) &&& (255 : Int32)).toUInt32.toUInt16.toUInt32.toInt32)), .val (.int ((xc &&& (255 : Int32)).toUInt32.toUInt16.toUInt32.toInt32)), .val (.int ((((xc.toUInt32 >>> ((8 : Int32) &&& 31).toUInt32).toInt32) &&& (255 : Int32)).toUInt32.toUInt16.toUInt32.toInt32)), .val (.ref b1), .val (.ref b18), .val (.ref b54), .val (.ref b113), .val (.int (2 : Int32)), .val (.ref b54), .val (.ref b54), .val (.ref b54), .val (.ref b54)] [(.int (1 : Int32))]))
    refine Go.st (fun _ k' => XS.ifNo X300.here hx rfl (hb hby at_287) rfl (XT.i0_eq_f (by decide)) k') ?_
    show Go p e below s _ _ _ (T300.setTop (mkF m 290 #[.val (.int xa), .val (.int xb), .val (.int xc), .val (.int sel), .val (.int ((xa &&& (255 : Int32)).toUInt32.toUInt16.toUInt32.toInt32)), .val (.int ((((xa.toUInt32 >>> ((8 : Int32) &&& 31).toUInt32).toInt32) &&& (255 : Int32)).toUInt32.toUInt16.toUInt32.toInt32)), .val (.int ((xb &&& (255 : Int32)).toUInt32.toUInt16.toUInt32.toInt32)), .val (.int ((((xb.toUInt32 >>> ((8 : Int32) &&& 31).toUInt32).toInt32) &&& (255 : Int32)).toUInt32.toUInt16.toUInt32.toInt32)), .val (.int ((xc &&& (255 : Int32)).toUInt32.toUInt16.toUInt32.toInt32)), .val (.int ((((xc.toUInt32 >>> ((8 : Int32) &&& 31).toUInt32).toInt32) &&& (255 : Int32)).toUInt32.toUInt16.toUInt32.toInt32)), .val (.ref b1), .val (.ref b18), .val (.ref b54), .val (.ref b113), .val (.int (2 : Int32)), .val (.ref b54), .val (.ref b54), .val (.ref b54), .val (.ref b54)] []))
    refine Go.st (fun _ k' => XS.iconst X300.here hx rfl (hb hby at_290) k') ?_
    show Go p e below s _ _ _ (T300.setTop (mkF m 291 #[.val (.int xa), .val (.int xb), .val (.int xc), .val (.int sel), .val (.int ((xa &&& (255 : Int32)).toUInt32.toUInt16.toUInt32.toInt32)), .val (.int ((((xa.toUInt32 >>> ((8 : Int32) &&& 31).toUInt32).toInt32) &&& (255 : Int32)).toUInt32.toUInt16.toUInt32.toInt32)), .val (.int ((xb &&& (255 : Int32)).toUInt32.toUInt16.toUInt32.toInt32)), .val (.int ((((xb.toUInt32 >>> ((8 : Int32) &&& 31).toUInt32).toInt32) &&& (255 : Int32)).toUInt32.toUInt16.toUInt32.toInt32)), .val (.int ((xc &&& (255 : Int32)).toUInt32.toUInt16.toUInt32.toInt32)), .val (.int ((((xc.toUInt32 >>> ((8 : Int32) &&& 31).toUInt32).toInt32) &&& (255 : Int32)).toUInt32.toUInt16.toUInt32.toInt32)), .val (.ref b1), .val (.ref b18), .val (.ref b54), .val (.ref b113), .val (.int (2 : Int32)), .val (.ref b54), .val (.ref b54), .val (.ref b54), .val (.ref b54)] [(.int (1 : Int32))]))
    refine Go.st (fun _ k' => XS.goto X300.here hx rfl (pc0 := 291) (pc' := 295) rfl (hb hby at_291) (by decide) (by decide) k') ?_
    show Go p e below s _ _ _ (T300.setTop (mkF m 295 #[.val (.int xa), .val (.int xb), .val (.int xc), .val (.int sel), .val (.int ((xa &&& (255 : Int32)).toUInt32.toUInt16.toUInt32.toInt32)), .val (.int ((((xa.toUInt32 >>> ((8 : Int32) &&& 31).toUInt32).toInt32) &&& (255 : Int32)).toUInt32.toUInt16.toUInt32.toInt32)), .val (.int ((xb &&& (255 : Int32)).toUInt32.toUInt16.toUInt32.toInt32)), .val (.int ((((xb.toUInt32 >>> ((8 : Int32) &&& 31).toUInt32).toInt32) &&& (255 : Int32)).toUInt32.toUInt16.toUInt32.toInt32)), .val (.int ((xc &&& (255 : Int32)).toUInt32.toUInt16.toUInt32.toInt32)), .val (.int ((((xc.toUInt32 >>> ((8 : Int32) &&& 31).toUInt32).toInt32) &&& (255 : Int32)).toUInt32.toUInt16.toUInt32.toInt32)), .val (.ref b1), .val (.ref b18), .val (.ref b54), .val (.ref b113), .val (.int (2 : Int32)), .val (.ref b54), .val (.ref b54), .val (.ref b54), .val (.ref b54)] [(.int (1 : Int32))]))
    refine Go.retB X300 hx hlk (t := .boolean) Bd.returns (by simp) (hb hby at_295) (by decide) (by decide) eq300 ?_
    exact ⟨rfl, N300, trivial⟩
  · rw [hi]
    show Go p e below s _ _ _ (T187.setTop (mkF m 159 #[.val (.int xa), .val (.int xb), .val (.int xc), .val (.int sel), .val (.int ((xa &&& (255 : Int32)).toUInt32.toUInt16.toUInt32.toInt32)), .val (.int ((((xa.toUInt32 >>> ((8 : Int32) &&& 31).toUInt32).toInt32) &&& (255 : Int32)).toUInt32.toUInt16.toUInt32.toInt32)), .val (.int ((xb &&& (255 : Int32)).toUInt32.toUInt16.toUInt32.toInt32)), .val (.int ((((xb.toUInt32 >>> ((8 : Int32) &&& 31).toUInt32).toInt32) &&& (255 : Int32)).toUInt32.toUInt16.toUInt32.toInt32)), .val (.int ((xc &&& (255 : Int32)).toUInt32.toUInt16.toUInt32.toInt32)), .val (.int ((((xc.toUInt32 >>> ((8 : Int32) &&& 31).toUInt32).toInt32) &&& (255 : Int32)).toUInt32.toUInt16.toUInt32.toInt32)), .val (.ref b1), .val (.ref b18), .val (.ref b54), .val (.ref b113), .val (.int (3 : Int32)), .unset, .unset, .unset, .unset] []))
    refine Go.st (fun _ k' => XS.aload X187.here hx rfl (hb hby at_159) rfl rfl k') ?_
    show Go p e below s _ _ _ (T187.setTop (mkF m 161 #[.val (.int xa), .val (.int xb), .val (.int xc), .val (.int sel), .val (.int ((xa &&& (255 : Int32)).toUInt32.toUInt16.toUInt32.toInt32)), .val (.int ((((xa.toUInt32 >>> ((8 : Int32) &&& 31).toUInt32).toInt32) &&& (255 : Int32)).toUInt32.toUInt16.toUInt32.toInt32)), .val (.int ((xb &&& (255 : Int32)).toUInt32.toUInt16.toUInt32.toInt32)), .val (.int ((((xb.toUInt32 >>> ((8 : Int32) &&& 31).toUInt32).toInt32) &&& (255 : Int32)).toUInt32.toUInt16.toUInt32.toInt32)), .val (.int ((xc &&& (255 : Int32)).toUInt32.toUInt16.toUInt32.toInt32)), .val (.int ((((xc.toUInt32 >>> ((8 : Int32) &&& 31).toUInt32).toInt32) &&& (255 : Int32)).toUInt32.toUInt16.toUInt32.toInt32)), .val (.ref b1), .val (.ref b18), .val (.ref b54), .val (.ref b113), .val (.int (3 : Int32)), .unset, .unset, .unset, .unset] [(.ref b1)]))
    refine Go.st (fun _ k' => XS.astore X187.here hx rfl (hb hby at_161) rfl rfl (l' := #[.val (.int xa), .val (.int xb), .val (.int xc), .val (.int sel), .val (.int ((xa &&& (255 : Int32)).toUInt32.toUInt16.toUInt32.toInt32)), .val (.int ((((xa.toUInt32 >>> ((8 : Int32) &&& 31).toUInt32).toInt32) &&& (255 : Int32)).toUInt32.toUInt16.toUInt32.toInt32)), .val (.int ((xb &&& (255 : Int32)).toUInt32.toUInt16.toUInt32.toInt32)), .val (.int ((((xb.toUInt32 >>> ((8 : Int32) &&& 31).toUInt32).toInt32) &&& (255 : Int32)).toUInt32.toUInt16.toUInt32.toInt32)), .val (.int ((xc &&& (255 : Int32)).toUInt32.toUInt16.toUInt32.toInt32)), .val (.int ((((xc.toUInt32 >>> ((8 : Int32) &&& 31).toUInt32).toInt32) &&& (255 : Int32)).toUInt32.toUInt16.toUInt32.toInt32)), .val (.ref b1), .val (.ref b18), .val (.ref b54), .val (.ref b113), .val (.int (3 : Int32)), .val (.ref b1), .unset, .unset, .unset]) rfl k') ?_
    show Go p e below s _ _ _ (T187.setTop (mkF m 163 #[.val (.int xa), .val (.int xb), .val (.int xc), .val (.int sel), .val (.int ((xa &&& (255 : Int32)).toUInt32.toUInt16.toUInt32.toInt32)), .val (.int ((((xa.toUInt32 >>> ((8 : Int32) &&& 31).toUInt32).toInt32) &&& (255 : Int32)).toUInt32.toUInt16.toUInt32.toInt32)), .val (.int ((xb &&& (255 : Int32)).toUInt32.toUInt16.toUInt32.toInt32)), .val (.int ((((xb.toUInt32 >>> ((8 : Int32) &&& 31).toUInt32).toInt32) &&& (255 : Int32)).toUInt32.toUInt16.toUInt32.toInt32)), .val (.int ((xc &&& (255 : Int32)).toUInt32.toUInt16.toUInt32.toInt32)), .val (.int ((((xc.toUInt32 >>> ((8 : Int32) &&& 31).toUInt32).toInt32) &&& (255 : Int32)).toUInt32.toUInt16.toUInt32.toInt32)), .val (.ref b1), .val (.ref b18), .val (.ref b54), .val (.ref b113), .val (.int (3 : Int32)), .val (.ref b1), .unset, .unset, .unset] []))
    refine Go.st (fun _ k' => XS.iload X187.here hx rfl (hb hby at_163) rfl k') ?_
    show Go p e below s _ _ _ (T187.setTop (mkF m 165 #[.val (.int xa), .val (.int xb), .val (.int xc), .val (.int sel), .val (.int ((xa &&& (255 : Int32)).toUInt32.toUInt16.toUInt32.toInt32)), .val (.int ((((xa.toUInt32 >>> ((8 : Int32) &&& 31).toUInt32).toInt32) &&& (255 : Int32)).toUInt32.toUInt16.toUInt32.toInt32)), .val (.int ((xb &&& (255 : Int32)).toUInt32.toUInt16.toUInt32.toInt32)), .val (.int ((((xb.toUInt32 >>> ((8 : Int32) &&& 31).toUInt32).toInt32) &&& (255 : Int32)).toUInt32.toUInt16.toUInt32.toInt32)), .val (.int ((xc &&& (255 : Int32)).toUInt32.toUInt16.toUInt32.toInt32)), .val (.int ((((xc.toUInt32 >>> ((8 : Int32) &&& 31).toUInt32).toInt32) &&& (255 : Int32)).toUInt32.toUInt16.toUInt32.toInt32)), .val (.ref b1), .val (.ref b18), .val (.ref b54), .val (.ref b113), .val (.int (3 : Int32)), .val (.ref b1), .unset, .unset, .unset] [(.int (3 : Int32))]))
    refine Go.st (fun _ k' => XS.iconst X187.here hx rfl (hb hby at_165) k') ?_
    show Go p e below s _ _ _ (T187.setTop (mkF m 166 #[.val (.int xa), .val (.int xb), .val (.int xc), .val (.int sel), .val (.int ((xa &&& (255 : Int32)).toUInt32.toUInt16.toUInt32.toInt32)), .val (.int ((((xa.toUInt32 >>> ((8 : Int32) &&& 31).toUInt32).toInt32) &&& (255 : Int32)).toUInt32.toUInt16.toUInt32.toInt32)), .val (.int ((xb &&& (255 : Int32)).toUInt32.toUInt16.toUInt32.toInt32)), .val (.int ((((xb.toUInt32 >>> ((8 : Int32) &&& 31).toUInt32).toInt32) &&& (255 : Int32)).toUInt32.toUInt16.toUInt32.toInt32)), .val (.int ((xc &&& (255 : Int32)).toUInt32.toUInt16.toUInt32.toInt32)), .val (.int ((((xc.toUInt32 >>> ((8 : Int32) &&& 31).toUInt32).toInt32) &&& (255 : Int32)).toUInt32.toUInt16.toUInt32.toInt32)), .val (.ref b1), .val (.ref b18), .val (.ref b54), .val (.ref b113), .val (.int (3 : Int32)), .val (.ref b1), .unset, .unset, .unset] [(.int (1 : Int32)), (.int (3 : Int32))]))
    refine Go.st (fun _ k' => XS.icmpYes X187.here hx rfl (pc0 := 166) (pc' := 173) rfl (hb hby at_166) rfl (XT.ii_ne_t (by decide)) (by decide) (by decide) k') ?_
    show Go p e below s _ _ _ (T187.setTop (mkF m 173 #[.val (.int xa), .val (.int xb), .val (.int xc), .val (.int sel), .val (.int ((xa &&& (255 : Int32)).toUInt32.toUInt16.toUInt32.toInt32)), .val (.int ((((xa.toUInt32 >>> ((8 : Int32) &&& 31).toUInt32).toInt32) &&& (255 : Int32)).toUInt32.toUInt16.toUInt32.toInt32)), .val (.int ((xb &&& (255 : Int32)).toUInt32.toUInt16.toUInt32.toInt32)), .val (.int ((((xb.toUInt32 >>> ((8 : Int32) &&& 31).toUInt32).toInt32) &&& (255 : Int32)).toUInt32.toUInt16.toUInt32.toInt32)), .val (.int ((xc &&& (255 : Int32)).toUInt32.toUInt16.toUInt32.toInt32)), .val (.int ((((xc.toUInt32 >>> ((8 : Int32) &&& 31).toUInt32).toInt32) &&& (255 : Int32)).toUInt32.toUInt16.toUInt32.toInt32)), .val (.ref b1), .val (.ref b18), .val (.ref b54), .val (.ref b113), .val (.int (3 : Int32)), .val (.ref b1), .unset, .unset, .unset] []))
    refine Go.st (fun _ k' => XS.iload X187.here hx rfl (hb hby at_173) rfl k') ?_
    show Go p e below s _ _ _ (T187.setTop (mkF m 175 #[.val (.int xa), .val (.int xb), .val (.int xc), .val (.int sel), .val (.int ((xa &&& (255 : Int32)).toUInt32.toUInt16.toUInt32.toInt32)), .val (.int ((((xa.toUInt32 >>> ((8 : Int32) &&& 31).toUInt32).toInt32) &&& (255 : Int32)).toUInt32.toUInt16.toUInt32.toInt32)), .val (.int ((xb &&& (255 : Int32)).toUInt32.toUInt16.toUInt32.toInt32)), .val (.int ((((xb.toUInt32 >>> ((8 : Int32) &&& 31).toUInt32).toInt32) &&& (255 : Int32)).toUInt32.toUInt16.toUInt32.toInt32)), .val (.int ((xc &&& (255 : Int32)).toUInt32.toUInt16.toUInt32.toInt32)), .val (.int ((((xc.toUInt32 >>> ((8 : Int32) &&& 31).toUInt32).toInt32) &&& (255 : Int32)).toUInt32.toUInt16.toUInt32.toInt32)), .val (.ref b1), .val (.ref b18), .val (.ref b54), .val (.ref b113), .val (.int (3 : Int32)), .val (.ref b1), .unset, .unset, .unset] [(.int (3 : Int32))]))
    refine Go.st (fun _ k' => XS.iconst X187.here hx rfl (hb hby at_175) k') ?_
    show Go p e below s _ _ _ (T187.setTop (mkF m 176 #[.val (.int xa), .val (.int xb), .val (.int xc), .val (.int sel), .val (.int ((xa &&& (255 : Int32)).toUInt32.toUInt16.toUInt32.toInt32)), .val (.int ((((xa.toUInt32 >>> ((8 : Int32) &&& 31).toUInt32).toInt32) &&& (255 : Int32)).toUInt32.toUInt16.toUInt32.toInt32)), .val (.int ((xb &&& (255 : Int32)).toUInt32.toUInt16.toUInt32.toInt32)), .val (.int ((((xb.toUInt32 >>> ((8 : Int32) &&& 31).toUInt32).toInt32) &&& (255 : Int32)).toUInt32.toUInt16.toUInt32.toInt32)), .val (.int ((xc &&& (255 : Int32)).toUInt32.toUInt16.toUInt32.toInt32)), .val (.int ((((xc.toUInt32 >>> ((8 : Int32) &&& 31).toUInt32).toInt32) &&& (255 : Int32)).toUInt32.toUInt16.toUInt32.toInt32)), .val (.ref b1), .val (.ref b18), .val (.ref b54), .val (.ref b113), .val (.int (3 : Int32)), .val (.ref b1), .unset, .unset, .unset] [(.int (2 : Int32)), (.int (3 : Int32))]))
    refine Go.st (fun _ k' => XS.icmpYes X187.here hx rfl (pc0 := 176) (pc' := 183) rfl (hb hby at_176) rfl (XT.ii_ne_t (by decide)) (by decide) (by decide) k') ?_
    show Go p e below s _ _ _ (T187.setTop (mkF m 183 #[.val (.int xa), .val (.int xb), .val (.int xc), .val (.int sel), .val (.int ((xa &&& (255 : Int32)).toUInt32.toUInt16.toUInt32.toInt32)), .val (.int ((((xa.toUInt32 >>> ((8 : Int32) &&& 31).toUInt32).toInt32) &&& (255 : Int32)).toUInt32.toUInt16.toUInt32.toInt32)), .val (.int ((xb &&& (255 : Int32)).toUInt32.toUInt16.toUInt32.toInt32)), .val (.int ((((xb.toUInt32 >>> ((8 : Int32) &&& 31).toUInt32).toInt32) &&& (255 : Int32)).toUInt32.toUInt16.toUInt32.toInt32)), .val (.int ((xc &&& (255 : Int32)).toUInt32.toUInt16.toUInt32.toInt32)), .val (.int ((((xc.toUInt32 >>> ((8 : Int32) &&& 31).toUInt32).toInt32) &&& (255 : Int32)).toUInt32.toUInt16.toUInt32.toInt32)), .val (.ref b1), .val (.ref b18), .val (.ref b54), .val (.ref b113), .val (.int (3 : Int32)), .val (.ref b1), .unset, .unset, .unset] []))
    refine Go.st (fun _ k' => XS.iload X187.here hx rfl (hb hby at_183) rfl k') ?_
    show Go p e below s _ _ _ (T187.setTop (mkF m 185 #[.val (.int xa), .val (.int xb), .val (.int xc), .val (.int sel), .val (.int ((xa &&& (255 : Int32)).toUInt32.toUInt16.toUInt32.toInt32)), .val (.int ((((xa.toUInt32 >>> ((8 : Int32) &&& 31).toUInt32).toInt32) &&& (255 : Int32)).toUInt32.toUInt16.toUInt32.toInt32)), .val (.int ((xb &&& (255 : Int32)).toUInt32.toUInt16.toUInt32.toInt32)), .val (.int ((((xb.toUInt32 >>> ((8 : Int32) &&& 31).toUInt32).toInt32) &&& (255 : Int32)).toUInt32.toUInt16.toUInt32.toInt32)), .val (.int ((xc &&& (255 : Int32)).toUInt32.toUInt16.toUInt32.toInt32)), .val (.int ((((xc.toUInt32 >>> ((8 : Int32) &&& 31).toUInt32).toInt32) &&& (255 : Int32)).toUInt32.toUInt16.toUInt32.toInt32)), .val (.ref b1), .val (.ref b18), .val (.ref b54), .val (.ref b113), .val (.int (3 : Int32)), .val (.ref b1), .unset, .unset, .unset] [(.int (3 : Int32))]))
    refine Go.st (fun _ k' => XS.iconst X187.here hx rfl (hb hby at_185) k') ?_
    show Go p e below s _ _ _ (T187.setTop (mkF m 186 #[.val (.int xa), .val (.int xb), .val (.int xc), .val (.int sel), .val (.int ((xa &&& (255 : Int32)).toUInt32.toUInt16.toUInt32.toInt32)), .val (.int ((((xa.toUInt32 >>> ((8 : Int32) &&& 31).toUInt32).toInt32) &&& (255 : Int32)).toUInt32.toUInt16.toUInt32.toInt32)), .val (.int ((xb &&& (255 : Int32)).toUInt32.toUInt16.toUInt32.toInt32)), .val (.int ((((xb.toUInt32 >>> ((8 : Int32) &&& 31).toUInt32).toInt32) &&& (255 : Int32)).toUInt32.toUInt16.toUInt32.toInt32)), .val (.int ((xc &&& (255 : Int32)).toUInt32.toUInt16.toUInt32.toInt32)), .val (.int ((((xc.toUInt32 >>> ((8 : Int32) &&& 31).toUInt32).toInt32) &&& (255 : Int32)).toUInt32.toUInt16.toUInt32.toInt32)), .val (.ref b1), .val (.ref b18), .val (.ref b54), .val (.ref b113), .val (.int (3 : Int32)), .val (.ref b1), .unset, .unset, .unset] [(.int (1 : Int32)), (.int (3 : Int32))]))
    refine Go.st (fun _ k' => XS.icmpNo X187.here hx rfl (hb hby at_186) rfl (XT.ii_lt_f (by decide)) k') ?_
    show Go p e below s _ _ _ (T187.setTop (mkF m 189 #[.val (.int xa), .val (.int xb), .val (.int xc), .val (.int sel), .val (.int ((xa &&& (255 : Int32)).toUInt32.toUInt16.toUInt32.toInt32)), .val (.int ((((xa.toUInt32 >>> ((8 : Int32) &&& 31).toUInt32).toInt32) &&& (255 : Int32)).toUInt32.toUInt16.toUInt32.toInt32)), .val (.int ((xb &&& (255 : Int32)).toUInt32.toUInt16.toUInt32.toInt32)), .val (.int ((((xb.toUInt32 >>> ((8 : Int32) &&& 31).toUInt32).toInt32) &&& (255 : Int32)).toUInt32.toUInt16.toUInt32.toInt32)), .val (.int ((xc &&& (255 : Int32)).toUInt32.toUInt16.toUInt32.toInt32)), .val (.int ((((xc.toUInt32 >>> ((8 : Int32) &&& 31).toUInt32).toInt32) &&& (255 : Int32)).toUInt32.toUInt16.toUInt32.toInt32)), .val (.ref b1), .val (.ref b18), .val (.ref b54), .val (.ref b113), .val (.int (3 : Int32)), .val (.ref b1), .unset, .unset, .unset] []))
    refine Go.st (fun _ k' => XS.aload X187.here hx rfl (hb hby at_189) rfl rfl k') ?_
    show Go p e below s _ _ _ (T187.setTop (mkF m 191 #[.val (.int xa), .val (.int xb), .val (.int xc), .val (.int sel), .val (.int ((xa &&& (255 : Int32)).toUInt32.toUInt16.toUInt32.toInt32)), .val (.int ((((xa.toUInt32 >>> ((8 : Int32) &&& 31).toUInt32).toInt32) &&& (255 : Int32)).toUInt32.toUInt16.toUInt32.toInt32)), .val (.int ((xb &&& (255 : Int32)).toUInt32.toUInt16.toUInt32.toInt32)), .val (.int ((((xb.toUInt32 >>> ((8 : Int32) &&& 31).toUInt32).toInt32) &&& (255 : Int32)).toUInt32.toUInt16.toUInt32.toInt32)), .val (.int ((xc &&& (255 : Int32)).toUInt32.toUInt16.toUInt32.toInt32)), .val (.int ((((xc.toUInt32 >>> ((8 : Int32) &&& 31).toUInt32).toInt32) &&& (255 : Int32)).toUInt32.toUInt16.toUInt32.toInt32)), .val (.ref b1), .val (.ref b18), .val (.ref b54), .val (.ref b113), .val (.int (3 : Int32)), .val (.ref b1), .unset, .unset, .unset] [(.ref b113)]))
    obtain ⟨cq301, kq301, q301a, q301b, q301c⟩ := isOf hZ rfl f197
    obtain ⟨_, _, ⟨T301, L301, k301, n301⟩, -, X301, ⟨Lc301, hQ301, l301, y301, z301⟩, st301⟩ := X187.virtualBack hx (y := (⟨"com/example/reportwire/reportwire/Arguments", "next", "()Ljava/lang/String;"⟩ : MethodName)) (z := (⟨"com/example/reportwire/reportwire/Arguments", "next", "()Ljava/lang/String;"⟩ : MethodName)) hown (mvT hZ (wdx hw 90 rfl)) (mvT hZ (wdx hw 91 rfl)) (notFace_of_selects (args := #[]) (mvT hZ (wdx hw 93 rfl))) (mvT hZ (wdx hw 93 rfl)) (mvT hZ (wdx hw 92 rfl)) (by decide) (backOf (W := 0) (rm13_3_0 l Z a0 hw [] b113 na_187 kn_187 b1 b18 b54 T187.heap n0 O187 f197 f188 f189 f190 g_b113 ne206) hZ (wdx hw 94 rfl) (wdx hw 32 rfl) (by decide) (by decide)) q301a q301c (g := (mkF m 191 #[.val (.int xa), .val (.int xb), .val (.int xc), .val (.int sel), .val (.int ((xa &&& (255 : Int32)).toUInt32.toUInt16.toUInt32.toInt32)), .val (.int ((((xa.toUInt32 >>> ((8 : Int32) &&& 31).toUInt32).toInt32) &&& (255 : Int32)).toUInt32.toUInt16.toUInt32.toInt32)), .val (.int ((xb &&& (255 : Int32)).toUInt32.toUInt16.toUInt32.toInt32)), .val (.int ((((xb.toUInt32 >>> ((8 : Int32) &&& 31).toUInt32).toInt32) &&& (255 : Int32)).toUInt32.toUInt16.toUInt32.toInt32)), .val (.int ((xc &&& (255 : Int32)).toUInt32.toUInt16.toUInt32.toInt32)), .val (.int ((((xc.toUInt32 >>> ((8 : Int32) &&& 31).toUInt32).toInt32) &&& (255 : Int32)).toUInt32.toUInt16.toUInt32.toInt32)), .val (.ref b1), .val (.ref b18), .val (.ref b54), .val (.ref b113), .val (.int (3 : Int32)), .val (.ref b1), .unset, .unset, .unset] [(.ref b113)])) rfl (by rw [hml]; rfl) (Steps.refl _) (argsL := []) (rest := []) (lenOf pd___Ljava_lang_String_ rfl) rfl (by show 2 * 0 + _ ≤ _; exact Nat.le_of_eq rfl) (hb hby at_191) (fun _ _ => ⟨rfl, rfl, (by exact Nat.le_of_ble_eq_true rfl), (by exact Nat.le_of_ble_eq_true rfl)⟩)
    dsimp only [Pt.U, Pt.locs, Pt.cells, Pt.slots] at X301 l301 y301 z301 st301 hQ301
    subst l301 y301 z301
    obtain ⟨rfl, Nq301, Kq301, f302, f303⟩ := hQ301
    have N301 := Fr.app N187 Nq301
    refine Go.tr st301 ?_
    have f304 : Exa Z T301.heap b1 "java/lang/String" := f191.keep Kq301
    have f305 : Arv Z T301.heap b4 k4 .char (1 : Int32) [(.int (nar .char ((xa &&& (255 : Int32)).toUInt32.toUInt16.toUInt32.toInt32)))] (.int (0 : Int32)) := f192.keep Kq301 (ninS ne115 nin0)
    have f306 : Exa Z T301.heap b18 "java/lang/String" := f193.keep Kq301
    have f307 : Arv Z T301.heap b25 k25 .char (2 : Int32) [(.int (nar .char ((((xa.toUInt32 >>> ((8 : Int32) &&& 31).toUInt32).toInt32) &&& (255 : Int32)).toUInt32.toUInt16.toUInt32.toInt32))), (.int (nar .char ((xb &&& (255 : Int32)).toUInt32.toUInt16.toUInt32.toInt32)))] (.int (0 : Int32)) := f194.keep Kq301 (ninS ne117 nin0)
    have f308 : Exa Z T301.heap b54 "java/lang/String" := f195.keep Kq301
    have f309 : Arv Z T301.heap b65 k65 .char (3 : Int32) [(.int (nar .char ((((xb.toUInt32 >>> ((8 : Int32) &&& 31).toUInt32).toInt32) &&& (255 : Int32)).toUInt32.toUInt16.toUInt32.toInt32))), (.int (nar .char ((xc &&& (255 : Int32)).toUInt32.toUInt16.toUInt32.toInt32))), (.int (nar .char ((((xc.toUInt32 >>> ((8 : Int32) &&& 31).toUInt32).toInt32) &&& (255 : Int32)).toUInt32.toUInt16.toUInt32.toInt32)))] (.int (0 : Int32)) := f196.keep Kq301 (ninS ne119 nin0)
    have f310 : Exa Z T301.heap b113 "com/example/reportwire/reportwire/Arguments" := f197.keep Kq301
    have f311 : Exa Z T301.heap b129 "[Ljava/lang/String;" := f198.keep Kq301
    have f312 : Arv Z T301.heap b129 k129 (.object "java/lang/String") (3 : Int32) [(.ref b1), (.ref b18), (.ref b54)] .null := f199.keep Kq301 (ninS (Ne.symm ne136) nin0)
    have f313 : Arv Z T301.heap na_187 kn_187 (.object "java/lang/String") (3 : Int32) [(.ref b1), (.ref b18), (.ref b54)] .null := f190.keep Kq301 (ninS (Ne.symm ne206) nin0)
    have O301 : Old Z n0 T301.heap := O187.keep Kq301 (allS g_b113 all0)
    show Go p e below s _ _ _ (T301.setTop (mkF m 194 #[.val (.int xa), .val (.int xb), .val (.int xc), .val (.int sel), .val (.int ((xa &&& (255 : Int32)).toUInt32.toUInt16.toUInt32.toInt32)), .val (.int ((((xa.toUInt32 >>> ((8 : Int32) &&& 31).toUInt32).toInt32) &&& (255 : Int32)).toUInt32.toUInt16.toUInt32.toInt32)), .val (.int ((xb &&& (255 : Int32)).toUInt32.toUInt16.toUInt32.toInt32)), .val (.int ((((xb.toUInt32 >>> ((8 : Int32) &&& 31).toUInt32).toInt32) &&& (255 : Int32)).toUInt32.toUInt16.toUInt32.toInt32)), .val (.int ((xc &&& (255 : Int32)).toUInt32.toUInt16.toUInt32.toInt32)), .val (.int ((((xc.toUInt32 >>> ((8 : Int32) &&& 31).toUInt32).toInt32) &&& (255 : Int32)).toUInt32.toUInt16.toUInt32.toInt32)), .val (.ref b1), .val (.ref b18), .val (.ref b54), .val (.ref b113), .val (.int (3 : Int32)), .val (.ref b1), .unset, .unset, .unset] [(.ref b1)]))
    refine Go.st (fun _ k' => XS.pop X301.here hx rfl (hb hby at_194) rfl rfl k') ?_
    show Go p e below s _ _ _ (T301.setTop (mkF m 195 #[.val (.int xa), .val (.int xb), .val (.int xc), .val (.int sel), .val (.int ((xa &&& (255 : Int32)).toUInt32.toUInt16.toUInt32.toInt32)), .val (.int ((((xa.toUInt32 >>> ((8 : Int32) &&& 31).toUInt32).toInt32) &&& (255 : Int32)).toUInt32.toUInt16.toUInt32.toInt32)), .val (.int ((xb &&& (255 : Int32)).toUInt32.toUInt16.toUInt32.toInt32)), .val (.int ((((xb.toUInt32 >>> ((8 : Int32) &&& 31).toUInt32).toInt32) &&& (255 : Int32)).toUInt32.toUInt16.toUInt32.toInt32)), .val (.int ((xc &&& (255 : Int32)).toUInt32.toUInt16.toUInt32.toInt32)), .val (.int ((((xc.toUInt32 >>> ((8 : Int32) &&& 31).toUInt32).toInt32) &&& (255 : Int32)).toUInt32.toUInt16.toUInt32.toInt32)), .val (.ref b1), .val (.ref b18), .val (.ref b54), .val (.ref b113), .val (.int (3 : Int32)), .val (.ref b1), .unset, .unset, .unset] []))
    refine Go.st (fun _ k' => XS.iload X301.here hx rfl (hb hby at_195) rfl k') ?_
    show Go p e below s _ _ _ (T301.setTop (mkF m 197 #[.val (.int xa), .val (.int xb), .val (.int xc), .val (.int sel), .val (.int ((xa &&& (255 : Int32)).toUInt32.toUInt16.toUInt32.toInt32)), .val (.int ((((xa.toUInt32 >>> ((8 : Int32) &&& 31).toUInt32).toInt32) &&& (255 : Int32)).toUInt32.toUInt16.toUInt32.toInt32)), .val (.int ((xb &&& (255 : Int32)).toUInt32.toUInt16.toUInt32.toInt32)), .val (.int ((((xb.toUInt32 >>> ((8 : Int32) &&& 31).toUInt32).toInt32) &&& (255 : Int32)).toUInt32.toUInt16.toUInt32.toInt32)), .val (.int ((xc &&& (255 : Int32)).toUInt32.toUInt16.toUInt32.toInt32)), .val (.int ((((xc.toUInt32 >>> ((8 : Int32) &&& 31).toUInt32).toInt32) &&& (255 : Int32)).toUInt32.toUInt16.toUInt32.toInt32)), .val (.ref b1), .val (.ref b18), .val (.ref b54), .val (.ref b113), .val (.int (3 : Int32)), .val (.ref b1), .unset, .unset, .unset] [(.int (3 : Int32))]))
    refine Go.st (fun _ k' => XS.iconst X301.here hx rfl (hb hby at_197) k') ?_
    show Go p e below s _ _ _ (T301.setTop (mkF m 198 #[.val (.int xa), .val (.int xb), .val (.int xc), .val (.int sel), .val (.int ((xa &&& (255 : Int32)).toUInt32.toUInt16.toUInt32.toInt32)), .val (.int ((((xa.toUInt32 >>> ((8 : Int32) &&& 31).toUInt32).toInt32) &&& (255 : Int32)).toUInt32.toUInt16.toUInt32.toInt32)), .val (.int ((xb &&& (255 : Int32)).toUInt32.toUInt16.toUInt32.toInt32)), .val (.int ((((xb.toUInt32 >>> ((8 : Int32) &&& 31).toUInt32).toInt32) &&& (255 : Int32)).toUInt32.toUInt16.toUInt32.toInt32)), .val (.int ((xc &&& (255 : Int32)).toUInt32.toUInt16.toUInt32.toInt32)), .val (.int ((((xc.toUInt32 >>> ((8 : Int32) &&& 31).toUInt32).toInt32) &&& (255 : Int32)).toUInt32.toUInt16.toUInt32.toInt32)), .val (.ref b1), .val (.ref b18), .val (.ref b54), .val (.ref b113), .val (.int (3 : Int32)), .val (.ref b1), .unset, .unset, .unset] [(.int (2 : Int32)), (.int (3 : Int32))]))
    refine Go.st (fun _ k' => XS.icmpNo X301.here hx rfl (hb hby at_198) rfl (XT.ii_lt_f (by decide)) k') ?_
    show Go p e below s _ _ _ (T301.setTop (mkF m 201 #[.val (.int xa), .val (.int xb), .val (.int xc), .val (.int sel), .val (.int ((xa &&& (255 : Int32)).toUInt32.toUInt16.toUInt32.toInt32)), .val (.int ((((xa.toUInt32 >>> ((8 : Int32) &&& 31).toUInt32).toInt32) &&& (255 : Int32)).toUInt32.toUInt16.toUInt32.toInt32)), .val (.int ((xb &&& (255 : Int32)).toUInt32.toUInt16.toUInt32.toInt32)), .val (.int ((((xb.toUInt32 >>> ((8 : Int32) &&& 31).toUInt32).toInt32) &&& (255 : Int32)).toUInt32.toUInt16.toUInt32.toInt32)), .val (.int ((xc &&& (255 : Int32)).toUInt32.toUInt16.toUInt32.toInt32)), .val (.int ((((xc.toUInt32 >>> ((8 : Int32) &&& 31).toUInt32).toInt32) &&& (255 : Int32)).toUInt32.toUInt16.toUInt32.toInt32)), .val (.ref b1), .val (.ref b18), .val (.ref b54), .val (.ref b113), .val (.int (3 : Int32)), .val (.ref b1), .unset, .unset, .unset] []))
    refine Go.st (fun _ k' => XS.aload X301.here hx rfl (hb hby at_201) rfl rfl k') ?_
    show Go p e below s _ _ _ (T301.setTop (mkF m 203 #[.val (.int xa), .val (.int xb), .val (.int xc), .val (.int sel), .val (.int ((xa &&& (255 : Int32)).toUInt32.toUInt16.toUInt32.toInt32)), .val (.int ((((xa.toUInt32 >>> ((8 : Int32) &&& 31).toUInt32).toInt32) &&& (255 : Int32)).toUInt32.toUInt16.toUInt32.toInt32)), .val (.int ((xb &&& (255 : Int32)).toUInt32.toUInt16.toUInt32.toInt32)), .val (.int ((((xb.toUInt32 >>> ((8 : Int32) &&& 31).toUInt32).toInt32) &&& (255 : Int32)).toUInt32.toUInt16.toUInt32.toInt32)), .val (.int ((xc &&& (255 : Int32)).toUInt32.toUInt16.toUInt32.toInt32)), .val (.int ((((xc.toUInt32 >>> ((8 : Int32) &&& 31).toUInt32).toInt32) &&& (255 : Int32)).toUInt32.toUInt16.toUInt32.toInt32)), .val (.ref b1), .val (.ref b18), .val (.ref b54), .val (.ref b113), .val (.int (3 : Int32)), .val (.ref b1), .unset, .unset, .unset] [(.ref b113)]))
    obtain ⟨cq314, kq314, q314a, q314b, q314c⟩ := isOf hZ rfl f310
    obtain ⟨_, _, ⟨T314, L314, k314, n314⟩, -, X314, ⟨Lc314, hQ314, l314, y314, z314⟩, st314⟩ := X301.virtualBack hx (y := (⟨"com/example/reportwire/reportwire/Arguments", "next", "()Ljava/lang/String;"⟩ : MethodName)) (z := (⟨"com/example/reportwire/reportwire/Arguments", "next", "()Ljava/lang/String;"⟩ : MethodName)) hown (mvT hZ (wdx hw 90 rfl)) (mvT hZ (wdx hw 91 rfl)) (notFace_of_selects (args := #[]) (mvT hZ (wdx hw 93 rfl))) (mvT hZ (wdx hw 93 rfl)) (mvT hZ (wdx hw 92 rfl)) (by decide) (backOf (W := 0) (rm13_3_1 l Z a0 hw [] b113 na_187 kn_187 b1 b18 b54 T301.heap n0 O301 f310 f302 f303 f313 g_b113 ne206) hZ (wdx hw 94 rfl) (wdx hw 32 rfl) (by decide) (by decide)) q314a q314c (g := (mkF m 203 #[.val (.int xa), .val (.int xb), .val (.int xc), .val (.int sel), .val (.int ((xa &&& (255 : Int32)).toUInt32.toUInt16.toUInt32.toInt32)), .val (.int ((((xa.toUInt32 >>> ((8 : Int32) &&& 31).toUInt32).toInt32) &&& (255 : Int32)).toUInt32.toUInt16.toUInt32.toInt32)), .val (.int ((xb &&& (255 : Int32)).toUInt32.toUInt16.toUInt32.toInt32)), .val (.int ((((xb.toUInt32 >>> ((8 : Int32) &&& 31).toUInt32).toInt32) &&& (255 : Int32)).toUInt32.toUInt16.toUInt32.toInt32)), .val (.int ((xc &&& (255 : Int32)).toUInt32.toUInt16.toUInt32.toInt32)), .val (.int ((((xc.toUInt32 >>> ((8 : Int32) &&& 31).toUInt32).toInt32) &&& (255 : Int32)).toUInt32.toUInt16.toUInt32.toInt32)), .val (.ref b1), .val (.ref b18), .val (.ref b54), .val (.ref b113), .val (.int (3 : Int32)), .val (.ref b1), .unset, .unset, .unset] [(.ref b113)])) rfl (by rw [hml]; rfl) (Steps.refl _) (argsL := []) (rest := []) (lenOf pd___Ljava_lang_String_ rfl) rfl (by show 2 * 0 + _ ≤ _; exact Nat.le_of_eq rfl) (hb hby at_203) (fun _ _ => ⟨rfl, rfl, (by exact Nat.le_of_ble_eq_true rfl), (by exact Nat.le_of_ble_eq_true rfl)⟩)
    dsimp only [Pt.U, Pt.locs, Pt.cells, Pt.slots] at X314 l314 y314 z314 st314 hQ314
    subst l314 y314 z314
    obtain ⟨rfl, Nq314, Kq314, f315, f316⟩ := hQ314
    have N314 := Fr.app N301 Nq314
    refine Go.tr st314 ?_
    have f317 : Exa Z T314.heap b1 "java/lang/String" := f304.keep Kq314
    have f318 : Arv Z T314.heap b4 k4 .char (1 : Int32) [(.int (nar .char ((xa &&& (255 : Int32)).toUInt32.toUInt16.toUInt32.toInt32)))] (.int (0 : Int32)) := f305.keep Kq314 (ninS ne115 nin0)
    have f319 : Exa Z T314.heap b18 "java/lang/String" := f306.keep Kq314
    have f320 : Arv Z T314.heap b25 k25 .char (2 : Int32) [(.int (nar .char ((((xa.toUInt32 >>> ((8 : Int32) &&& 31).toUInt32).toInt32) &&& (255 : Int32)).toUInt32.toUInt16.toUInt32.toInt32))), (.int (nar .char ((xb &&& (255 : Int32)).toUInt32.toUInt16.toUInt32.toInt32)))] (.int (0 : Int32)) := f307.keep Kq314 (ninS ne117 nin0)
    have f321 : Exa Z T314.heap b54 "java/lang/String" := f308.keep Kq314
    have f322 : Arv Z T314.heap b65 k65 .char (3 : Int32) [(.int (nar .char ((((xb.toUInt32 >>> ((8 : Int32) &&& 31).toUInt32).toInt32) &&& (255 : Int32)).toUInt32.toUInt16.toUInt32.toInt32))), (.int (nar .char ((xc &&& (255 : Int32)).toUInt32.toUInt16.toUInt32.toInt32))), (.int (nar .char ((((xc.toUInt32 >>> ((8 : Int32) &&& 31).toUInt32).toInt32) &&& (255 : Int32)).toUInt32.toUInt16.toUInt32.toInt32)))] (.int (0 : Int32)) := f309.keep Kq314 (ninS ne119 nin0)
    have f323 : Exa Z T314.heap b113 "com/example/reportwire/reportwire/Arguments" := f310.keep Kq314
    have f324 : Exa Z T314.heap b129 "[Ljava/lang/String;" := f311.keep Kq314
    have f325 : Arv Z T314.heap b129 k129 (.object "java/lang/String") (3 : Int32) [(.ref b1), (.ref b18), (.ref b54)] .null := f312.keep Kq314 (ninS (Ne.symm ne136) nin0)
    have f326 : Arv Z T314.heap na_187 kn_187 (.object "java/lang/String") (3 : Int32) [(.ref b1), (.ref b18), (.ref b54)] .null := f313.keep Kq314 (ninS (Ne.symm ne206) nin0)
    have O314 : Old Z n0 T314.heap := O301.keep Kq314 (allS g_b113 all0)
    show Go p e below s _ _ _ (T314.setTop (mkF m 206 #[.val (.int xa), .val (.int xb), .val (.int xc), .val (.int sel), .val (.int ((xa &&& (255 : Int32)).toUInt32.toUInt16.toUInt32.toInt32)), .val (.int ((((xa.toUInt32 >>> ((8 : Int32) &&& 31).toUInt32).toInt32) &&& (255 : Int32)).toUInt32.toUInt16.toUInt32.toInt32)), .val (.int ((xb &&& (255 : Int32)).toUInt32.toUInt16.toUInt32.toInt32)), .val (.int ((((xb.toUInt32 >>> ((8 : Int32) &&& 31).toUInt32).toInt32) &&& (255 : Int32)).toUInt32.toUInt16.toUInt32.toInt32)), .val (.int ((xc &&& (255 : Int32)).toUInt32.toUInt16.toUInt32.toInt32)), .val (.int ((((xc.toUInt32 >>> ((8 : Int32) &&& 31).toUInt32).toInt32) &&& (255 : Int32)).toUInt32.toUInt16.toUInt32.toInt32)), .val (.ref b1), .val (.ref b18), .val (.ref b54), .val (.ref b113), .val (.int (3 : Int32)), .val (.ref b1), .unset, .unset, .unset] [(.ref b18)]))
    refine Go.st (fun _ k' => XS.pop X314.here hx rfl (hb hby at_206) rfl rfl k') ?_
    show Go p e below s _ _ _ (T314.setTop (mkF m 207 #[.val (.int xa), .val (.int xb), .val (.int xc), .val (.int sel), .val (.int ((xa &&& (255 : Int32)).toUInt32.toUInt16.toUInt32.toInt32)), .val (.int ((((xa.toUInt32 >>> ((8 : Int32) &&& 31).toUInt32).toInt32) &&& (255 : Int32)).toUInt32.toUInt16.toUInt32.toInt32)), .val (.int ((xb &&& (255 : Int32)).toUInt32.toUInt16.toUInt32.toInt32)), .val (.int ((((xb.toUInt32 >>> ((8 : Int32) &&& 31).toUInt32).toInt32) &&& (255 : Int32)).toUInt32.toUInt16.toUInt32.toInt32)), .val (.int ((xc &&& (255 : Int32)).toUInt32.toUInt16.toUInt32.toInt32)), .val (.int ((((xc.toUInt32 >>> ((8 : Int32) &&& 31).toUInt32).toInt32) &&& (255 : Int32)).toUInt32.toUInt16.toUInt32.toInt32)), .val (.ref b1), .val (.ref b18), .val (.ref b54), .val (.ref b113), .val (.int (3 : Int32)), .val (.ref b1), .unset, .unset, .unset] []))
    refine Go.st (fun _ k' => XS.iload X314.here hx rfl (hb hby at_207) rfl k') ?_
    show Go p e below s _ _ _ (T314.setTop (mkF m 209 #[.val (.int xa), .val (.int xb), .val (.int xc), .val (.int sel), .val (.int ((xa &&& (255 : Int32)).toUInt32.toUInt16.toUInt32.toInt32)), .val (.int ((((xa.toUInt32 >>> ((8 : Int32) &&& 31).toUInt32).toInt32) &&& (255 : Int32)).toUInt32.toUInt16.toUInt32.toInt32)), .val (.int ((xb &&& (255 : Int32)).toUInt32.toUInt16.toUInt32.toInt32)), .val (.int ((((xb.toUInt32 >>> ((8 : Int32) &&& 31).toUInt32).toInt32) &&& (255 : Int32)).toUInt32.toUInt16.toUInt32.toInt32)), .val (.int ((xc &&& (255 : Int32)).toUInt32.toUInt16.toUInt32.toInt32)), .val (.int ((((xc.toUInt32 >>> ((8 : Int32) &&& 31).toUInt32).toInt32) &&& (255 : Int32)).toUInt32.toUInt16.toUInt32.toInt32)), .val (.ref b1), .val (.ref b18), .val (.ref b54), .val (.ref b113), .val (.int (3 : Int32)), .val (.ref b1), .unset, .unset, .unset] [(.int (3 : Int32))]))
    refine Go.st (fun _ k' => XS.iconst X314.here hx rfl (hb hby at_209) k') ?_
    show Go p e below s _ _ _ (T314.setTop (mkF m 210 #[.val (.int xa), .val (.int xb), .val (.int xc), .val (.int sel), .val (.int ((xa &&& (255 : Int32)).toUInt32.toUInt16.toUInt32.toInt32)), .val (.int ((((xa.toUInt32 >>> ((8 : Int32) &&& 31).toUInt32).toInt32) &&& (255 : Int32)).toUInt32.toUInt16.toUInt32.toInt32)), .val (.int ((xb &&& (255 : Int32)).toUInt32.toUInt16.toUInt32.toInt32)), .val (.int ((((xb.toUInt32 >>> ((8 : Int32) &&& 31).toUInt32).toInt32) &&& (255 : Int32)).toUInt32.toUInt16.toUInt32.toInt32)), .val (.int ((xc &&& (255 : Int32)).toUInt32.toUInt16.toUInt32.toInt32)), .val (.int ((((xc.toUInt32 >>> ((8 : Int32) &&& 31).toUInt32).toInt32) &&& (255 : Int32)).toUInt32.toUInt16.toUInt32.toInt32)), .val (.ref b1), .val (.ref b18), .val (.ref b54), .val (.ref b113), .val (.int (3 : Int32)), .val (.ref b1), .unset, .unset, .unset] [(.int (3 : Int32)), (.int (3 : Int32))]))
    refine Go.st (fun _ k' => XS.icmpNo X314.here hx rfl (hb hby at_210) rfl (XT.ii_lt_f (by decide)) k') ?_
    show Go p e below s _ _ _ (T314.setTop (mkF m 213 #[.val (.int xa), .val (.int xb), .val (.int xc), .val (.int sel), .val (.int ((xa &&& (255 : Int32)).toUInt32.toUInt16.toUInt32.toInt32)), .val (.int ((((xa.toUInt32 >>> ((8 : Int32) &&& 31).toUInt32).toInt32) &&& (255 : Int32)).toUInt32.toUInt16.toUInt32.toInt32)), .val (.int ((xb &&& (255 : Int32)).toUInt32.toUInt16.toUInt32.toInt32)), .val (.int ((((xb.toUInt32 >>> ((8 : Int32) &&& 31).toUInt32).toInt32) &&& (255 : Int32)).toUInt32.toUInt16.toUInt32.toInt32)), .val (.int ((xc &&& (255 : Int32)).toUInt32.toUInt16.toUInt32.toInt32)), .val (.int ((((xc.toUInt32 >>> ((8 : Int32) &&& 31).toUInt32).toInt32) &&& (255 : Int32)).toUInt32.toUInt16.toUInt32.toInt32)), .val (.ref b1), .val (.ref b18), .val (.ref b54), .val (.ref b113), .val (.int (3 : Int32)), .val (.ref b1), .unset, .unset, .unset] []))
    refine Go.st (fun _ k' => XS.aload X314.here hx rfl (hb hby at_213) rfl rfl k') ?_
    show Go p e below s _ _ _ (T314.setTop (mkF m 215 #[.val (.int xa), .val (.int xb), .val (.int xc), .val (.int sel), .val (.int ((xa &&& (255 : Int32)).toUInt32.toUInt16.toUInt32.toInt32)), .val (.int ((((xa.toUInt32 >>> ((8 : Int32) &&& 31).toUInt32).toInt32) &&& (255 : Int32)).toUInt32.toUInt16.toUInt32.toInt32)), .val (.int ((xb &&& (255 : Int32)).toUInt32.toUInt16.toUInt32.toInt32)), .val (.int ((((xb.toUInt32 >>> ((8 : Int32) &&& 31).toUInt32).toInt32) &&& (255 : Int32)).toUInt32.toUInt16.toUInt32.toInt32)), .val (.int ((xc &&& (255 : Int32)).toUInt32.toUInt16.toUInt32.toInt32)), .val (.int ((((xc.toUInt32 >>> ((8 : Int32) &&& 31).toUInt32).toInt32) &&& (255 : Int32)).toUInt32.toUInt16.toUInt32.toInt32)), .val (.ref b1), .val (.ref b18), .val (.ref b54), .val (.ref b113), .val (.int (3 : Int32)), .val (.ref b1), .unset, .unset, .unset] [(.ref b113)]))
    obtain ⟨cq327, kq327, q327a, q327b, q327c⟩ := isOf hZ rfl f323
    obtain ⟨_, _, ⟨T327, L327, k327, n327⟩, -, X327, ⟨Lc327, hQ327, l327, y327, z327⟩, st327⟩ := X314.virtualBack hx (y := (⟨"com/example/reportwire/reportwire/Arguments", "next", "()Ljava/lang/String;"⟩ : MethodName)) (z := (⟨"com/example/reportwire/reportwire/Arguments", "next", "()Ljava/lang/String;"⟩ : MethodName)) hown (mvT hZ (wdx hw 90 rfl)) (mvT hZ (wdx hw 91 rfl)) (notFace_of_selects (args := #[]) (mvT hZ (wdx hw 93 rfl))) (mvT hZ (wdx hw 93 rfl)) (mvT hZ (wdx hw 92 rfl)) (by decide) (backOf (W := 0) (rm13_3_2 l Z a0 hw [] b113 na_187 kn_187 b1 b18 b54 T314.heap n0 O314 f323 f315 f316 f326 g_b113 ne206) hZ (wdx hw 94 rfl) (wdx hw 32 rfl) (by decide) (by decide)) q327a q327c (g := (mkF m 215 #[.val (.int xa), .val (.int xb), .val (.int xc), .val (.int sel), .val (.int ((xa &&& (255 : Int32)).toUInt32.toUInt16.toUInt32.toInt32)), .val (.int ((((xa.toUInt32 >>> ((8 : Int32) &&& 31).toUInt32).toInt32) &&& (255 : Int32)).toUInt32.toUInt16.toUInt32.toInt32)), .val (.int ((xb &&& (255 : Int32)).toUInt32.toUInt16.toUInt32.toInt32)), .val (.int ((((xb.toUInt32 >>> ((8 : Int32) &&& 31).toUInt32).toInt32) &&& (255 : Int32)).toUInt32.toUInt16.toUInt32.toInt32)), .val (.int ((xc &&& (255 : Int32)).toUInt32.toUInt16.toUInt32.toInt32)), .val (.int ((((xc.toUInt32 >>> ((8 : Int32) &&& 31).toUInt32).toInt32) &&& (255 : Int32)).toUInt32.toUInt16.toUInt32.toInt32)), .val (.ref b1), .val (.ref b18), .val (.ref b54), .val (.ref b113), .val (.int (3 : Int32)), .val (.ref b1), .unset, .unset, .unset] [(.ref b113)])) rfl (by rw [hml]; rfl) (Steps.refl _) (argsL := []) (rest := []) (lenOf pd___Ljava_lang_String_ rfl) rfl (by show 2 * 0 + _ ≤ _; exact Nat.le_of_eq rfl) (hb hby at_215) (fun _ _ => ⟨rfl, rfl, (by exact Nat.le_of_ble_eq_true rfl), (by exact Nat.le_of_ble_eq_true rfl)⟩)
    dsimp only [Pt.U, Pt.locs, Pt.cells, Pt.slots] at X327 l327 y327 z327 st327 hQ327
    subst l327 y327 z327
    obtain ⟨rfl, Nq327, Kq327, f328, f329⟩ := hQ327
    have N327 := Fr.app N314 Nq327
    refine Go.tr st327 ?_
    have f330 : Exa Z T327.heap b1 "java/lang/String" := f317.keep Kq327
    have f331 : Arv Z T327.heap b4 k4 .char (1 : Int32) [(.int (nar .char ((xa &&& (255 : Int32)).toUInt32.toUInt16.toUInt32.toInt32)))] (.int (0 : Int32)) := f318.keep Kq327 (ninS ne115 nin0)
    have f332 : Exa Z T327.heap b18 "java/lang/String" := f319.keep Kq327
    have f333 : Arv Z T327.heap b25 k25 .char (2 : Int32) [(.int (nar .char ((((xa.toUInt32 >>> ((8 : Int32) &&& 31).toUInt32).toInt32) &&& (255 : Int32)).toUInt32.toUInt16.toUInt32.toInt32))), (.int (nar .char ((xb &&& (255 : Int32)).toUInt32.toUInt16.toUInt32.toInt32)))] (.int (0 : Int32)) := f320.keep Kq327 (ninS ne117 nin0)
    have f334 : Exa Z T327.heap b54 "java/lang/String" := f321.keep Kq327
    have f335 : Arv Z T327.heap b65 k65 .char (3 : Int32) [(.int (nar .char ((((xb.toUInt32 >>> ((8 : Int32) &&& 31).toUInt32).toInt32) &&& (255 : Int32)).toUInt32.toUInt16.toUInt32.toInt32))), (.int (nar .char ((xc &&& (255 : Int32)).toUInt32.toUInt16.toUInt32.toInt32))), (.int (nar .char ((((xc.toUInt32 >>> ((8 : Int32) &&& 31).toUInt32).toInt32) &&& (255 : Int32)).toUInt32.toUInt16.toUInt32.toInt32)))] (.int (0 : Int32)) := f322.keep Kq327 (ninS ne119 nin0)
    have f336 : Exa Z T327.heap b113 "com/example/reportwire/reportwire/Arguments" := f323.keep Kq327
    have f337 : Exa Z T327.heap b129 "[Ljava/lang/String;" := f324.keep Kq327
    have f338 : Arv Z T327.heap b129 k129 (.object "java/lang/String") (3 : Int32) [(.ref b1), (.ref b18), (.ref b54)] .null := f325.keep Kq327 (ninS (Ne.symm ne136) nin0)
    have f339 : Arv Z T327.heap na_187 kn_187 (.object "java/lang/String") (3 : Int32) [(.ref b1), (.ref b18), (.ref b54)] .null := f326.keep Kq327 (ninS (Ne.symm ne206) nin0)
    have O327 : Old Z n0 T327.heap := O314.keep Kq327 (allS g_b113 all0)
    show Go p e below s _ _ _ (T327.setTop (mkF m 218 #[.val (.int xa), .val (.int xb), .val (.int xc), .val (.int sel), .val (.int ((xa &&& (255 : Int32)).toUInt32.toUInt16.toUInt32.toInt32)), .val (.int ((((xa.toUInt32 >>> ((8 : Int32) &&& 31).toUInt32).toInt32) &&& (255 : Int32)).toUInt32.toUInt16.toUInt32.toInt32)), .val (.int ((xb &&& (255 : Int32)).toUInt32.toUInt16.toUInt32.toInt32)), .val (.int ((((xb.toUInt32 >>> ((8 : Int32) &&& 31).toUInt32).toInt32) &&& (255 : Int32)).toUInt32.toUInt16.toUInt32.toInt32)), .val (.int ((xc &&& (255 : Int32)).toUInt32.toUInt16.toUInt32.toInt32)), .val (.int ((((xc.toUInt32 >>> ((8 : Int32) &&& 31).toUInt32).toInt32) &&& (255 : Int32)).toUInt32.toUInt16.toUInt32.toInt32)), .val (.ref b1), .val (.ref b18), .val (.ref b54), .val (.ref b113), .val (.int (3 : Int32)), .val (.ref b1), .unset, .unset, .unset] [(.ref b54)]))
    refine Go.st (fun _ k' => XS.pop X327.here hx rfl (hb hby at_218) rfl rfl k') ?_
    show Go p e below s _ _ _ (T327.setTop (mkF m 219 #[.val (.int xa), .val (.int xb), .val (.int xc), .val (.int sel), .val (.int ((xa &&& (255 : Int32)).toUInt32.toUInt16.toUInt32.toInt32)), .val (.int ((((xa.toUInt32 >>> ((8 : Int32) &&& 31).toUInt32).toInt32) &&& (255 : Int32)).toUInt32.toUInt16.toUInt32.toInt32)), .val (.int ((xb &&& (255 : Int32)).toUInt32.toUInt16.toUInt32.toInt32)), .val (.int ((((xb.toUInt32 >>> ((8 : Int32) &&& 31).toUInt32).toInt32) &&& (255 : Int32)).toUInt32.toUInt16.toUInt32.toInt32)), .val (.int ((xc &&& (255 : Int32)).toUInt32.toUInt16.toUInt32.toInt32)), .val (.int ((((xc.toUInt32 >>> ((8 : Int32) &&& 31).toUInt32).toInt32) &&& (255 : Int32)).toUInt32.toUInt16.toUInt32.toInt32)), .val (.ref b1), .val (.ref b18), .val (.ref b54), .val (.ref b113), .val (.int (3 : Int32)), .val (.ref b1), .unset, .unset, .unset] []))
    refine Go.st (fun _ k' => XS.iload X327.here hx rfl (hb hby at_219) rfl k') ?_
    show Go p e below s _ _ _ (T327.setTop (mkF m 221 #[.val (.int xa), .val (.int xb), .val (.int xc), .val (.int sel), .val (.int ((xa &&& (255 : Int32)).toUInt32.toUInt16.toUInt32.toInt32)), .val (.int ((((xa.toUInt32 >>> ((8 : Int32) &&& 31).toUInt32).toInt32) &&& (255 : Int32)).toUInt32.toUInt16.toUInt32.toInt32)), .val (.int ((xb &&& (255 : Int32)).toUInt32.toUInt16.toUInt32.toInt32)), .val (.int ((((xb.toUInt32 >>> ((8 : Int32) &&& 31).toUInt32).toInt32) &&& (255 : Int32)).toUInt32.toUInt16.toUInt32.toInt32)), .val (.int ((xc &&& (255 : Int32)).toUInt32.toUInt16.toUInt32.toInt32)), .val (.int ((((xc.toUInt32 >>> ((8 : Int32) &&& 31).toUInt32).toInt32) &&& (255 : Int32)).toUInt32.toUInt16.toUInt32.toInt32)), .val (.ref b1), .val (.ref b18), .val (.ref b54), .val (.ref b113), .val (.int (3 : Int32)), .val (.ref b1), .unset, .unset, .unset] [(.int (3 : Int32))]))
    refine Go.st (fun _ k' => XS.iconst X327.here hx rfl (hb hby at_221) k') ?_
    show Go p e below s _ _ _ (T327.setTop (mkF m 222 #[.val (.int xa), .val (.int xb), .val (.int xc), .val (.int sel), .val (.int ((xa &&& (255 : Int32)).toUInt32.toUInt16.toUInt32.toInt32)), .val (.int ((((xa.toUInt32 >>> ((8 : Int32) &&& 31).toUInt32).toInt32) &&& (255 : Int32)).toUInt32.toUInt16.toUInt32.toInt32)), .val (.int ((xb &&& (255 : Int32)).toUInt32.toUInt16.toUInt32.toInt32)), .val (.int ((((xb.toUInt32 >>> ((8 : Int32) &&& 31).toUInt32).toInt32) &&& (255 : Int32)).toUInt32.toUInt16.toUInt32.toInt32)), .val (.int ((xc &&& (255 : Int32)).toUInt32.toUInt16.toUInt32.toInt32)), .val (.int ((((xc.toUInt32 >>> ((8 : Int32) &&& 31).toUInt32).toInt32) &&& (255 : Int32)).toUInt32.toUInt16.toUInt32.toInt32)), .val (.ref b1), .val (.ref b18), .val (.ref b54), .val (.ref b113), .val (.int (3 : Int32)), .val (.ref b1), .unset, .unset, .unset] [(.int (3 : Int32)), (.int (3 : Int32))]))
    refine Go.st (fun _ k' => XS.icmpNo X327.here hx rfl (hb hby at_222) rfl (XT.ii_ne_f (by decide)) k') ?_
    show Go p e below s _ _ _ (T327.setTop (mkF m 225 #[.val (.int xa), .val (.int xb), .val (.int xc), .val (.int sel), .val (.int ((xa &&& (255 : Int32)).toUInt32.toUInt16.toUInt32.toInt32)), .val (.int ((((xa.toUInt32 >>> ((8 : Int32) &&& 31).toUInt32).toInt32) &&& (255 : Int32)).toUInt32.toUInt16.toUInt32.toInt32)), .val (.int ((xb &&& (255 : Int32)).toUInt32.toUInt16.toUInt32.toInt32)), .val (.int ((((xb.toUInt32 >>> ((8 : Int32) &&& 31).toUInt32).toInt32) &&& (255 : Int32)).toUInt32.toUInt16.toUInt32.toInt32)), .val (.int ((xc &&& (255 : Int32)).toUInt32.toUInt16.toUInt32.toInt32)), .val (.int ((((xc.toUInt32 >>> ((8 : Int32) &&& 31).toUInt32).toInt32) &&& (255 : Int32)).toUInt32.toUInt16.toUInt32.toInt32)), .val (.ref b1), .val (.ref b18), .val (.ref b54), .val (.ref b113), .val (.int (3 : Int32)), .val (.ref b1), .unset, .unset, .unset] []))
    refine Go.st (fun _ k' => XS.aload X327.here hx rfl (hb hby at_225) rfl rfl k') ?_
    show Go p e below s _ _ _ (T327.setTop (mkF m 227 #[.val (.int xa), .val (.int xb), .val (.int xc), .val (.int sel), .val (.int ((xa &&& (255 : Int32)).toUInt32.toUInt16.toUInt32.toInt32)), .val (.int ((((xa.toUInt32 >>> ((8 : Int32) &&& 31).toUInt32).toInt32) &&& (255 : Int32)).toUInt32.toUInt16.toUInt32.toInt32)), .val (.int ((xb &&& (255 : Int32)).toUInt32.toUInt16.toUInt32.toInt32)), .val (.int ((((xb.toUInt32 >>> ((8 : Int32) &&& 31).toUInt32).toInt32) &&& (255 : Int32)).toUInt32.toUInt16.toUInt32.toInt32)), .val (.int ((xc &&& (255 : Int32)).toUInt32.toUInt16.toUInt32.toInt32)), .val (.int ((((xc.toUInt32 >>> ((8 : Int32) &&& 31).toUInt32).toInt32) &&& (255 : Int32)).toUInt32.toUInt16.toUInt32.toInt32)), .val (.ref b1), .val (.ref b18), .val (.ref b54), .val (.ref b113), .val (.int (3 : Int32)), .val (.ref b1), .unset, .unset, .unset] [(.ref b113)]))
    obtain ⟨cq340, kq340, q340a, q340b, q340c⟩ := isOf hZ rfl f336
    obtain ⟨_, _, ⟨T340, L340, k340, n340⟩, -, X340, ⟨Lc340, hQ340, l340, y340, z340⟩, st340⟩ := X327.virtualBack hx (y := (⟨"com/example/reportwire/reportwire/Arguments", "hasNext", "()Z"⟩ : MethodName)) (z := (⟨"com/example/reportwire/reportwire/Arguments", "hasNext", "()Z"⟩ : MethodName)) hown (mvT hZ (wdx hw 113 rfl)) (mvT hZ (wdx hw 101 rfl)) (notFace_of_selects (args := #[]) (mvT hZ (wdx hw 103 rfl))) (mvT hZ (wdx hw 103 rfl)) (mvT hZ (wdx hw 102 rfl)) (by decide) (backOf (W := 0) (rm15_3_3 l Z a0 hw [] b113 na_187 kn_187 b1 b18 b54 T327.heap n0 O327 f328 f329 f339) hZ (wdx hw 104 rfl) (wdx hw 32 rfl) (by decide) (by decide)) q340a q340c (g := (mkF m 227 #[.val (.int xa), .val (.int xb), .val (.int xc), .val (.int sel), .val (.int ((xa &&& (255 : Int32)).toUInt32.toUInt16.toUInt32.toInt32)), .val (.int ((((xa.toUInt32 >>> ((8 : Int32) &&& 31).toUInt32).toInt32) &&& (255 : Int32)).toUInt32.toUInt16.toUInt32.toInt32)), .val (.int ((xb &&& (255 : Int32)).toUInt32.toUInt16.toUInt32.toInt32)), .val (.int ((((xb.toUInt32 >>> ((8 : Int32) &&& 31).toUInt32).toInt32) &&& (255 : Int32)).toUInt32.toUInt16.toUInt32.toInt32)), .val (.int ((xc &&& (255 : Int32)).toUInt32.toUInt16.toUInt32.toInt32)), .val (.int ((((xc.toUInt32 >>> ((8 : Int32) &&& 31).toUInt32).toInt32) &&& (255 : Int32)).toUInt32.toUInt16.toUInt32.toInt32)), .val (.ref b1), .val (.ref b18), .val (.ref b54), .val (.ref b113), .val (.int (3 : Int32)), .val (.ref b1), .unset, .unset, .unset] [(.ref b113)])) rfl (by rw [hml]; rfl) (Steps.refl _) (argsL := []) (rest := []) (lenOf pd___Z rfl) rfl (by show 2 * 0 + _ ≤ _; exact Nat.le_of_eq rfl) (hb hby at_227) (fun _ _ => ⟨rfl, rfl, (by exact Nat.le_of_ble_eq_true rfl), (by exact Nat.le_of_ble_eq_true rfl)⟩)
    dsimp only [Pt.U, Pt.locs, Pt.cells, Pt.slots] at X340 l340 y340 z340 st340 hQ340
    subst l340 y340 z340
    obtain ⟨rfl, Nq340, eq340⟩ := hQ340
    have N340 := Fr.app N327 Nq340
    refine Go.tr st340 ?_
    show Go p e below s _ _ _ (T340.setTop (mkF m 230 #[.val (.int xa), .val (.int xb), .val (.int xc), .val (.int sel), .val (.int ((xa &&& (255 : Int32)).toUInt32.toUInt16.toUInt32.toInt32)), .val (.int ((((xa.toUInt32 >>> ((8 : Int32) &&& 31).toUInt32).toInt32) &&& (255 : Int32)).toUInt32.toUInt16.toUInt32.toInt32)), .val (.int ((xb &&& (255 : Int32)).toUInt32.toUInt16.toUInt32.toInt32)), .val (.int ((((xb.toUInt32 >>> ((8 : Int32) &&& 31).toUInt32).toInt32) &&& (255 : Int32)).toUInt32.toUInt16.toUInt32.toInt32)), .val (.int ((xc &&& (255 : Int32)).toUInt32.toUInt16.toUInt32.toInt32)), .val (.int ((((xc.toUInt32 >>> ((8 : Int32) &&& 31).toUInt32).toInt32) &&& (255 : Int32)).toUInt32.toUInt16.toUInt32.toInt32)), .val (.ref b1), .val (.ref b18), .val (.ref b54), .val (.ref b113), .val (.int (3 : Int32)), .val (.ref b1), .unset, .unset, .unset] [(.int (0 : Int32))]))
    refine Go.st (fun _ k' => XS.ifNo X340.here hx rfl (hb hby at_230) rfl (XT.i0_ne_f (by decide)) k') ?_
    show Go p e below s _ _ _ (T340.setTop (mkF m 233 #[.val (.int xa), .val (.int xb), .val (.int xc), .val (.int sel), .val (.int ((xa &&& (255 : Int32)).toUInt32.toUInt16.toUInt32.toInt32)), .val (.int ((((xa.toUInt32 >>> ((8 : Int32) &&& 31).toUInt32).toInt32) &&& (255 : Int32)).toUInt32.toUInt16.toUInt32.toInt32)), .val (.int ((xb &&& (255 : Int32)).toUInt32.toUInt16.toUInt32.toInt32)), .val (.int ((((xb.toUInt32 >>> ((8 : Int32) &&& 31).toUInt32).toInt32) &&& (255 : Int32)).toUInt32.toUInt16.toUInt32.toInt32)), .val (.int ((xc &&& (255 : Int32)).toUInt32.toUInt16.toUInt32.toInt32)), .val (.int ((((xc.toUInt32 >>> ((8 : Int32) &&& 31).toUInt32).toInt32) &&& (255 : Int32)).toUInt32.toUInt16.toUInt32.toInt32)), .val (.ref b1), .val (.ref b18), .val (.ref b54), .val (.ref b113), .val (.int (3 : Int32)), .val (.ref b1), .unset, .unset, .unset] []))
    refine Go.st (fun _ k' => XS.iconst X340.here hx rfl (hb hby at_233) k') ?_
    show Go p e below s _ _ _ (T340.setTop (mkF m 234 #[.val (.int xa), .val (.int xb), .val (.int xc), .val (.int sel), .val (.int ((xa &&& (255 : Int32)).toUInt32.toUInt16.toUInt32.toInt32)), .val (.int ((((xa.toUInt32 >>> ((8 : Int32) &&& 31).toUInt32).toInt32) &&& (255 : Int32)).toUInt32.toUInt16.toUInt32.toInt32)), .val (.int ((xb &&& (255 : Int32)).toUInt32.toUInt16.toUInt32.toInt32)), .val (.int ((((xb.toUInt32 >>> ((8 : Int32) &&& 31).toUInt32).toInt32) &&& (255 : Int32)).toUInt32.toUInt16.toUInt32.toInt32)), .val (.int ((xc &&& (255 : Int32)).toUInt32.toUInt16.toUInt32.toInt32)), .val (.int ((((xc.toUInt32 >>> ((8 : Int32) &&& 31).toUInt32).toInt32) &&& (255 : Int32)).toUInt32.toUInt16.toUInt32.toInt32)), .val (.ref b1), .val (.ref b18), .val (.ref b54), .val (.ref b113), .val (.int (3 : Int32)), .val (.ref b1), .unset, .unset, .unset] [(.int (1 : Int32))]))
    refine Go.st (fun _ k' => XS.goto X340.here hx rfl (pc0 := 234) (pc' := 238) rfl (hb hby at_234) (by decide) (by decide) k') ?_
    show Go p e below s _ _ _ (T340.setTop (mkF m 238 #[.val (.int xa), .val (.int xb), .val (.int xc), .val (.int sel), .val (.int ((xa &&& (255 : Int32)).toUInt32.toUInt16.toUInt32.toInt32)), .val (.int ((((xa.toUInt32 >>> ((8 : Int32) &&& 31).toUInt32).toInt32) &&& (255 : Int32)).toUInt32.toUInt16.toUInt32.toInt32)), .val (.int ((xb &&& (255 : Int32)).toUInt32.toUInt16.toUInt32.toInt32)), .val (.int ((((xb.toUInt32 >>> ((8 : Int32) &&& 31).toUInt32).toInt32) &&& (255 : Int32)).toUInt32.toUInt16.toUInt32.toInt32)), .val (.int ((xc &&& (255 : Int32)).toUInt32.toUInt16.toUInt32.toInt32)), .val (.int ((((xc.toUInt32 >>> ((8 : Int32) &&& 31).toUInt32).toInt32) &&& (255 : Int32)).toUInt32.toUInt16.toUInt32.toInt32)), .val (.ref b1), .val (.ref b18), .val (.ref b54), .val (.ref b113), .val (.int (3 : Int32)), .val (.ref b1), .unset, .unset, .unset] [(.int (1 : Int32))]))
    refine Go.retB X340 hx hlk (t := .boolean) Bd.returns (by simp) (hb hby at_238) (by decide) (by decide) eq340 ?_
    exact ⟨rfl, N340, trivial⟩
set_option maxRecDepth 65536 in
set_option maxHeartbeats 40000000 in
theorem comes_1 {Post : Tables → Env → Array Value → State → Outcome → State → Prop} (hpost : ∀ tb e args s v u, (limb_1_1.after args s (.returned v) u = true ∧ limb_1_2.after args s (.returned v) u = true ∧ True) → FrameEnd s (.returned v) u (Jvm.fieldLocs frame_1_writes args s ++ Jvm.arrayLocs frame_1_arrays args s ++ Jvm.staticLocs frame_1_statics s) 40 192 → Post tb e args s (.returned v) u) :
    ArmFor flags0 classFile x code maxLocals ret World_1 tables_1 room_1 Calls_1 rest_1 Pre_1 Post := by
  intro l hfl _ _ p e ha hc hk s m args below hf hA hF happ hP
  obtain ⟨hcalls, hrest, hpre⟩ := hP
  obtain ⟨-, -, -, hnamed, -, -, -, hat⟩ := (Spec.applies_iff hf).mp happ
  obtain ⟨hg, hn⟩ := and_e (Cond.before_iff.mp (show (Jvm.Cond.and given_1 narrow_1).before args s = true from hpre))
  obtain ⟨hcnt, hg0⟩ := and_e hg
  obtain ⟨ha0, hg1⟩ := and_e hg0
  obtain ⟨ha1, hg2⟩ := and_e hg1
  obtain ⟨ha2, hg3⟩ := and_e hg2
  have ha3 := hg3
  obtain ⟨w0, w1, w2, w3, rfl⟩ : ∃ w0 w1 w2 w3 : Value, args = #[w0, w1, w2, w3] := by
    have hs : args.size = 4 := by simpa [Cond.value, given_1] using hcnt
    obtain ⟨L⟩ := args
    match L, hs with
    | [w0, w1, w2, w3], _ => exact ⟨w0, w1, w2, w3, rfl⟩
  have hw := fun d (hd : d ∈ tables_1) => atoms_spec (ws := Jvm.Cond.code x code maxLocals ret :: tables_1) hat d (List.mem_cons_of_mem _ hd)
  have hfit : Fit s := fun {y c} hc i hi => by
    obtain ⟨ha, rfl⟩ := Array.getElem?_eq_some_iff.mp hc
    have q := List.all_eq_true.mp ((Array.all_eq_true_iff_forall_mem.mp hF) _ (Array.getElem_mem ha)) i (List.mem_range.mpr hi)
    simpa [Array.getElem?_eq_getElem hi] using q
  obtain ⟨hsets, hown0⟩ := atoms_of _ (rest_1_c_eq ▸ (show rest_1_c.before _ s = true from hrest))
  have hr0 := Cond.before_iff.mp hown0
  obtain ⟨i0, ei0⟩ := is_v ha0
  obtain rfl : w0 = (.int i0) := Option.some.inj ei0
  obtain ⟨i1, ei1⟩ := is_v ha1
  obtain rfl : w1 = (.int i1) := Option.some.inj ei1
  obtain ⟨i2, ei2⟩ := is_v ha2
  obtain rfl : w2 = (.int i2) := Option.some.inj ei2
  obtain ⟨i3, ei3⟩ := is_v ha3
  obtain rfl : w3 = (.int i3) := Option.some.inj ei3
  obtain ⟨cs, S_cs, q_cs⟩ := own_cs (Cond.before_iff.mp (hsets _ (List.mem_of_getElem? (i := 1) rfl))) (Cond.before_iff.mp (hsets _ (List.mem_of_getElem? (i := 2) rfl))) (hsets _ (List.mem_of_getElem? (i := 0) rfl))
  obtain ⟨n, o, h1, h2, h3, _, L, rfl, ⟨rfl, N, -⟩, hq⟩ := rm0 l s _ hw tables_1 i0 i1 i2 i3 cs s.heap s.heap.size (Old.start s) S_cs q_cs p e ha hc hk s m _ below hf ((Spec.applies_iff_loose hf).mp happ).1 ⟨rfl, State.Warmed39.refl s, rfl⟩ trivial
  refine ⟨n, _, h1, h2, h3, hpost _ _ _ _ _ _ ⟨Cond.after_iff.mpr rfl, Cond.after_iff.mpr (eq_i res_at (Term.int_eval (1)) rfl), trivial⟩ ⟨hq.1, hq.2.1, (hq.2.2.sift fun y hy => Or.inr (N y hy)).mono (by decide) (by decide)⟩⟩
theorem main_1_1 : Claimed_1_1 := comes_1 fun _ _ _ _ _ _ h hF => ⟨h.1, hF⟩
theorem main_1_2 : Claimed_1_2 := comes_1 fun _ _ _ _ _ _ h hF => ⟨h.2.1, hF⟩
end Jvm.Pilot.@@N@@
namespace Jvm.Pilot.@@N@@
open Jvm Jvm.ClassFile Sem Op Lib Jvm.Free Jvm.Stand Jvm.Pilot.@@N@@.Jvm.D
/-! MADE BY PROGRAM (witnessworld.py) out of the Statement's table words and the real class files: 30 classes; the members and pool entries that the words name. The judged class is class 1, her method 1. -/
namespace start1
open Jvm.ClassFile
def u (s : String) : CpInfo := .utf8 (stringToUtf16 s)
/-- a pool by its gaps: so many unusable entries, then the entry; so many at the end -/
def gap : Nat → List CpInfo → List CpInfo
  | 0, r => r
  | n + 1, r => .unusable :: gap n r
def poolList (es : List (Nat × CpInfo)) (last : Nat) : List CpInfo := es.foldr (fun e r => gap e.1 (e.2 :: r)) (gap last [])
def pool (es : List (Nat × CpInfo)) (last : Nat) : Array CpInfo := ⟨poolList es last⟩
def fileOf (pool : Array CpInfo) (this : Nat) (attrs : Array Attribute := #[]) (ms : Array MethodInfo := #[]) (fl : Nat := 33) (sup : Nat := 0) (ifs : Array Nat := #[]) (fds : Array FieldInfo := #[]) : ClassFile where
  minorVersion := 0
  majorVersion := 65
  constantPool := pool
  accessFlags := fl
  thisClass := this
  superClass := sup
  interfaces := ifs
  fields := fds
  methods := ms
  attributes := attrs
def plain (name : String) (sup : Option ClassId) : Class where
  name := name
  kind := .ordinary
  loader := none
  accessFlags := 33
  super := sup
  interfaces := #[]
  cf := none
  fields := #[]
  methods := #[]
  instanceTypes := #[]
  staticTypes := #[]
  resolved := #[]
  callSites := []
  init := .initialized
  statics := none
  mirror := none

def pool0 : Array CpInfo := pool [(5, u "<init>"), (0, u "()V"), (1, .class_ 10), (1, u "java/lang/Object"), (85, u "clone"), (0, u "()Ljava/lang/Object;")] 26

def k0c0 : Code := { maxStack := 0, maxLocals := 1, code := object_method_1_code, exceptionTable := #[], attributes := #[] }
def k0m0 : Method := { name := "<init>", desc := "()V", sig := { parameters := [], returnType := none }, accessFlags := 1, code := some k0c0 }
def k0m1 : Method := { name := "clone", desc := "()Ljava/lang/Object;", sig := { parameters := [], returnType := some (.object "java/lang/Object") }, accessFlags := 260, code := none }
/-- java/lang/Object -/
def k0 : Class := { plain "java/lang/Object" none with
  accessFlags := 33
  interfaces := #[]
  cf := some (fileOf pool0 8 #[] #[{ accessFlags := 1, nameIndex := 5, descriptorIndex := 6, attributes := #[] }, { accessFlags := 260, nameIndex := 96, descriptorIndex := 97, attributes := #[] }] 33 0 #[] #[])
  fields := #[]
  methods := #[k0m0, k0m1]
  instanceTypes := #[]
  staticTypes := #[]
  resolved := Array.replicate 124 none
  statics := none }

def pool1 : Array CpInfo := pool [(2, .class_ 4), (1, u "java/lang/Object"), (0, u "<init>"), (0, u "()V"), (0, .class_ 8), (0, u "java/lang/String"), (0, .methodref 7 10), (0, .nameAndType 5 11), (0, u "([C)V"), (0, .class_ 13), (0, u "com/example/reportwire/reportwire/Arguments"), (0, .methodref 12 15), (0, .nameAndType 5 16), (0, u "([Ljava/lang/String;)V"), (0, .integer 2147483647), (0, .methodref 12 19), (0, .nameAndType 20 21), (0, u "next"), (0, u "()Ljava/lang/String;"), (0, .methodref 12 23), (0, .nameAndType 24 25), (0, u "hasNext"), (0, u "()Z"), (0, .methodref 12 27), (0, .nameAndType 28 21), (0, u "peek"), (0, .methodref 7 30), (0, .nameAndType 31 32), (0, u "equals"), (0, u "(Ljava/lang/Object;)Z"), (0, .class_ 34), (0, u "com/example/reportwire/reportwire/ArgumentsPeekPinLaw"), (2, u "law"), (0, u "(IIII)Z")] 3

def k1m0 : Method := { name := "<init>", desc := "()V", sig := { parameters := [], returnType := none }, accessFlags := 2, code := none }
def k1c1 : Code := { maxStack := 6, maxLocals := 19, code := code, exceptionTable := #[], attributes := #[] }
def k1m1 : Method := { name := "law", desc := "(IIII)Z", sig := { parameters := [.int, .int, .int, .int], returnType := some .boolean }, accessFlags := 9, code := some k1c1 }
/-- com/example/reportwire/reportwire/ArgumentsPeekPinLaw -/
def k1 : Class := { plain "com/example/reportwire/reportwire/ArgumentsPeekPinLaw" (some 0) with
  accessFlags := 49
  interfaces := #[]
  cf := some (fileOf pool1 33 #[] #[{ accessFlags := 2, nameIndex := 5, descriptorIndex := 6, attributes := #[] }, { accessFlags := 9, nameIndex := 37, descriptorIndex := 38, attributes := #[] }] 49 2 #[] #[])
  fields := #[]
  methods := #[k1m0, k1m1]
  instanceTypes := #[]
  staticTypes := #[]
  resolved := Array.replicate 42 none
  statics := none }

def pool2 : Array CpInfo := pool [(1, .class_ 2), (0, u "java/io/Serializable"), (0, .class_ 4), (0, u "java/lang/Object")] 2

/-- java/io/Serializable -/
def k2 : Class := { plain "java/io/Serializable" (some 0) with
  accessFlags := 1537
  interfaces := #[]
  cf := some (fileOf pool2 1 #[] #[] 1537 3 #[] #[])
  fields := #[]
  methods := #[]
  instanceTypes := #[]
  staticTypes := #[]
  resolved := Array.replicate 7 none
  statics := none }

def pool3 : Array CpInfo := pool [(1, .class_ 2), (0, u "java/lang/Comparable"), (0, .class_ 4), (0, u "java/lang/Object")] 7

/-- java/lang/Comparable -/
def k3 : Class := { plain "java/lang/Comparable" (some 0) with
  accessFlags := 1537
  interfaces := #[]
  cf := some (fileOf pool3 1 #[] #[] 1537 3 #[] #[])
  fields := #[]
  methods := #[]
  instanceTypes := #[]
  staticTypes := #[]
  resolved := Array.replicate 12 none
  statics := none }

def pool4 : Array CpInfo := pool [(2, .class_ 4), (1, u "java/lang/CharSequence"), (42, .class_ 48), (0, u "java/lang/CharSequence$1CodePointIterator"), (10, .class_ 60), (0, u "java/lang/CharSequence$1CharIterator"), (5, .class_ 67), (0, u "java/lang/Object")] 63

/-- java/lang/CharSequence -/
def k4 : Class := { plain "java/lang/CharSequence" (some 0) with
  accessFlags := 1537
  interfaces := #[]
  cf := some (fileOf pool4 2 #[.nestMembers #[47, 59]] #[] 1537 66 #[] #[])
  fields := #[]
  methods := #[]
  instanceTypes := #[]
  staticTypes := #[]
  resolved := Array.replicate 131 none
  statics := none }

def pool5 : Array CpInfo := pool [(1, .class_ 2), (0, u "java/lang/constant/Constable"), (0, .class_ 4), (0, u "java/lang/Object")] 6

/-- java/lang/constant/Constable -/
def k5 : Class := { plain "java/lang/constant/Constable" (some 0) with
  accessFlags := 1537
  interfaces := #[]
  cf := some (fileOf pool5 1 #[] #[] 1537 3 #[] #[])
  fields := #[]
  methods := #[]
  instanceTypes := #[]
  staticTypes := #[]
  resolved := Array.replicate 11 none
  statics := none }

def pool6 : Array CpInfo := pool [(1, .class_ 2), (0, u "java/lang/constant/ConstantDesc"), (0, .class_ 4), (0, u "java/lang/Object")] 32

/-- java/lang/constant/ConstantDesc -/
def k6 : Class := { plain "java/lang/constant/ConstantDesc" (some 0) with
  accessFlags := 1537
  interfaces := #[]
  cf := some (fileOf pool6 1 #[] #[] 1537 3 #[] #[])
  fields := #[]
  methods := #[]
  instanceTypes := #[]
  staticTypes := #[]
  resolved := Array.replicate 37 none
  statics := none }

def pool7 : Array CpInfo := pool [(1, .methodref 2 3), (0, .class_ 4), (0, .nameAndType 5 6), (0, u "java/lang/Object"), (0, u "<init>"), (0, u "()V"), (2, .fieldref 10 11), (0, .class_ 12), (0, .nameAndType 13 14), (0, u "java/lang/String"), (0, u "value"), (0, u "[B"), (0, .fieldref 10 16), (0, .nameAndType 17 18), (0, u "coder"), (0, u "B"), (2, u "hash"), (0, u "I"), (2, u "hashIsZero"), (0, u "Z"), (0, .methodref 10 28), (0, .nameAndType 5 29), (0, u "([CIILjava/lang/Void;)V"), (8, .fieldref 10 39), (0, .nameAndType 40 26), (0, u "COMPACT_STRINGS"), (1, .class_ 44), (1, u "java/lang/StringUTF16"), (0, u "compress"), (1, .methodref 42 48), (0, .nameAndType 49 50), (0, u "coderFromArrayLen"), (0, u "([BI)B"), (126, .methodref 42 178), (0, .nameAndType 45 179), (0, u "([CII)[B"), (363, u "equals"), (29, u "(Ljava/lang/Object;)Z"), (1, .class_ 576), (0, u "java/lang/CharSequence"), (22, u "CASE_INSENSITIVE_ORDER"), (0, u "Ljava/util/Comparator;"), (409, u "([C)V"), (90, u "serialPersistentFields"), (0, u "[Ljava/io/ObjectStreamField;"), (0, .class_ 1104), (0, u "java/lang/String$CaseInsensitiveComparator"), (1, .class_ 1107), (0, u "java/io/Serializable"), (0, .class_ 1109), (0, u "java/lang/Comparable"), (0, .class_ 1111), (0, u "java/lang/constant/Constable"), (0, .class_ 1113), (0, u "java/lang/constant/ConstantDesc"), (2, u "serialVersionUID"), (0, u "J"), (3, u "REPL"), (0, u "C"), (2, u "LATIN1"), (1, u "UTF16")] 323

def k7m0 : Method := { name := "<init>", desc := "()V", sig := { parameters := [], returnType := none }, accessFlags := 1, code := none }
def k7c1 : Code := { maxStack := 5, maxLocals := 2, code := jdk_42_method_3_code, exceptionTable := #[], attributes := #[] }
def k7m1 : Method := { name := "<init>", desc := "([C)V", sig := { parameters := [(.array .char)], returnType := none }, accessFlags := 1, code := some k7c1 }
def k7c2 : Code := { maxStack := 2, maxLocals := 3, code := jdk_42_method_66_code, exceptionTable := #[], attributes := #[] }
def k7m2 : Method := { name := "equals", desc := "(Ljava/lang/Object;)Z", sig := { parameters := [(.object "java/lang/Object")], returnType := some .boolean }, accessFlags := 1, code := some k7c2 }
def k7c3 : Code := { maxStack := 4, maxLocals := 6, code := jdk_42_method_149_code, exceptionTable := #[], attributes := #[] }
def k7m3 : Method := { name := "<init>", desc := "([CIILjava/lang/Void;)V", sig := { parameters := [(.array .char), .int, .int, (.object "java/lang/Void")], returnType := none }, accessFlags := 2, code := some k7c3 }
/-- java/lang/String -/
def k7 : Class := { plain "java/lang/String" (some 0) with
  accessFlags := 49
  interfaces := #[2, 3, 4, 5, 6]
  cf := some (fileOf pool7 10 #[.nestMembers #[1103]] #[{ accessFlags := 1, nameIndex := 5, descriptorIndex := 6, attributes := #[] }, { accessFlags := 1, nameIndex := 5, descriptorIndex := 1010, attributes := #[] }, { accessFlags := 1, nameIndex := 543, descriptorIndex := 573, attributes := #[] }, { accessFlags := 2, nameIndex := 5, descriptorIndex := 29, attributes := #[] }] 49 2 #[1106, 1108, 575, 1110, 1112] #[{ accessFlags := 18, nameIndex := 13, descriptorIndex := 14, attributes := #[] }, { accessFlags := 18, nameIndex := 17, descriptorIndex := 18, attributes := #[] }, { accessFlags := 2, nameIndex := 21, descriptorIndex := 22, attributes := #[] }, { accessFlags := 2, nameIndex := 25, descriptorIndex := 26, attributes := #[] }, { accessFlags := 26, nameIndex := 1116, descriptorIndex := 1117, attributes := #[] }, { accessFlags := 24, nameIndex := 40, descriptorIndex := 26, attributes := #[] }, { accessFlags := 26, nameIndex := 1101, descriptorIndex := 1102, attributes := #[] }, { accessFlags := 26, nameIndex := 1121, descriptorIndex := 1122, attributes := #[] }, { accessFlags := 25, nameIndex := 599, descriptorIndex := 600, attributes := #[] }, { accessFlags := 24, nameIndex := 1125, descriptorIndex := 18, attributes := #[] }, { accessFlags := 24, nameIndex := 1127, descriptorIndex := 18, attributes := #[] }])
  fields := #[{ name := "value", type := (.array .byte), accessFlags := 18, slot := 0, constantValue := 0 }, { name := "coder", type := .byte, accessFlags := 18, slot := 1, constantValue := 0 }, { name := "hash", type := .int, accessFlags := 2, slot := 2, constantValue := 0 }, { name := "hashIsZero", type := .boolean, accessFlags := 2, slot := 3, constantValue := 0 }, { name := "serialVersionUID", type := .long, accessFlags := 26, slot := 0, constantValue := 0 }, { name := "COMPACT_STRINGS", type := .boolean, accessFlags := 24, slot := 1, constantValue := 0 }, { name := "serialPersistentFields", type := (.array (.object "java/io/ObjectStreamField")), accessFlags := 26, slot := 2, constantValue := 0 }, { name := "REPL", type := .char, accessFlags := 26, slot := 3, constantValue := 0 }, { name := "CASE_INSENSITIVE_ORDER", type := (.object "java/util/Comparator"), accessFlags := 25, slot := 4, constantValue := 0 }, { name := "LATIN1", type := .byte, accessFlags := 24, slot := 5, constantValue := 0 }, { name := "UTF16", type := .byte, accessFlags := 24, slot := 6, constantValue := 0 }]
  methods := #[k7m0, k7m1, k7m2, k7m3]
  instanceTypes := #[(.array .byte), .byte, .int, .boolean]
  staticTypes := #[.long, .boolean, (.array (.object "java/io/ObjectStreamField")), .char, (.object "java/util/Comparator"), .byte, .byte]
  resolved := Array.replicate 1451 none
  statics := some 0 }

def pool8 : Array CpInfo := pool [(6, .class_ 8), (1, u "java/lang/Object"), (0, u "<init>"), (0, u "()V"), (1, .class_ 14), (1, u "java/lang/StringUTF16"), (31, u "$assertionsDisabled"), (0, u "Z"), (13, u "HI_BYTE_SHIFT"), (0, u "I"), (2, u "LO_BYTE_SHIFT"), (49, .methodref 12 116), (0, .nameAndType 117 118), (0, u "compress"), (0, u "([CI[BII)I"), (3, u "([CII)[B"), (138, u "coderFromArrayLen"), (0, u "([BI)B"), (106, .class_ 371), (1, u "java/lang/StringUTF16$LinesSpliterator"), (58, u "MAX_LENGTH"), (196, .class_ 628), (0, u "java/lang/StringUTF16$CodePointsSpliterator"), (0, .class_ 630), (0, u "java/lang/StringUTF16$CharsSpliterator")] 4

def k8m0 : Method := { name := "<init>", desc := "()V", sig := { parameters := [], returnType := none }, accessFlags := 0, code := none }
def k8c1 : Code := { maxStack := 2, maxLocals := 2, code := jdk_52_method_15_code, exceptionTable := #[], attributes := #[] }
def k8m1 : Method := { name := "coderFromArrayLen", desc := "([BI)B", sig := { parameters := [(.array .byte), .int], returnType := some .byte }, accessFlags := 8, code := some k8c1 }
def k8c2 : Code := { maxStack := 5, maxLocals := 6, code := jdk_52_method_16_code, exceptionTable := #[], attributes := #[] }
def k8m2 : Method := { name := "compress", desc := "([CII)[B", sig := { parameters := [(.array .char), .int, .int], returnType := some (.array .byte) }, accessFlags := 9, code := some k8c2 }
def k8c3 : Code := { maxStack := 3, maxLocals := 7, code := jdk_52_method_21_code, exceptionTable := #[], attributes := #[] }
def k8m3 : Method := { name := "compress", desc := "([CI[BII)I", sig := { parameters := [(.array .char), .int, (.array .byte), .int, .int], returnType := some .int }, accessFlags := 9, code := some k8c3 }
/-- java/lang/StringUTF16 -/
def k8 : Class := { plain "java/lang/StringUTF16" (some 0) with
  accessFlags := 48
  interfaces := #[]
  cf := some (fileOf pool8 12 #[.nestMembers #[627, 629, 369]] #[{ accessFlags := 0, nameIndex := 9, descriptorIndex := 10, attributes := #[] }, { accessFlags := 8, nameIndex := 261, descriptorIndex := 262, attributes := #[] }, { accessFlags := 9, nameIndex := 117, descriptorIndex := 122, attributes := #[] }, { accessFlags := 9, nameIndex := 117, descriptorIndex := 118, attributes := #[] }] 48 6 #[] #[{ accessFlags := 26, nameIndex := 61, descriptorIndex := 62, attributes := #[] }, { accessFlags := 26, nameIndex := 65, descriptorIndex := 62, attributes := #[] }, { accessFlags := 24, nameIndex := 430, descriptorIndex := 62, attributes := #[] }, { accessFlags := 4120, nameIndex := 46, descriptorIndex := 47, attributes := #[] }])
  fields := #[{ name := "HI_BYTE_SHIFT", type := .int, accessFlags := 26, slot := 0, constantValue := 0 }, { name := "LO_BYTE_SHIFT", type := .int, accessFlags := 26, slot := 1, constantValue := 0 }, { name := "MAX_LENGTH", type := .int, accessFlags := 24, slot := 2, constantValue := 0 }, { name := "$assertionsDisabled", type := .boolean, accessFlags := 4120, slot := 3, constantValue := 0 }]
  methods := #[k8m0, k8m1, k8m2, k8m3]
  instanceTypes := #[]
  staticTypes := #[.int, .int, .int, .boolean]
  resolved := Array.replicate 635 none
  statics := none }

def pool9 : Array CpInfo := pool [(1, .methodref 2 3), (0, .class_ 4), (0, .nameAndType 5 6), (0, u "java/lang/Object"), (0, u "<init>"), (0, u "()V"), (0, .class_ 8), (0, u "java/util/HashSet"), (0, .methodref 7 3), (0, .fieldref 11 12), (0, .class_ 13), (0, .nameAndType 14 15), (0, u "com/example/reportwire/reportwire/Arguments"), (0, u "optionsGiven"), (0, u "Ljava/util/Set;"), (0, .methodref 17 18), (0, .class_ 19), (0, .nameAndType 20 21), (0, u "[Ljava/lang/String;"), (0, u "clone"), (0, u "()Ljava/lang/Object;"), (0, .fieldref 11 23), (0, .nameAndType 24 19), (0, u "args"), (2, u "command"), (0, u "Ljava/lang/String;"), (4, u "()Ljava/lang/String;"), (26, .fieldref 11 61), (0, .nameAndType 62 63), (0, u "next"), (0, u "I"), (6, .methodref 11 71), (0, .nameAndType 72 73), (0, u "hasNext"), (0, u "()Z"), (2, .methodref 11 77), (0, .nameAndType 78 33), (0, u "peek"), (301, u "HELP_OPTION"), (1, u "DATE_TIME_FORM"), (2, u "([Ljava/lang/String;)V")] 134

def k9c0 : Code := { maxStack := 3, maxLocals := 2, code := prog_7_method_1_code, exceptionTable := #[], attributes := #[] }
def k9m0 : Method := { name := "<init>", desc := "([Ljava/lang/String;)V", sig := { parameters := [(.array (.object "java/lang/String"))], returnType := none }, accessFlags := 128, code := some k9c0 }
def k9c1 : Code := { maxStack := 2, maxLocals := 1, code := prog_7_method_7_code, exceptionTable := #[], attributes := #[] }
def k9m1 : Method := { name := "hasNext", desc := "()Z", sig := { parameters := [], returnType := some .boolean }, accessFlags := 0, code := some k9c1 }
def k9c2 : Code := { maxStack := 3, maxLocals := 1, code := prog_7_method_9_code, exceptionTable := #[], attributes := #[] }
def k9m2 : Method := { name := "peek", desc := "()Ljava/lang/String;", sig := { parameters := [], returnType := some (.object "java/lang/String") }, accessFlags := 0, code := some k9c2 }
def k9c3 : Code := { maxStack := 3, maxLocals := 2, code := prog_7_method_10_code, exceptionTable := #[], attributes := #[] }
def k9m3 : Method := { name := "next", desc := "()Ljava/lang/String;", sig := { parameters := [], returnType := some (.object "java/lang/String") }, accessFlags := 0, code := some k9c3 }
/-- com/example/reportwire/reportwire/Arguments -/
def k9 : Class := { plain "com/example/reportwire/reportwire/Arguments" (some 0) with
  accessFlags := 48
  interfaces := #[]
  cf := some (fileOf pool9 11 #[] #[{ accessFlags := 128, nameIndex := 5, descriptorIndex := 385, attributes := #[] }, { accessFlags := 0, nameIndex := 72, descriptorIndex := 73, attributes := #[] }, { accessFlags := 0, nameIndex := 78, descriptorIndex := 33, attributes := #[] }, { accessFlags := 0, nameIndex := 62, descriptorIndex := 33, attributes := #[] }] 48 2 #[] #[{ accessFlags := 24, nameIndex := 380, descriptorIndex := 28, attributes := #[] }, { accessFlags := 24, nameIndex := 382, descriptorIndex := 28, attributes := #[] }, { accessFlags := 18, nameIndex := 24, descriptorIndex := 19, attributes := #[] }, { accessFlags := 18, nameIndex := 14, descriptorIndex := 15, attributes := #[] }, { accessFlags := 2, nameIndex := 62, descriptorIndex := 63, attributes := #[] }, { accessFlags := 2, nameIndex := 27, descriptorIndex := 28, attributes := #[] }])
  fields := #[{ name := "HELP_OPTION", type := (.object "java/lang/String"), accessFlags := 24, slot := 0, constantValue := 0 }, { name := "DATE_TIME_FORM", type := (.object "java/lang/String"), accessFlags := 24, slot := 1, constantValue := 0 }, { name := "args", type := (.array (.object "java/lang/String")), accessFlags := 18, slot := 0, constantValue := 0 }, { name := "optionsGiven", type := (.object "java/util/Set"), accessFlags := 18, slot := 1, constantValue := 0 }, { name := "next", type := .int, accessFlags := 2, slot := 2, constantValue := 0 }, { name := "command", type := (.object "java/lang/String"), accessFlags := 2, slot := 3, constantValue := 0 }]
  methods := #[k9m0, k9m1, k9m2, k9m3]
  instanceTypes := #[(.array (.object "java/lang/String")), (.object "java/util/Set"), .int, (.object "java/lang/String")]
  staticTypes := #[(.object "java/lang/String"), (.object "java/lang/String")]
  resolved := Array.replicate 520 none
  statics := none }

def pool10 : Array CpInfo := pool [(8, .class_ 10), (1, u "java/lang/Iterable"), (24, .class_ 36), (0, u "java/lang/Object")] 25

/-- java/lang/Iterable -/
def k10 : Class := { plain "java/lang/Iterable" (some 0) with
  accessFlags := 1537
  interfaces := #[]
  cf := some (fileOf pool10 8 #[] #[] 1537 35 #[] #[])
  fields := #[]
  methods := #[]
  instanceTypes := #[]
  staticTypes := #[]
  resolved := Array.replicate 62 none
  statics := none }

def pool11 : Array CpInfo := pool [(10, .class_ 12), (1, u "java/util/Collection"), (47, .class_ 61), (0, u "java/lang/Object"), (0, .class_ 63), (0, u "java/lang/Iterable")] 51

/-- java/util/Collection -/
def k11 : Class := { plain "java/util/Collection" (some 0) with
  accessFlags := 1537
  interfaces := #[10]
  cf := some (fileOf pool11 10 #[] #[] 1537 60 #[62] #[])
  fields := #[]
  methods := #[]
  instanceTypes := #[]
  staticTypes := #[]
  resolved := Array.replicate 115 none
  statics := none }

def pool12 : Array CpInfo := pool [(1, .methodref 2 3), (0, .class_ 4), (0, .nameAndType 5 6), (0, u "java/lang/Object"), (0, u "<init>"), (0, u "()V"), (1, .class_ 10), (1, u "java/util/AbstractCollection"), (66, .class_ 78), (0, u "java/util/Collection")] 81

def k12c0 : Code := { maxStack := 1, maxLocals := 1, code := jdk_22_method_1_code, exceptionTable := #[], attributes := #[] }
def k12m0 : Method := { name := "<init>", desc := "()V", sig := { parameters := [], returnType := none }, accessFlags := 4, code := some k12c0 }
/-- java/util/AbstractCollection -/
def k12 : Class := { plain "java/util/AbstractCollection" (some 0) with
  accessFlags := 1057
  interfaces := #[11]
  cf := some (fileOf pool12 8 #[] #[{ accessFlags := 4, nameIndex := 5, descriptorIndex := 6, attributes := #[] }] 1057 2 #[77] #[])
  fields := #[]
  methods := #[k12m0]
  instanceTypes := #[]
  staticTypes := #[]
  resolved := Array.replicate 160 none
  statics := none }

def pool13 : Array CpInfo := pool [(26, .class_ 27), (0, u "java/lang/Object"), (5, .class_ 34), (0, u "java/util/Set"), (1, .class_ 38), (1, u "java/util/Collection")] 105

/-- java/util/Set -/
def k13 : Class := { plain "java/util/Set" (some 0) with
  accessFlags := 1537
  interfaces := #[11]
  cf := some (fileOf pool13 33 #[] #[] 1537 26 #[36] #[])
  fields := #[]
  methods := #[]
  instanceTypes := #[]
  staticTypes := #[]
  resolved := Array.replicate 144 none
  statics := none }

def pool14 : Array CpInfo := pool [(1, .methodref 2 3), (0, .class_ 4), (0, .nameAndType 5 6), (0, u "java/util/AbstractCollection"), (0, u "<init>"), (0, u "()V"), (0, .class_ 8), (0, u "java/util/Set"), (7, .class_ 17), (0, u "java/util/AbstractSet")] 78

def k14c0 : Code := { maxStack := 1, maxLocals := 1, code := jdk_91_method_1_code, exceptionTable := #[], attributes := #[] }
def k14m0 : Method := { name := "<init>", desc := "()V", sig := { parameters := [], returnType := none }, accessFlags := 4, code := some k14c0 }
/-- java/util/AbstractSet -/
def k14 : Class := { plain "java/util/AbstractSet" (some 12) with
  accessFlags := 1057
  interfaces := #[13]
  cf := some (fileOf pool14 16 #[] #[{ accessFlags := 4, nameIndex := 5, descriptorIndex := 6, attributes := #[] }] 1057 2 #[7] #[])
  fields := #[]
  methods := #[k14m0]
  instanceTypes := #[]
  staticTypes := #[]
  resolved := Array.replicate 96 none
  statics := none }

def pool15 : Array CpInfo := pool [(1, .class_ 2), (0, u "java/lang/Cloneable"), (0, .class_ 4), (0, u "java/lang/Object")] 2

/-- java/lang/Cloneable -/
def k15 : Class := { plain "java/lang/Cloneable" (some 0) with
  accessFlags := 1537
  interfaces := #[]
  cf := some (fileOf pool15 1 #[] #[] 1537 3 #[] #[])
  fields := #[]
  methods := #[]
  instanceTypes := #[]
  staticTypes := #[]
  resolved := Array.replicate 7 none
  statics := none }

def pool16 : Array CpInfo := pool [(1, .methodref 2 3), (0, .class_ 4), (0, .nameAndType 5 6), (0, u "java/util/AbstractSet"), (0, u "<init>"), (0, u "()V"), (0, .class_ 8), (0, u "java/util/HashMap"), (0, .methodref 7 3), (0, .fieldref 11 12), (0, .class_ 13), (0, .nameAndType 14 15), (0, u "java/util/HashSet"), (0, u "map"), (0, u "Ljava/util/HashMap;"), (34, .class_ 52), (1, u "java/util/Set"), (13, u "PRESENT"), (0, u "Ljava/lang/Object;"), (158, .class_ 227), (0, u "java/lang/Cloneable"), (0, .class_ 229), (0, u "java/io/Serializable"), (0, u "serialVersionUID"), (0, u "J")] 71

def k16c0 : Code := { maxStack := 3, maxLocals := 1, code := jdk_93_method_1_code, exceptionTable := #[], attributes := #[] }
def k16m0 : Method := { name := "<init>", desc := "()V", sig := { parameters := [], returnType := none }, accessFlags := 1, code := some k16c0 }
/-- java/util/HashSet -/
def k16 : Class := { plain "java/util/HashSet" (some 14) with
  accessFlags := 33
  interfaces := #[13, 15, 2]
  cf := some (fileOf pool16 11 #[] #[{ accessFlags := 1, nameIndex := 5, descriptorIndex := 6, attributes := #[] }] 33 2 #[50, 226, 228] #[{ accessFlags := 24, nameIndex := 230, descriptorIndex := 231, attributes := #[] }, { accessFlags := 128, nameIndex := 14, descriptorIndex := 15, attributes := #[] }, { accessFlags := 24, nameIndex := 66, descriptorIndex := 67, attributes := #[] }])
  fields := #[{ name := "serialVersionUID", type := .long, accessFlags := 24, slot := 0, constantValue := 0 }, { name := "map", type := (.object "java/util/HashMap"), accessFlags := 128, slot := 0, constantValue := 0 }, { name := "PRESENT", type := (.object "java/lang/Object"), accessFlags := 24, slot := 1, constantValue := 0 }]
  methods := #[k16m0]
  instanceTypes := #[(.object "java/util/HashMap")]
  staticTypes := #[.long, (.object "java/lang/Object")]
  resolved := Array.replicate 303 none
  statics := none }

def pool17 : Array CpInfo := pool [(2, .class_ 4), (1, u "java/util/Map"), (31, .class_ 37), (0, u "java/util/Map$Entry"), (55, .class_ 94), (0, u "java/lang/Object")] 168

/-- java/util/Map -/
def k17 : Class := { plain "java/util/Map" (some 0) with
  accessFlags := 1537
  interfaces := #[]
  cf := some (fileOf pool17 2 #[.nestMembers #[36]] #[] 1537 93 #[] #[])
  fields := #[]
  methods := #[]
  instanceTypes := #[]
  staticTypes := #[]
  resolved := Array.replicate 263 none
  statics := none }

def pool18 : Array CpInfo := pool [(1, .methodref 2 3), (0, .class_ 4), (0, .nameAndType 5 6), (0, u "java/lang/Object"), (0, u "<init>"), (0, u "()V"), (1, .class_ 10), (1, u "java/util/AbstractMap"), (42, .class_ 54), (0, u "java/util/Map"), (9, u "keySet"), (0, u "Ljava/util/Set;"), (0, .class_ 67), (0, u "java/util/AbstractMap$1"), (5, u "values"), (0, u "Ljava/util/Collection;"), (0, .class_ 76), (0, u "java/util/AbstractMap$2"), (104, .class_ 182), (0, u "java/util/AbstractMap$ViewCollection"), (0, .class_ 184), (0, u "java/util/AbstractMap$SimpleImmutableEntry"), (0, .class_ 186), (0, u "java/util/AbstractMap$SimpleEntry"), (0, .class_ 188), (0, u "java/util/AbstractMap$2$1"), (0, .class_ 190), (0, u "java/util/AbstractMap$1$1")] 5

def k18c0 : Code := { maxStack := 1, maxLocals := 1, code := jdk_71_method_1_code, exceptionTable := #[], attributes := #[] }
def k18m0 : Method := { name := "<init>", desc := "()V", sig := { parameters := [], returnType := none }, accessFlags := 4, code := some k18c0 }
/-- java/util/AbstractMap -/
def k18 : Class := { plain "java/util/AbstractMap" (some 0) with
  accessFlags := 1057
  interfaces := #[17]
  cf := some (fileOf pool18 8 #[.nestMembers #[181, 183, 185, 75, 187, 66, 189]] #[{ accessFlags := 4, nameIndex := 5, descriptorIndex := 6, attributes := #[] }] 1057 2 #[53] #[{ accessFlags := 128, nameIndex := 64, descriptorIndex := 65, attributes := #[] }, { accessFlags := 128, nameIndex := 73, descriptorIndex := 74, attributes := #[] }])
  fields := #[{ name := "keySet", type := (.object "java/util/Set"), accessFlags := 128, slot := 0, constantValue := 0 }, { name := "values", type := (.object "java/util/Collection"), accessFlags := 128, slot := 1, constantValue := 0 }]
  methods := #[k18m0]
  instanceTypes := #[(.object "java/util/Set"), (.object "java/util/Collection")]
  staticTypes := #[]
  resolved := Array.replicate 196 none
  statics := none }

def pool19 : Array CpInfo := pool [(40, .class_ 41), (0, u "java/util/HashMap"), (1, .methodref 44 45), (0, .class_ 46), (0, .nameAndType 47 48), (0, u "java/util/AbstractMap"), (0, u "<init>"), (0, u "()V"), (32, .fieldref 40 82), (0, .nameAndType 83 84), (0, u "loadFactor"), (0, u "F"), (5, u "threshold"), (0, u "I"), (0, .float 1061158912), (8, .class_ 103), (1, u "java/util/Map"), (0, u "size"), (2, u "table"), (0, u "[Ljava/util/HashMap$Node;"), (14, u "entrySet"), (39, .class_ 165), (1, u "java/util/HashMap$Node"), (14, .class_ 181), (0, u "java/util/HashMap$TreeNode"), (22, u "modCount"), (37, u "Ljava/util/Set;"), (0, .class_ 244), (0, u "java/util/HashMap$KeySet"), (18, .class_ 264), (0, u "java/util/HashMap$Values"), (3, .class_ 269), (0, u "java/util/HashMap$EntrySet"), (76, .class_ 348), (1, u "java/util/HashMap$UnsafeHolder"), (43, .class_ 393), (0, u "java/lang/Cloneable"), (0, .class_ 395), (0, u "java/io/Serializable"), (0, u "serialVersionUID"), (0, u "J"), (3, u "DEFAULT_INITIAL_CAPACITY"), (1, u "MAXIMUM_CAPACITY"), (0, u "DEFAULT_LOAD_FACTOR"), (0, u "TREEIFY_THRESHOLD"), (1, u "UNTREEIFY_THRESHOLD"), (1, u "MIN_TREEIFY_CAPACITY"), (186, .class_ 597), (0, u "java/util/HashMap$EntrySpliterator"), (0, .class_ 599), (0, u "java/util/HashMap$ValueSpliterator"), (0, .class_ 601), (0, u "java/util/HashMap$KeySpliterator"), (0, .class_ 603), (0, u "java/util/HashMap$HashMapSpliterator"), (0, .class_ 605), (0, u "java/util/HashMap$EntryIterator"), (0, .class_ 607), (0, u "java/util/HashMap$ValueIterator"), (0, .class_ 609), (0, u "java/util/HashMap$KeyIterator"), (0, .class_ 611), (0, u "java/util/HashMap$HashIterator")] 17

def k19c0 : Code := { maxStack := 2, maxLocals := 1, code := jdk_69_method_7_code, exceptionTable := #[], attributes := #[] }
def k19m0 : Method := { name := "<init>", desc := "()V", sig := { parameters := [], returnType := none }, accessFlags := 1, code := some k19c0 }
/-- java/util/HashMap -/
def k19 : Class := { plain "java/util/HashMap" (some 18) with
  accessFlags := 33
  interfaces := #[17, 15, 2]
  cf := some (fileOf pool19 40 #[.nestMembers #[180, 596, 598, 600, 602, 604, 606, 608, 610, 346, 268, 263, 243, 163]] #[{ accessFlags := 1, nameIndex := 47, descriptorIndex := 48, attributes := #[] }] 33 44 #[101, 392, 394] #[{ accessFlags := 26, nameIndex := 396, descriptorIndex := 397, attributes := #[] }, { accessFlags := 24, nameIndex := 401, descriptorIndex := 91, attributes := #[] }, { accessFlags := 24, nameIndex := 403, descriptorIndex := 91, attributes := #[] }, { accessFlags := 24, nameIndex := 404, descriptorIndex := 84, attributes := #[] }, { accessFlags := 24, nameIndex := 405, descriptorIndex := 91, attributes := #[] }, { accessFlags := 24, nameIndex := 407, descriptorIndex := 91, attributes := #[] }, { accessFlags := 24, nameIndex := 409, descriptorIndex := 91, attributes := #[] }, { accessFlags := 128, nameIndex := 107, descriptorIndex := 108, attributes := #[] }, { accessFlags := 128, nameIndex := 123, descriptorIndex := 242, attributes := #[] }, { accessFlags := 128, nameIndex := 104, descriptorIndex := 91, attributes := #[] }, { accessFlags := 128, nameIndex := 204, descriptorIndex := 91, attributes := #[] }, { accessFlags := 0, nameIndex := 90, descriptorIndex := 91, attributes := #[] }, { accessFlags := 16, nameIndex := 83, descriptorIndex := 84, attributes := #[] }])
  fields := #[{ name := "serialVersionUID", type := .long, accessFlags := 26, slot := 0, constantValue := 0 }, { name := "DEFAULT_INITIAL_CAPACITY", type := .int, accessFlags := 24, slot := 1, constantValue := 0 }, { name := "MAXIMUM_CAPACITY", type := .int, accessFlags := 24, slot := 2, constantValue := 0 }, { name := "DEFAULT_LOAD_FACTOR", type := .float, accessFlags := 24, slot := 3, constantValue := 0 }, { name := "TREEIFY_THRESHOLD", type := .int, accessFlags := 24, slot := 4, constantValue := 0 }, { name := "UNTREEIFY_THRESHOLD", type := .int, accessFlags := 24, slot := 5, constantValue := 0 }, { name := "MIN_TREEIFY_CAPACITY", type := .int, accessFlags := 24, slot := 6, constantValue := 0 }, { name := "table", type := (.array (.object "java/util/HashMap$Node")), accessFlags := 128, slot := 2, constantValue := 0 }, { name := "entrySet", type := (.object "java/util/Set"), accessFlags := 128, slot := 3, constantValue := 0 }, { name := "size", type := .int, accessFlags := 128, slot := 4, constantValue := 0 }, { name := "modCount", type := .int, accessFlags := 128, slot := 5, constantValue := 0 }, { name := "threshold", type := .int, accessFlags := 0, slot := 6, constantValue := 0 }, { name := "loadFactor", type := .float, accessFlags := 16, slot := 7, constantValue := 0 }]
  methods := #[k19m0]
  instanceTypes := #[(.object "java/util/Set"), (.object "java/util/Collection"), (.array (.object "java/util/HashMap$Node")), (.object "java/util/Set"), .int, .int, .int, .float]
  staticTypes := #[.long, .int, .int, .float, .int, .int, .int]
  resolved := Array.replicate 629 none
  statics := none }

def pool20 : Array CpInfo := pool [(4, .class_ 6), (1, u "java/lang/Object"), (0, u "<init>"), (0, u "()V"), (5, .class_ 16), (1, u "java/lang/StringLatin1"), (104, u "$assertionsDisabled"), (0, u "Z"), (98, .class_ 223), (1, u "java/lang/StringLatin1$LinesSpliterator"), (166, .class_ 391), (0, u "java/lang/StringLatin1$CharsSpliterator")] 3

def k20m0 : Method := { name := "<init>", desc := "()V", sig := { parameters := [], returnType := none }, accessFlags := 0, code := none }
/-- java/lang/StringLatin1 -/
def k20 : Class := { plain "java/lang/StringLatin1" (some 0) with
  accessFlags := 48
  interfaces := #[]
  cf := some (fileOf pool20 14 #[.nestMembers #[390, 221]] #[{ accessFlags := 0, nameIndex := 7, descriptorIndex := 8, attributes := #[] }] 48 4 #[] #[{ accessFlags := 4120, nameIndex := 121, descriptorIndex := 122, attributes := #[] }])
  fields := #[{ name := "$assertionsDisabled", type := .boolean, accessFlags := 4120, slot := 0, constantValue := 0 }]
  methods := #[k20m0]
  instanceTypes := #[]
  staticTypes := #[.boolean]
  resolved := Array.replicate 395 none
  statics := none }

def pool21 : Array CpInfo := pool [(2, .class_ 4), (1, u "java/lang/Object"), (0, u "<init>"), (0, u "()V"), (17, .class_ 26), (1, u "jdk/internal/util/Preconditions"), (28, .class_ 56), (0, u "jdk/internal/util/Preconditions$4"), (57, .class_ 115), (0, u "jdk/internal/util/Preconditions$1"), (7, u "SIOOBE_FORMATTER"), (0, u "Ljava/util/function/BiFunction;"), (0, .class_ 126), (0, u "jdk/internal/util/Preconditions$2"), (3, u "AIOOBE_FORMATTER"), (0, .class_ 132), (0, u "jdk/internal/util/Preconditions$3"), (3, u "IOOBE_FORMATTER")] 57

def k21m0 : Method := { name := "<init>", desc := "()V", sig := { parameters := [], returnType := none }, accessFlags := 1, code := none }
/-- jdk/internal/util/Preconditions -/
def k21 : Class := { plain "jdk/internal/util/Preconditions" (some 0) with
  accessFlags := 33
  interfaces := #[]
  cf := some (fileOf pool21 24 #[.nestMembers #[55, 131, 125, 114]] #[{ accessFlags := 1, nameIndex := 5, descriptorIndex := 6, attributes := #[] }] 33 2 #[] #[{ accessFlags := 25, nameIndex := 123, descriptorIndex := 124, attributes := #[] }, { accessFlags := 25, nameIndex := 130, descriptorIndex := 124, attributes := #[] }, { accessFlags := 25, nameIndex := 136, descriptorIndex := 124, attributes := #[] }])
  fields := #[{ name := "SIOOBE_FORMATTER", type := (.object "java/util/function/BiFunction"), accessFlags := 25, slot := 0, constantValue := 0 }, { name := "AIOOBE_FORMATTER", type := (.object "java/util/function/BiFunction"), accessFlags := 25, slot := 1, constantValue := 0 }, { name := "IOOBE_FORMATTER", type := (.object "java/util/function/BiFunction"), accessFlags := 25, slot := 2, constantValue := 0 }]
  methods := #[k21m0]
  instanceTypes := #[]
  staticTypes := #[(.object "java/util/function/BiFunction"), (.object "java/util/function/BiFunction"), (.object "java/util/function/BiFunction")]
  resolved := Array.replicate 194 none
  statics := some 1 }

def pool22 : Array CpInfo := pool [(9, u "<init>"), (6, .class_ 18), (1, u "java/lang/Object"), (0, u "()V"), (1, .class_ 23), (1, u "jdk/internal/util/ArraysSupport"), (0, u "LOG2_ARRAY_LONG_INDEX_SCALE"), (0, u "I"), (2, u "U"), (0, u "Ljdk/internal/misc/Unsafe;"), (8, u "BIG_ENDIAN"), (0, u "Z"), (8, u "LOG2_BYTE_BIT_SIZE"), (4, u "LOG2_ARRAY_INT_INDEX_SCALE"), (54, u "JLA"), (0, u "Ljdk/internal/access/JavaLangAccess;"), (11, u "LOG2_ARRAY_BOOLEAN_INDEX_SCALE"), (9, u "LOG2_ARRAY_BYTE_INDEX_SCALE"), (5, u "LOG2_ARRAY_CHAR_INDEX_SCALE"), (5, u "LOG2_ARRAY_SHORT_INDEX_SCALE"), (18, u "LOG2_ARRAY_FLOAT_INDEX_SCALE"), (24, u "LOG2_ARRAY_DOUBLE_INDEX_SCALE"), (89, u "T_BOOLEAN"), (2, u "T_CHAR"), (1, u "T_FLOAT"), (1, u "T_DOUBLE"), (1, u "T_BYTE"), (1, u "T_SHORT"), (1, u "T_INT"), (1, u "T_LONG"), (1, u "SOFT_MAX_ARRAY_LENGTH")] 83

def k22m0 : Method := { name := "<init>", desc := "()V", sig := { parameters := [], returnType := none }, accessFlags := 2, code := none }
/-- jdk/internal/util/ArraysSupport -/
def k22 : Class := { plain "jdk/internal/util/ArraysSupport" (some 0) with
  accessFlags := 33
  interfaces := #[]
  cf := some (fileOf pool22 21 #[] #[{ accessFlags := 2, nameIndex := 9, descriptorIndex := 19, attributes := #[] }] 33 16 #[] #[{ accessFlags := 24, nameIndex := 28, descriptorIndex := 29, attributes := #[] }, { accessFlags := 26, nameIndex := 38, descriptorIndex := 39, attributes := #[] }, { accessFlags := 25, nameIndex := 121, descriptorIndex := 25, attributes := #[] }, { accessFlags := 25, nameIndex := 131, descriptorIndex := 25, attributes := #[] }, { accessFlags := 25, nameIndex := 137, descriptorIndex := 25, attributes := #[] }, { accessFlags := 25, nameIndex := 143, descriptorIndex := 25, attributes := #[] }, { accessFlags := 25, nameIndex := 53, descriptorIndex := 25, attributes := #[] }, { accessFlags := 25, nameIndex := 24, descriptorIndex := 25, attributes := #[] }, { accessFlags := 25, nameIndex := 162, descriptorIndex := 25, attributes := #[] }, { accessFlags := 25, nameIndex := 187, descriptorIndex := 25, attributes := #[] }, { accessFlags := 26, nameIndex := 48, descriptorIndex := 25, attributes := #[] }, { accessFlags := 25, nameIndex := 277, descriptorIndex := 25, attributes := #[] }, { accessFlags := 25, nameIndex := 280, descriptorIndex := 25, attributes := #[] }, { accessFlags := 25, nameIndex := 282, descriptorIndex := 25, attributes := #[] }, { accessFlags := 25, nameIndex := 284, descriptorIndex := 25, attributes := #[] }, { accessFlags := 25, nameIndex := 286, descriptorIndex := 25, attributes := #[] }, { accessFlags := 25, nameIndex := 288, descriptorIndex := 25, attributes := #[] }, { accessFlags := 25, nameIndex := 290, descriptorIndex := 25, attributes := #[] }, { accessFlags := 25, nameIndex := 292, descriptorIndex := 25, attributes := #[] }, { accessFlags := 26, nameIndex := 108, descriptorIndex := 109, attributes := #[] }, { accessFlags := 25, nameIndex := 294, descriptorIndex := 25, attributes := #[] }])
  fields := #[{ name := "U", type := (.object "jdk/internal/misc/Unsafe"), accessFlags := 24, slot := 0, constantValue := 0 }, { name := "BIG_ENDIAN", type := .boolean, accessFlags := 26, slot := 1, constantValue := 0 }, { name := "LOG2_ARRAY_BOOLEAN_INDEX_SCALE", type := .int, accessFlags := 25, slot := 2, constantValue := 0 }, { name := "LOG2_ARRAY_BYTE_INDEX_SCALE", type := .int, accessFlags := 25, slot := 3, constantValue := 0 }, { name := "LOG2_ARRAY_CHAR_INDEX_SCALE", type := .int, accessFlags := 25, slot := 4, constantValue := 0 }, { name := "LOG2_ARRAY_SHORT_INDEX_SCALE", type := .int, accessFlags := 25, slot := 5, constantValue := 0 }, { name := "LOG2_ARRAY_INT_INDEX_SCALE", type := .int, accessFlags := 25, slot := 6, constantValue := 0 }, { name := "LOG2_ARRAY_LONG_INDEX_SCALE", type := .int, accessFlags := 25, slot := 7, constantValue := 0 }, { name := "LOG2_ARRAY_FLOAT_INDEX_SCALE", type := .int, accessFlags := 25, slot := 8, constantValue := 0 }, { name := "LOG2_ARRAY_DOUBLE_INDEX_SCALE", type := .int, accessFlags := 25, slot := 9, constantValue := 0 }, { name := "LOG2_BYTE_BIT_SIZE", type := .int, accessFlags := 26, slot := 10, constantValue := 0 }, { name := "T_BOOLEAN", type := .int, accessFlags := 25, slot := 11, constantValue := 0 }, { name := "T_CHAR", type := .int, accessFlags := 25, slot := 12, constantValue := 0 }, { name := "T_FLOAT", type := .int, accessFlags := 25, slot := 13, constantValue := 0 }, { name := "T_DOUBLE", type := .int, accessFlags := 25, slot := 14, constantValue := 0 }, { name := "T_BYTE", type := .int, accessFlags := 25, slot := 15, constantValue := 0 }, { name := "T_SHORT", type := .int, accessFlags := 25, slot := 16, constantValue := 0 }, { name := "T_INT", type := .int, accessFlags := 25, slot := 17, constantValue := 0 }, { name := "T_LONG", type := .int, accessFlags := 25, slot := 18, constantValue := 0 }, { name := "JLA", type := (.object "jdk/internal/access/JavaLangAccess"), accessFlags := 26, slot := 19, constantValue := 0 }, { name := "SOFT_MAX_ARRAY_LENGTH", type := .int, accessFlags := 25, slot := 20, constantValue := 0 }]
  methods := #[k22m0]
  instanceTypes := #[]
  staticTypes := #[(.object "jdk/internal/misc/Unsafe"), .boolean, .int, .int, .int, .int, .int, .int, .int, .int, .int, .int, .int, .int, .int, .int, .int, .int, .int, (.object "jdk/internal/access/JavaLangAccess"), .int]
  resolved := Array.replicate 378 none
  statics := none }

/-- the primitive byte -/
def k23 : Class := { plain "byte" none with kind := .primitive 'B', accessFlags := 0x411 }
/-- [B -/
def k24 : Class := { plain "[B" (some 0) with kind := .array 23 .byte, interfaces := #[15, 2], accessFlags := 1041 }

/-- the primitive char -/
def k25 : Class := { plain "char" none with kind := .primitive 'C', accessFlags := 0x411 }
/-- [C -/
def k26 : Class := { plain "[C" (some 0) with kind := .array 25 .char, interfaces := #[15, 2], accessFlags := 1041 }

/-- the primitive int -/
def k27 : Class := { plain "int" none with kind := .primitive 'I', accessFlags := 0x411 }
/-- [I -/
def k28 : Class := { plain "[I" (some 0) with kind := .array 27 .int, interfaces := #[15, 2], accessFlags := 1041 }

/-- [Ljava/lang/String; -/
def k29 : Class := { plain "[Ljava/lang/String;" (some 0) with kind := .array 7 (.object "java/lang/String"), interfaces := #[15, 2], accessFlags := 1041 }

def heap : Heap := #[{ cls := 7, slots := #[.long 0, .int 1, .null, .int 0, .null, .int 0, .int 0], vm := .statics 7 },
  { cls := 21, slots := #[.null, .null, .null], vm := .statics 21 }]
def classes : Array Class := #[k0, k1, k2, k3, k4, k5, k6, k7, k8, k9, k10, k11, k12, k13, k14, k15, k16, k17, k18, k19, k20, k21, k22, k23, k24, k25, k26, k27, k28, k29]
def interned : List (Array UInt16 × Addr) := []
def slotsUsed : Nat := 10
def theMethod : MethodId := ⟨1, 1⟩
def args0 : Array Value := #[.int 5, .int 5, .int 5, .int 5]
def aboutOver (below : List Frame) : State where
  vm := { classes := classes, interned := interned.toArray }
  heap := heap
  slotsUsed := slotsUsed
  threads := #[{ frames := .invoking theMethod args0 :: below }]
def below0 : List Frame := [.native { method := ⟨0, 0⟩, args := #[] }]
def about1 : State := aboutOver below0
def p0 : Program := .bare "" "" ""
def e0 : Env := launch0.env 0 0 0
theorem w_frames : about1.frames = Frame.invoking theMethod args0 :: below0 := rfl
set_option maxRecDepth 65536 in
theorem w_args : argsFit about1.vm theMethod args0 = true := by decide +kernel
set_option maxRecDepth 65536 in
theorem w_heap : heapFits about1 = true := by decide +kernel
set_option maxRecDepth 65536 in
theorem w_runnable : about1.curStatus? = some .runnable := by decide +kernel
set_option maxRecDepth 65536 in
theorem w_alone : about1.alone = true := by decide +kernel
set_option maxRecDepth 65536 in
theorem w_named : about1.methodNamed? x = some theMethod := by decide +kernel
set_option maxRecDepth 65536 in
theorem w_hears : about1.hears theMethod below0 = true := by decide +kernel
set_option maxRecDepth 65536 in
theorem w_ripe : about1.ripe theMethod args0 below0 = true := by decide +kernel
theorem w_running : about1.status = .running := rfl
set_option maxRecDepth 65536 in
theorem w_room : about1.hasRoom e0.platform room_1 = true :=
  launch0.hasRoom_least _ room_1 (by decide +kernel) (by decide +kernel) (by decide +kernel) (by decide +kernel) (by decide +kernel) (by decide +kernel)
theorem allAtoms_all (ts : List Jvm.Cond) (a : Array Jvm.Value) (st : Jvm.State) : (allAtoms ts).before a st = ts.all (fun c => c.before a st) := by
  induction ts with
  | nil => rfl
  | cons c t ih =>
    show (Jvm.Cond.and c (allAtoms t)).before a st = _
    rw [Jvm.Cond.before_and, ih, List.all_cons]
def words1 : List Jvm.Cond := Jvm.Cond.code x code maxLocals ret :: tables_1
/-- a 'code' word, met by the world's own term for the bytes: nothing is compared byte by byte -/
theorem code_word {y : MethodName} {bytes : ByteArray} {mx : Nat} {rt : Option FieldType} {a : Array Value} {s : State} {m : MethodId} {meth : Method} {c : Code} (h1 : s.methodNamed? y = some m) (h2 : s.vm.method? m = some meth) (h3 : meth.code = some c) (h4 : c.code = bytes)
    (h5 : (c.maxLocals == mx && c.exceptionTable.isEmpty && decide (c.maxStack ≤ mostOperands) && decide (meth.sig.returnType = rt) && !meth.locks && decide (parseMethodDescriptor y.desc = some meth.sig)) = true) : (Jvm.Cond.code y bytes mx rt).before a s = true := by
  simp only [Bool.and_eq_true, beq_iff_eq, Bool.not_eq_true', decide_eq_true_eq] at h5
  obtain ⟨⟨⟨⟨⟨g1, g2⟩, g3⟩, g4⟩, g5⟩, g6⟩ := h5
  simp [Cond.before, Cond.holds, Cond.value, h1, h2, h3, h4, g1, g2, g3, g4, g5, g6]
def isCode : Jvm.Cond → Bool
  | .code _ _ _ _ => true
  | _ => false
theorem all_split {L : List Jvm.Cond} {P : Jvm.Cond → Bool} (h1 : L.all (fun c => isCode c || P c) = true) (h2 : ∀ c ∈ L.filter isCode, P c = true) : L.all P = true := by
  refine List.all_eq_true.mpr fun c hc => ?_
  have h := List.all_eq_true.mp h1 c hc
  rcases Bool.eq_false_or_eq_true (isCode c) with hi | hi
  · exact h2 c (List.mem_filter.mpr ⟨hc, hi⟩)
  · simpa [hi] using h
set_option maxRecDepth 65536 in
theorem w_c0 : (Jvm.Cond.code x code maxLocals ret).before args0 about1 = true := code_word (m := ⟨1, 1⟩) (meth := k1m1) (c := k1c1) (by decide +kernel) rfl rfl rfl (by decide +kernel)
set_option maxRecDepth 65536 in
theorem w_c1 : (Jvm.Cond.code ({ cls := "java/lang/String", name := "<init>", desc := "([C)V" } : Jvm.MethodName) jdk_42_method_3_code (2 : Nat) (Option.none : Option Jvm.ClassFile.FieldType)).before args0 about1 = true := code_word (m := ⟨7, 1⟩) (meth := k7m1) (c := k7c1) (by decide +kernel) rfl rfl rfl (by decide +kernel)
set_option maxRecDepth 65536 in
theorem w_c2 : (Jvm.Cond.code ({ cls := "java/lang/String", name := "<init>", desc := "([CIILjava/lang/Void;)V" } : Jvm.MethodName) jdk_42_method_149_code (6 : Nat) (Option.none : Option Jvm.ClassFile.FieldType)).before args0 about1 = true := code_word (m := ⟨7, 3⟩) (meth := k7m3) (c := k7c3) (by decide +kernel) rfl rfl rfl (by decide +kernel)
set_option maxRecDepth 65536 in
theorem w_c3 : (Jvm.Cond.code ({ cls := "java/lang/Object", name := "<init>", desc := "()V" } : Jvm.MethodName) object_method_1_code (1 : Nat) (Option.none : Option Jvm.ClassFile.FieldType)).before args0 about1 = true := code_word (m := ⟨0, 0⟩) (meth := k0m0) (c := k0c0) (by decide +kernel) rfl rfl rfl (by decide +kernel)
set_option maxRecDepth 65536 in
theorem w_c4 : (Jvm.Cond.code ({ cls := "java/lang/StringUTF16", name := "compress", desc := "([CII)[B" } : Jvm.MethodName) jdk_52_method_16_code (6 : Nat) (Option.some (Jvm.ClassFile.FieldType.array Jvm.ClassFile.FieldType.byte))).before args0 about1 = true := code_word (m := ⟨8, 2⟩) (meth := k8m2) (c := k8c2) (by decide +kernel) rfl rfl rfl (by decide +kernel)
set_option maxRecDepth 65536 in
theorem w_c5 : (Jvm.Cond.code ({ cls := "java/lang/StringUTF16", name := "compress", desc := "([CI[BII)I" } : Jvm.MethodName) jdk_52_method_21_code (7 : Nat) (Option.some Jvm.ClassFile.FieldType.int)).before args0 about1 = true := code_word (m := ⟨8, 3⟩) (meth := k8m3) (c := k8c3) (by decide +kernel) rfl rfl rfl (by decide +kernel)
set_option maxRecDepth 65536 in
theorem w_c6 : (Jvm.Cond.code ({ cls := "java/lang/StringUTF16", name := "coderFromArrayLen", desc := "([BI)B" } : Jvm.MethodName) jdk_52_method_15_code (2 : Nat) (Option.some Jvm.ClassFile.FieldType.byte)).before args0 about1 = true := code_word (m := ⟨8, 1⟩) (meth := k8m1) (c := k8c1) (by decide +kernel) rfl rfl rfl (by decide +kernel)
set_option maxRecDepth 65536 in
theorem w_c7 : (Jvm.Cond.code ({ cls := "com/example/reportwire/reportwire/Arguments", name := "<init>", desc := "([Ljava/lang/String;)V" } : Jvm.MethodName) prog_7_method_1_code (2 : Nat) (Option.none : Option Jvm.ClassFile.FieldType)).before args0 about1 = true := code_word (m := ⟨9, 0⟩) (meth := k9m0) (c := k9c0) (by decide +kernel) rfl rfl rfl (by decide +kernel)
set_option maxRecDepth 65536 in
theorem w_c8 : (Jvm.Cond.code ({ cls := "java/util/HashSet", name := "<init>", desc := "()V" } : Jvm.MethodName) jdk_93_method_1_code (1 : Nat) (Option.none : Option Jvm.ClassFile.FieldType)).before args0 about1 = true := code_word (m := ⟨16, 0⟩) (meth := k16m0) (c := k16c0) (by decide +kernel) rfl rfl rfl (by decide +kernel)
set_option maxRecDepth 65536 in
theorem w_c9 : (Jvm.Cond.code ({ cls := "java/util/AbstractSet", name := "<init>", desc := "()V" } : Jvm.MethodName) jdk_91_method_1_code (1 : Nat) (Option.none : Option Jvm.ClassFile.FieldType)).before args0 about1 = true := code_word (m := ⟨14, 0⟩) (meth := k14m0) (c := k14c0) (by decide +kernel) rfl rfl rfl (by decide +kernel)
set_option maxRecDepth 65536 in
theorem w_c10 : (Jvm.Cond.code ({ cls := "java/util/AbstractCollection", name := "<init>", desc := "()V" } : Jvm.MethodName) jdk_22_method_1_code (1 : Nat) (Option.none : Option Jvm.ClassFile.FieldType)).before args0 about1 = true := code_word (m := ⟨12, 0⟩) (meth := k12m0) (c := k12c0) (by decide +kernel) rfl rfl rfl (by decide +kernel)
set_option maxRecDepth 65536 in
theorem w_c11 : (Jvm.Cond.code ({ cls := "java/util/HashMap", name := "<init>", desc := "()V" } : Jvm.MethodName) jdk_69_method_7_code (1 : Nat) (Option.none : Option Jvm.ClassFile.FieldType)).before args0 about1 = true := code_word (m := ⟨19, 0⟩) (meth := k19m0) (c := k19c0) (by decide +kernel) rfl rfl rfl (by decide +kernel)
set_option maxRecDepth 65536 in
theorem w_c12 : (Jvm.Cond.code ({ cls := "java/util/AbstractMap", name := "<init>", desc := "()V" } : Jvm.MethodName) jdk_71_method_1_code (1 : Nat) (Option.none : Option Jvm.ClassFile.FieldType)).before args0 about1 = true := code_word (m := ⟨18, 0⟩) (meth := k18m0) (c := k18c0) (by decide +kernel) rfl rfl rfl (by decide +kernel)
set_option maxRecDepth 65536 in
theorem w_c13 : (Jvm.Cond.code ({ cls := "com/example/reportwire/reportwire/Arguments", name := "next", desc := "()Ljava/lang/String;" } : Jvm.MethodName) prog_7_method_10_code (2 : Nat) (Option.some (Jvm.ClassFile.FieldType.object "java/lang/String"))).before args0 about1 = true := code_word (m := ⟨9, 3⟩) (meth := k9m3) (c := k9c3) (by decide +kernel) rfl rfl rfl (by decide +kernel)
set_option maxRecDepth 65536 in
theorem w_c14 : (Jvm.Cond.code ({ cls := "com/example/reportwire/reportwire/Arguments", name := "peek", desc := "()Ljava/lang/String;" } : Jvm.MethodName) prog_7_method_9_code (1 : Nat) (Option.some (Jvm.ClassFile.FieldType.object "java/lang/String"))).before args0 about1 = true := code_word (m := ⟨9, 2⟩) (meth := k9m2) (c := k9c2) (by decide +kernel) rfl rfl rfl (by decide +kernel)
set_option maxRecDepth 65536 in
theorem w_c15 : (Jvm.Cond.code ({ cls := "com/example/reportwire/reportwire/Arguments", name := "hasNext", desc := "()Z" } : Jvm.MethodName) prog_7_method_7_code (1 : Nat) (Option.some Jvm.ClassFile.FieldType.boolean)).before args0 about1 = true := code_word (m := ⟨9, 1⟩) (meth := k9m1) (c := k9c1) (by decide +kernel) rfl rfl rfl (by decide +kernel)
set_option maxRecDepth 65536 in
theorem w_c16 : (Jvm.Cond.code ({ cls := "java/lang/String", name := "equals", desc := "(Ljava/lang/Object;)Z" } : Jvm.MethodName) jdk_42_method_66_code (3 : Nat) (Option.some Jvm.ClassFile.FieldType.boolean)).before args0 about1 = true := code_word (m := ⟨7, 2⟩) (meth := k7m2) (c := k7c2) (by decide +kernel) rfl rfl rfl (by decide +kernel)
def codes1 : List Jvm.Cond := [Jvm.Cond.code x code maxLocals ret, Jvm.Cond.code ({ cls := "java/lang/String", name := "<init>", desc := "([C)V" } : Jvm.MethodName) jdk_42_method_3_code (2 : Nat) (Option.none : Option Jvm.ClassFile.FieldType), Jvm.Cond.code ({ cls := "java/lang/String", name := "<init>", desc := "([CIILjava/lang/Void;)V" } : Jvm.MethodName) jdk_42_method_149_code (6 : Nat) (Option.none : Option Jvm.ClassFile.FieldType), Jvm.Cond.code ({ cls := "java/lang/Object", name := "<init>", desc := "()V" } : Jvm.MethodName) object_method_1_code (1 : Nat) (Option.none : Option Jvm.ClassFile.FieldType), Jvm.Cond.code ({ cls := "java/lang/StringUTF16", name := "compress", desc := "([CII)[B" } : Jvm.MethodName) jdk_52_method_16_code (6 : Nat) (Option.some (Jvm.ClassFile.FieldType.array Jvm.ClassFile.FieldType.byte)), Jvm.Cond.code ({ cls := "java/lang/StringUTF16", name := "compress", desc := "([CI[BII)I" } : Jvm.MethodName) jdk_52_method_21_code (7 : Nat) (Option.some Jvm.ClassFile.FieldType.int), Jvm.Cond.code ({ cls := "java/lang/StringUTF16", name := "coderFromArrayLen", desc := "([BI)B" } : Jvm.MethodName) jdk_52_method_15_code (2 : Nat) (Option.some Jvm.ClassFile.FieldType.byte), Jvm.Cond.code ({ cls := "com/example/reportwire/reportwire/Arguments", name := "<init>", desc := "([Ljava/lang/String;)V" } : Jvm.MethodName) prog_7_method_1_code (2 : Nat) (Option.none : Option Jvm.ClassFile.FieldType), Jvm.Cond.code ({ cls := "java/util/HashSet", name := "<init>", desc := "()V" } : Jvm.MethodName) jdk_93_method_1_code (1 : Nat) (Option.none : Option Jvm.ClassFile.FieldType), Jvm.Cond.code ({ cls := "java/util/AbstractSet", name := "<init>", desc := "()V" } : Jvm.MethodName) jdk_91_method_1_code (1 : Nat) (Option.none : Option Jvm.ClassFile.FieldType), Jvm.Cond.code ({ cls := "java/util/AbstractCollection", name := "<init>", desc := "()V" } : Jvm.MethodName) jdk_22_method_1_code (1 : Nat) (Option.none : Option Jvm.ClassFile.FieldType), Jvm.Cond.code ({ cls := "java/util/HashMap", name := "<init>", desc := "()V" } : Jvm.MethodName) jdk_69_method_7_code (1 : Nat) (Option.none : Option Jvm.ClassFile.FieldType), Jvm.Cond.code ({ cls := "java/util/AbstractMap", name := "<init>", desc := "()V" } : Jvm.MethodName) jdk_71_method_1_code (1 : Nat) (Option.none : Option Jvm.ClassFile.FieldType), Jvm.Cond.code ({ cls := "com/example/reportwire/reportwire/Arguments", name := "next", desc := "()Ljava/lang/String;" } : Jvm.MethodName) prog_7_method_10_code (2 : Nat) (Option.some (Jvm.ClassFile.FieldType.object "java/lang/String")), Jvm.Cond.code ({ cls := "com/example/reportwire/reportwire/Arguments", name := "peek", desc := "()Ljava/lang/String;" } : Jvm.MethodName) prog_7_method_9_code (1 : Nat) (Option.some (Jvm.ClassFile.FieldType.object "java/lang/String")), Jvm.Cond.code ({ cls := "com/example/reportwire/reportwire/Arguments", name := "hasNext", desc := "()Z" } : Jvm.MethodName) prog_7_method_7_code (1 : Nat) (Option.some Jvm.ClassFile.FieldType.boolean), Jvm.Cond.code ({ cls := "java/lang/String", name := "equals", desc := "(Ljava/lang/Object;)Z" } : Jvm.MethodName) jdk_42_method_66_code (3 : Nat) (Option.some Jvm.ClassFile.FieldType.boolean)]
set_option maxRecDepth 65536 in
theorem codes_eq : words1.filter isCode = codes1 := rfl
theorem w_codes : ∀ c ∈ words1.filter isCode, c.before args0 about1 = true := by
  rw [codes_eq]
  intro c hc
  simp only [codes1, List.mem_cons, List.not_mem_nil, or_false] at hc
  rcases hc with rfl | rfl | rfl | rfl | rfl | rfl | rfl | rfl | rfl | rfl | rfl | rfl | rfl | rfl | rfl | rfl | rfl
  · exact w_c0
  · exact w_c1
  · exact w_c2
  · exact w_c3
  · exact w_c4
  · exact w_c5
  · exact w_c6
  · exact w_c7
  · exact w_c8
  · exact w_c9
  · exact w_c10
  · exact w_c11
  · exact w_c12
  · exact w_c13
  · exact w_c14
  · exact w_c15
  · exact w_c16
set_option maxRecDepth 65536 in
theorem w_t1 : (words1.take 24).all (fun c => isCode c || c.before args0 about1) = true := by decide +kernel
set_option maxRecDepth 65536 in
theorem w_t2 : ((words1.drop 24).take 24).all (fun c => isCode c || c.before args0 about1) = true := by decide +kernel
set_option maxRecDepth 65536 in
theorem w_t3 : (((words1.drop 24).drop 24).take 24).all (fun c => isCode c || c.before args0 about1) = true := by decide +kernel
set_option maxRecDepth 65536 in
theorem w_t4 : ((((words1.drop 24).drop 24).drop 24).take 24).all (fun c => isCode c || c.before args0 about1) = true := by decide +kernel
set_option maxRecDepth 65536 in
theorem w_t5 : ((((words1.drop 24).drop 24).drop 24).drop 24).all (fun c => isCode c || c.before args0 about1) = true := by decide +kernel
theorem w_tables : (allAtoms (Jvm.Cond.code x code maxLocals ret :: tables_1)).before args0 about1 = true := by
  rw [allAtoms_all]
  show words1.all (fun c => c.before args0 about1) = true
  refine all_split ?_ w_codes
  rw [← List.take_append_drop 24 words1, List.all_append, w_t1, ← List.take_append_drop 24 (words1.drop 24), List.all_append, w_t2, ← List.take_append_drop 24 ((words1.drop 24).drop 24), List.all_append, w_t3, ← List.take_append_drop 24 (((words1.drop 24).drop 24).drop 24), List.all_append, w_t4, w_t5]
  rfl
set_option maxRecDepth 65536 in
theorem w_rest : rest_1_c.before args0 about1 = true := by decide +kernel
set_option maxRecDepth 65536 in
theorem w_case : (Jvm.Cond.and given_1 narrow_1).before args0 about1 = true := by decide +kernel
theorem w_applies : (headSpec (Jvm.Cond.code x code maxLocals ret :: tables_1) room_1).applies x e0.platform about1 = true :=
  (Spec.applies_iff w_frames).mpr ⟨w_running, w_runnable, w_alone, w_named, w_hears, w_ripe, w_room, w_tables⟩
theorem atStart : AtStart classFile x code maxLocals ret World_1 tables_1 room_1 Calls_1 rest_1 Pre_1 launch0 p0 e0 about1 theMethod args0 below0 :=
  ⟨lists_1, trivial, launch0.admits_env _ _ _, launch0.least_env, fairChoices_fair.cas, fairChoices_fair.clock, w_frames, w_args, w_heap, w_applies, trivial, w_rest, w_case⟩
end start1
theorem witness_1 : WitnessClaimed_1 := ⟨start1.p0, start1.e0, start1.about1, start1.theMethod, start1.args0, start1.below0, start1.atStart⟩
end Jvm.Pilot.@@N@@
