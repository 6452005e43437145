import JvmDerived
import JvmDerived.Pilot.@@N@@Statement
import JvmDerived.Pilot.@@N@@Code
set_option linter.unusedVariables false
set_option linter.unusedSimpArgs false
namespace Jvm.Pilot.@@N@@
open Jvm Jvm.ClassFile Sem Op Lib Jvm.Free Jvm.Stand Jvm.LawKit Jvm.RoadKit Bundle Jvm.Pilot.@@N@@.Jvm.D
theorem wdx {a0 : Array Value} {Z : State} (hw : ∀ d ∈ tables_1, d.before a0 Z = true) (i : Nat) {d : Jvm.Cond} (h : tables_1[i]? = some d) : d.before a0 Z = true := hw d (List.mem_of_getElem? h)
/-! the walk in one predicate: from S the run comes to an end at which Q holds -/
def Go (p : Program) (e : Env) (below : List Frame) (s : State) (rc rs : Nat) (Q : Option Value → Heap → List Loc → Prop) (S : State) : Prop :=
  ∃ t o, Steps p.tables e below S t ∧ t.status = .running ∧ Ended t below o ∧ ∃ v L, o = .returned v ∧ Q v t.heap L ∧ FrameEnd s o t L rc rs
section Pre
variable {p : Program} {l : Launch} {e : Env} {R : Room} {s : State} {m : MethodId} {args : Array Value} {below : List Frame} {meth : Method} {c : Code} {T : State} {locs : List Loc} {cells slots rc rs : Nat} {Q : Option Value → Heap → List Loc → Prop} {S S' : State} {h : Heap} {Z : State} {n0 : Nat}
theorem Go.st (k : ∀ t, Steps p.tables e below S' t → Steps p.tables e below S t) (g : Go p e below s rc rs Q S') : Go p e below s rc rs Q S := by
  obtain ⟨t, o, h, r⟩ := g; exact ⟨t, o, k t h, r⟩
theorem Go.tr (k : Steps p.tables e below S S') (g : Go p e below s rc rs Q S') : Go p e below s rc rs Q S := by
  obtain ⟨t, o, h, r⟩ := g; exact ⟨t, o, k.trans h, r⟩
theorem Go.ret (X : Stand p l e R s m args below meth c T locs cells slots) (hx : p.tables.exec = Jvm.exec) (hlk : meth.locks = false) {pc : Nat} {Ls : Array Slot} {w : Value} {t : FieldType} {i : Instr} {rest : List Value} (hret : meth.sig.returnType = some t) (hn : narrow t w = w)
    (hi : (i = .ireturn ∧ (t = .int ∨ t = .boolean ∨ t = .byte ∨ t = .char ∨ t = .short) ∧ ∃ z, w = .int z) ∨ (i = .lreturn ∧ t = .long ∧ ∃ z, w = .long z) ∨ (i = .dreturn ∧ t = .double ∧ ∃ z, w = .double z) ∨ (i = .freturn ∧ t = .float ∧ ∃ z, w = .float z) ∨ (i = .areturn ∧ t.isReference = true ∧ w.isRef = true))
    (hd : decode c.code pc = .ok (i, 1)) (hc : cells ≤ rc) (hs : slots ≤ rs) (hh : T.heap = h) (hq : Q (some w) h locs) : Go p e below s rc rs Q (T.setTop (mkF m pc Ls (w :: rest))) := by
  obtain ⟨fs, hr, hrun, hended, hW, hsame⟩ := X.leave (v := some w) (fun h => by rw [hret] at h; cases h) hlk
  subst hh
  exact ⟨_, _, retOut X hx hret hn hi hd hr, hrun, hended, _, _, rfl, hq, ⟨_, rfl⟩, hW, hsame.mono hc hs⟩
theorem Go.retB (X : Stand p l e R s m args below meth c T locs cells slots) (hx : p.tables.exec = Jvm.exec) (hlk : meth.locks = false) {pc : Nat} {Ls : Array Slot} {z : Int32} {t : FieldType} {rest : List Value} (hret : meth.sig.returnType = some t) (ht : t = .boolean ∨ t = .byte ∨ t = .char ∨ t = .short)
    (hd : decode c.code pc = .ok (.ireturn, 1)) (hc : cells ≤ rc) (hs : slots ≤ rs) (hh : T.heap = h) (hq : Q (some (.int (nar t z))) h locs) : Go p e below s rc rs Q (T.setTop (mkF m pc Ls (.int z :: rest))) := by
  obtain ⟨fs, hr, hrun, hended, hW, hsame⟩ := X.leave (v := some (.int (nar t z))) (fun h => by rw [hret] at h; cases h) hlk
  subst hh
  exact ⟨_, _, retN X hx hret ht hd hr, hrun, hended, _, _, rfl, hq, ⟨_, rfl⟩, hW, hsame.mono hc hs⟩
theorem Go.retV (X : Stand p l e R s m args below meth c T locs cells slots) (hx : p.tables.exec = Jvm.exec) (hlk : meth.locks = false) {pc : Nat} {Ls : Array Slot} (hret : meth.sig.returnType = none)
    (hd : decode c.code pc = .ok (.return_, 1)) (hc : cells ≤ rc) (hs : slots ≤ rs) (hh : T.heap = h) (hq : Q none h locs) : Go p e below s rc rs Q (T.setTop (mkF m pc Ls [])) := by
  obtain ⟨fs, hr, hrun, hended, hW, hsame⟩ := X.leave (v := none) (fun _ => rfl) hlk
  subst hh
  exact ⟨_, _, X.returnOut hx hret hd hr, hrun, hended, _, _, rfl, hq, ⟨_, rfl⟩, hW, hsame.mono hc hs⟩
theorem own_le (O : Old Z n0 h) : n0 ≤ h.size := O.1 ▸ O.2.1
theorem own_nb (b : Bool) : nar .boolean (if b then 1 else 0) = if b then 1 else 0 := by cases b <;> rfl
end Pre
theorem own_en {s : State} {args : Array Value} {C n d K : String} (hx : (Jvm.Cond.exactly (Term.static C n d) K).value args s none s [] = some true) (hi : (Jvm.Cond.initialized C).before args s = true) (hl : (Jvm.Cond.laysStatic C n d).before args s = true) :
    ∃ a, (Term.static C n d).eval args s none [] s = some (.ref a) ∧ Sta s s.heap C n d (.ref a) ∧ Exa s s.heap a K := by
  obtain ⟨a, e1⟩ := exa_v hx
  exact ⟨a, e1, Sta.start e1 (Or.inr ⟨hi, hl⟩), Exa.start e1 hx⟩
theorem own_ef {s : State} {args : Array Value} {t : Term} {a : Addr} {K f d : String} {z : Int32} (ev : t.eval args s none [] s = some (.ref a)) (h : (Jvm.Cond.eq (Term.field t K f d) (Term.int z)).value args s none s [] = some true) : Fld s s.heap a K f d (.int z) :=
  Fld.start ((fld_at ev).symm.trans (eqv_i rfl h))
theorem own_fne {s : State} {h : Heap} {a b : Addr} {K f d : String} {y z : Int32} (F : Fld s h a K f d (.int y)) (G : Fld s h b K f d (.int z)) (q : y ≠ z) : a ≠ b := F.ne G (fun e => q (Value.int.inj e))
theorem own_r5 (y : Int32) (h0 : 0 ≤ y.toInt) (h1 : y.toInt < 5) : y = 0 ∨ y = 1 ∨ y = 2 ∨ y = 3 ∨ y = 4 := by
  have h : y.toInt = 0 ∨ y.toInt = 1 ∨ y.toInt = 2 ∨ y.toInt = 3 ∨ y.toInt = 4 := by omega
  rcases h with h | h | h | h | h
  · exact Or.inl (Int32.toInt_inj.mp h)
  · exact Or.inr (Or.inl (Int32.toInt_inj.mp h))
  · exact Or.inr (Or.inr (Or.inl (Int32.toInt_inj.mp h)))
  · exact Or.inr (Or.inr (Or.inr (Or.inl (Int32.toInt_inj.mp h))))
  · exact Or.inr (Or.inr (Or.inr (Or.inr ((Int32.toInt_inj.mp h)))))
theorem own_c5 (u : Int32) : let y := (u &&& (2147483647 : Int32)) % (5 : Int32); y = 0 ∨ y = 1 ∨ y = 2 ∨ y = 3 ∨ y = 4 := by
  intro y
  have hp : 0 ≤ (u &&& (2147483647 : Int32)).toInt := (c_andS u 2147483647).2.2 (by decide)
  have hm : y.toInt = (u &&& (2147483647 : Int32)).toInt % 5 := (c_irem (u &&& (2147483647 : Int32)) 5 5 rfl).1 hp
  exact own_r5 y (by omega) (by omega)
def fpick (u : Int32) (a_COUNT : Addr) (a_SUM : Addr) (a_MEAN : Addr) (a_MIN : Addr) (a_MAX : Addr) : Addr := if u = 0 then a_COUNT else if u = 1 then a_SUM else if u = 2 then a_MEAN else if u = 3 then a_MIN else a_MAX
theorem d1_0 : decode method_2_code 0 = .ok (.iload_n 0, 1) := by decide +kernel
theorem d1_1 : decode method_2_code 1 = .ok (.ifCond .ne 7, 3) := by decide +kernel
theorem d1_4 : decode method_2_code 4 = .ok (.getstatic 7, 3) := by decide +kernel
theorem d1_7 : decode method_2_code 7 = .ok (.areturn, 1) := by decide +kernel
theorem d1_8 : decode method_2_code 8 = .ok (.iload_n 0, 1) := by decide +kernel
theorem d1_9 : decode method_2_code 9 = .ok (.iconst 1, 1) := by decide +kernel
theorem d1_10 : decode method_2_code 10 = .ok (.if_icmp .ne 7, 3) := by decide +kernel
theorem d1_13 : decode method_2_code 13 = .ok (.getstatic 13, 3) := by decide +kernel
theorem d1_16 : decode method_2_code 16 = .ok (.areturn, 1) := by decide +kernel
theorem d1_17 : decode method_2_code 17 = .ok (.iload_n 0, 1) := by decide +kernel
theorem d1_18 : decode method_2_code 18 = .ok (.iconst 2, 1) := by decide +kernel
theorem d1_19 : decode method_2_code 19 = .ok (.if_icmp .ne 7, 3) := by decide +kernel
theorem d1_22 : decode method_2_code 22 = .ok (.getstatic 16, 3) := by decide +kernel
theorem d1_25 : decode method_2_code 25 = .ok (.areturn, 1) := by decide +kernel
theorem d1_26 : decode method_2_code 26 = .ok (.iload_n 0, 1) := by decide +kernel
theorem d1_27 : decode method_2_code 27 = .ok (.iconst 3, 1) := by decide +kernel
theorem d1_28 : decode method_2_code 28 = .ok (.if_icmp .ne 7, 3) := by decide +kernel
theorem d1_31 : decode method_2_code 31 = .ok (.getstatic 19, 3) := by decide +kernel
theorem d1_34 : decode method_2_code 34 = .ok (.areturn, 1) := by decide +kernel
theorem d1_35 : decode method_2_code 35 = .ok (.getstatic 22, 3) := by decide +kernel
theorem d1_38 : decode method_2_code 38 = .ok (.areturn, 1) := by decide +kernel
theorem pn_com_example_spillway_spillway_policy_DigesterReadsValuesPinLaw : plainName "com/example/spillway/spillway/policy/DigesterReadsValuesPinLaw" = true := by first | (simp [plainName, overriddenIn]; done) | decide +kernel
theorem ef_rm1 (m : MethodId) (u : Int32) : entryFrame m #[(.int u)] 1 = mkF m 0 #[.val (.int u)] [] := by first | (simp [entryFrame, mkF, argsToLocals, Value.category]; done) | rfl
def Q1 (Z : State) (u : Int32) (a_COUNT : Addr) (a_SUM : Addr) (a_MEAN : Addr) (a_MIN : Addr) (a_MAX : Addr) (h0 : Heap) (n0 : Nat) (v : Option Value) (h : Heap) (L : List Loc) : Prop := v = some (.ref (fpick u a_COUNT a_SUM a_MEAN a_MIN a_MAX)) ∧ Fr n0 L ∧ h = h0
set_option maxRecDepth 65536 in
set_option maxHeartbeats 40000000 in
theorem rm1 (l : Launch) (Z : State) (a0 : Array Value) (hw : ∀ d ∈ tables_1, d.before a0 Z = true) (ws : List Jvm.Cond) (u : Int32) (a_COUNT : Addr) (a_SUM : Addr) (a_MEAN : Addr) (a_MIN : Addr) (a_MAX : Addr) (h0 : Heap) (n0 : Nat) (O0 : Old Z n0 h0) (S_COUNT : Sta Z Z.heap "com/example/spillway/spillway/policy/Digester" "COUNT" "Lcom/example/spillway/spillway/policy/Digester;" (.ref a_COUNT)) (S_SUM : Sta Z Z.heap "com/example/spillway/spillway/policy/Digester" "SUM" "Lcom/example/spillway/spillway/policy/Digester;" (.ref a_SUM)) (S_MEAN : Sta Z Z.heap "com/example/spillway/spillway/policy/Digester" "MEAN" "Lcom/example/spillway/spillway/policy/Digester;" (.ref a_MEAN)) (S_MIN : Sta Z Z.heap "com/example/spillway/spillway/policy/Digester" "MIN" "Lcom/example/spillway/spillway/policy/Digester;" (.ref a_MIN)) (S_MAX : Sta Z Z.heap "com/example/spillway/spillway/policy/Digester" "MAX" "Lcom/example/spillway/spillway/policy/Digester;" (.ref a_MAX)) :
    MetFree l (⟨"com/example/spillway/spillway/policy/DigesterReadsValuesPinLaw", "pick", "(I)Lcom/example/spillway/spillway/policy/Digester;"⟩ : MethodName) (head1 (Jvm.Cond.code (⟨"com/example/spillway/spillway/policy/DigesterReadsValuesPinLaw", "pick", "(I)Lcom/example/spillway/spillway/policy/Digester;"⟩ : MethodName) method_2_code 1 (some (.object "com/example/spillway/spillway/policy/Digester")) :: ws) ({ frames := 0, cells := 0, slots := 0, locals := 0 } : Room)) (fun ay U => ay = #[(.int u)] ∧ Z.Warmed39 U.vm ∧ U.heap = h0) (fun _ _ _ _ _ => True) (fun _ U o U' => ∃ v L, o = .returned v ∧ Q1 Z u a_COUNT a_SUM a_MEAN a_MIN a_MAX h0 n0 v U'.heap L ∧ FrameEnd U o U' L ({ frames := 0, cells := 0, slots := 0, locals := 0 } : Room).cells ({ frames := 0, cells := 0, slots := 0, locals := 0 } : Room).slots) := by
  refine MetFree.of_bodySF (plainFor_of_name pn_com_example_spillway_spillway_policy_DigesterReadsValuesPinLaw) hisR ?_
  intro p e s m args below meth c s₁ Bd hml0 hP hK
  obtain ⟨rfl, hZ, hh⟩ := hP
  have hx := Bd.exec
  have hby := Bd.bytes
  have hlk : meth.locks = false := BodyLoose.notSynchronized Bd
  have hml : c.maxLocals = 1 := hml0
  have hown : s.vm.findClass "com/example/spillway/spillway/policy/DigesterReadsValuesPinLaw" = some m.cls := findClass_of_methodNamed Bd.named
  have hnm := (name_of_methodNamed Bd.named Bd.method).1
  have X0 : Stand p l e ({ frames := 0, cells := 0, slots := 0, locals := 0 } : Room) s m #[(.int u)] below meth c s₁ [] 0 0 := Stand.of_body Bd
  have e0 : s₁.heap = h0 := by rw [← hh, Bd.state]; rfl
  have N0 := Fr.nil n0
  suffices hgo : Go p e below s 0 0 (Q1 Z u a_COUNT a_SUM a_MEAN a_MIN a_MAX h0 n0) (s₁.setTop (mkF m 0 #[.val (.int u)] [])) by
    obtain ⟨t, o, h1, h2⟩ := hgo; exact ⟨t, o, castTop (ef_rm1 m u) h1, h2⟩
  show Go p e below s _ _ _ (s₁.setTop (mkF m 0 #[.val (.int u)] []))
  refine Go.st (fun _ k' => XS.iloadN X0.here hx rfl (hb hby d1_0) rfl k') ?_
  show Go p e below s _ _ _ (s₁.setTop (mkF m 1 #[.val (.int u)] [(.int u)]))
  by_cases hc1 : u = (0 : Int32)
  · refine Go.st (fun _ k' => XS.ifNo X0.here hx rfl (hb hby d1_1) rfl (XT.i0_ne_f hc1) k') ?_
    show Go p e below s _ _ _ (s₁.setTop (mkF m 4 #[.val (.int u)] []))
    obtain ⟨T2, X2, e2, st2⟩ := getS2 X0 hx hZ hown (host := "") (Or.inl (wdx hw 5 rfl)) Via.refl e0 (S_COUNT.ext O0.2) (g := (mkF m 4 #[.val (.int u)] [])) rfl (hb hby d1_4)
    refine Go.st st2 ?_
    show Go p e below s _ _ _ (T2.setTop (mkF m 7 #[.val (.int u)] [(.ref a_COUNT)]))
    refine Go.ret X2 hx hlk (t := (.object "com/example/spillway/spillway/policy/Digester")) Bd.returns rfl (Or.inr (Or.inr (Or.inr (Or.inr ⟨rfl, rfl, rfl⟩)))) (hb hby d1_7) (by decide) (by decide) e2 ?_
    exact ⟨(by simp [fpick, hc1]), N0, rfl⟩
  · refine Go.st (fun _ k' => XS.ifYes X0.here hx rfl (pc0 := 1) (pc' := 8) rfl (hb hby d1_1) rfl (XT.i0_ne_t hc1) (by decide) (by decide) k') ?_
    show Go p e below s _ _ _ (s₁.setTop (mkF m 8 #[.val (.int u)] []))
    refine Go.st (fun _ k' => XS.iloadN X0.here hx rfl (hb hby d1_8) rfl k') ?_
    show Go p e below s _ _ _ (s₁.setTop (mkF m 9 #[.val (.int u)] [(.int u)]))
    refine Go.st (fun _ k' => XS.iconst X0.here hx rfl (hb hby d1_9) k') ?_
    show Go p e below s _ _ _ (s₁.setTop (mkF m 10 #[.val (.int u)] [(.int (1 : Int32)), (.int u)]))
    by_cases hc3 : u = (1 : Int32)
    · refine Go.st (fun _ k' => XS.icmpNo X0.here hx rfl (hb hby d1_10) rfl (XT.ii_ne_f hc3) k') ?_
      show Go p e below s _ _ _ (s₁.setTop (mkF m 13 #[.val (.int u)] []))
      obtain ⟨T4, X4, e4, st4⟩ := getS2 X0 hx hZ hown (host := "") (Or.inl (wdx hw 16 rfl)) Via.refl e0 (S_SUM.ext O0.2) (g := (mkF m 13 #[.val (.int u)] [])) rfl (hb hby d1_13)
      refine Go.st st4 ?_
      show Go p e below s _ _ _ (T4.setTop (mkF m 16 #[.val (.int u)] [(.ref a_SUM)]))
      refine Go.ret X4 hx hlk (t := (.object "com/example/spillway/spillway/policy/Digester")) Bd.returns rfl (Or.inr (Or.inr (Or.inr (Or.inr ⟨rfl, rfl, rfl⟩)))) (hb hby d1_16) (by decide) (by decide) e4 ?_
      exact ⟨(by simp [fpick, hc1, hc3]), N0, rfl⟩
    · refine Go.st (fun _ k' => XS.icmpYes X0.here hx rfl (pc0 := 10) (pc' := 17) rfl (hb hby d1_10) rfl (XT.ii_ne_t hc3) (by decide) (by decide) k') ?_
      show Go p e below s _ _ _ (s₁.setTop (mkF m 17 #[.val (.int u)] []))
      refine Go.st (fun _ k' => XS.iloadN X0.here hx rfl (hb hby d1_17) rfl k') ?_
      show Go p e below s _ _ _ (s₁.setTop (mkF m 18 #[.val (.int u)] [(.int u)]))
      refine Go.st (fun _ k' => XS.iconst X0.here hx rfl (hb hby d1_18) k') ?_
      show Go p e below s _ _ _ (s₁.setTop (mkF m 19 #[.val (.int u)] [(.int (2 : Int32)), (.int u)]))
      by_cases hc5 : u = (2 : Int32)
      · refine Go.st (fun _ k' => XS.icmpNo X0.here hx rfl (hb hby d1_19) rfl (XT.ii_ne_f hc5) k') ?_
        show Go p e below s _ _ _ (s₁.setTop (mkF m 22 #[.val (.int u)] []))
        obtain ⟨T6, X6, e6, st6⟩ := getS2 X0 hx hZ hown (host := "") (Or.inl (wdx hw 20 rfl)) Via.refl e0 (S_MEAN.ext O0.2) (g := (mkF m 22 #[.val (.int u)] [])) rfl (hb hby d1_22)
        refine Go.st st6 ?_
        show Go p e below s _ _ _ (T6.setTop (mkF m 25 #[.val (.int u)] [(.ref a_MEAN)]))
        refine Go.ret X6 hx hlk (t := (.object "com/example/spillway/spillway/policy/Digester")) Bd.returns rfl (Or.inr (Or.inr (Or.inr (Or.inr ⟨rfl, rfl, rfl⟩)))) (hb hby d1_25) (by decide) (by decide) e6 ?_
        exact ⟨(by simp [fpick, hc1, hc3, hc5]), N0, rfl⟩
      · refine Go.st (fun _ k' => XS.icmpYes X0.here hx rfl (pc0 := 19) (pc' := 26) rfl (hb hby d1_19) rfl (XT.ii_ne_t hc5) (by decide) (by decide) k') ?_
        show Go p e below s _ _ _ (s₁.setTop (mkF m 26 #[.val (.int u)] []))
        refine Go.st (fun _ k' => XS.iloadN X0.here hx rfl (hb hby d1_26) rfl k') ?_
        show Go p e below s _ _ _ (s₁.setTop (mkF m 27 #[.val (.int u)] [(.int u)]))
        refine Go.st (fun _ k' => XS.iconst X0.here hx rfl (hb hby d1_27) k') ?_
        show Go p e below s _ _ _ (s₁.setTop (mkF m 28 #[.val (.int u)] [(.int (3 : Int32)), (.int u)]))
        by_cases hc7 : u = (3 : Int32)
        · refine Go.st (fun _ k' => XS.icmpNo X0.here hx rfl (hb hby d1_28) rfl (XT.ii_ne_f hc7) k') ?_
          show Go p e below s _ _ _ (s₁.setTop (mkF m 31 #[.val (.int u)] []))
          obtain ⟨T8, X8, e8, st8⟩ := getS2 X0 hx hZ hown (host := "") (Or.inl (wdx hw 14 rfl)) Via.refl e0 (S_MIN.ext O0.2) (g := (mkF m 31 #[.val (.int u)] [])) rfl (hb hby d1_31)
          refine Go.st st8 ?_
          show Go p e below s _ _ _ (T8.setTop (mkF m 34 #[.val (.int u)] [(.ref a_MIN)]))
          refine Go.ret X8 hx hlk (t := (.object "com/example/spillway/spillway/policy/Digester")) Bd.returns rfl (Or.inr (Or.inr (Or.inr (Or.inr ⟨rfl, rfl, rfl⟩)))) (hb hby d1_34) (by decide) (by decide) e8 ?_
          exact ⟨(by simp [fpick, hc1, hc3, hc5, hc7]), N0, rfl⟩
        · refine Go.st (fun _ k' => XS.icmpYes X0.here hx rfl (pc0 := 28) (pc' := 35) rfl (hb hby d1_28) rfl (XT.ii_ne_t hc7) (by decide) (by decide) k') ?_
          show Go p e below s _ _ _ (s₁.setTop (mkF m 35 #[.val (.int u)] []))
          obtain ⟨T9, X9, e9, st9⟩ := getS2 X0 hx hZ hown (host := "") (Or.inl (wdx hw 18 rfl)) Via.refl e0 (S_MAX.ext O0.2) (g := (mkF m 35 #[.val (.int u)] [])) rfl (hb hby d1_35)
          refine Go.st st9 ?_
          show Go p e below s _ _ _ (T9.setTop (mkF m 38 #[.val (.int u)] [(.ref a_MAX)]))
          refine Go.ret X9 hx hlk (t := (.object "com/example/spillway/spillway/policy/Digester")) Bd.returns rfl (Or.inr (Or.inr (Or.inr (Or.inr ⟨rfl, rfl, rfl⟩)))) (hb hby d1_38) (by decide) (by decide) e9 ?_
          exact ⟨(by simp [fpick, hc1, hc3, hc5, hc7]), N0, rfl⟩
theorem d2_0 : decode prog_12_method_5_code 0 = .ok (.aload_n 0, 1) := by decide +kernel
theorem d2_1 : decode prog_12_method_5_code 1 = .ok (.getstatic 3, 3) := by decide +kernel
theorem d2_4 : decode prog_12_method_5_code 4 = .ok (.if_acmp .eq 7, 3) := by decide +kernel
theorem d2_11 : decode prog_12_method_5_code 11 = .ok (.iconst 0, 1) := by decide +kernel
theorem d2_12 : decode prog_12_method_5_code 12 = .ok (.ireturn, 1) := by decide +kernel
theorem d2_7 : decode prog_12_method_5_code 7 = .ok (.iconst 1, 1) := by decide +kernel
theorem d2_8 : decode prog_12_method_5_code 8 = .ok (.goto 4, 3) := by decide +kernel
theorem pn_com_example_spillway_spillway_policy_Digester : plainName "com/example/spillway/spillway/policy/Digester" = true := by first | (simp [plainName, overriddenIn]; done) | decide +kernel
theorem ef_rm2 (m : MethodId) (ob : Addr) : entryFrame m #[(.ref ob)] 1 = mkF m 0 #[.val (.ref ob)] [] := by first | (simp [entryFrame, mkF, argsToLocals, Value.category]; done) | rfl
def Q2 (Z : State) (ob : Addr) (a_COUNT : Addr) (h0 : Heap) (n0 : Nat) (v : Option Value) (h : Heap) (L : List Loc) : Prop := v = some (.int (if ob = a_COUNT then (0 : Int32) else 1)) ∧ Fr n0 L ∧ h = h0
set_option maxRecDepth 65536 in
set_option maxHeartbeats 40000000 in
theorem rm2 (l : Launch) (Z : State) (a0 : Array Value) (hw : ∀ d ∈ tables_1, d.before a0 Z = true) (ws : List Jvm.Cond) (ob : Addr) (a_COUNT : Addr) (h0 : Heap) (n0 : Nat) (O0 : Old Z n0 h0) (S_COUNT : Sta Z Z.heap "com/example/spillway/spillway/policy/Digester" "COUNT" "Lcom/example/spillway/spillway/policy/Digester;" (.ref a_COUNT)) :
    MetFree l (⟨"com/example/spillway/spillway/policy/Digester", "readsValues", "()Z"⟩ : MethodName) (head1 (Jvm.Cond.code (⟨"com/example/spillway/spillway/policy/Digester", "readsValues", "()Z"⟩ : MethodName) prog_12_method_5_code 1 (some .boolean) :: ws) ({ frames := 0, cells := 0, slots := 0, locals := 0 } : Room)) (fun ay U => ay = #[(.ref ob)] ∧ Z.Warmed39 U.vm ∧ U.heap = h0) (fun _ _ _ _ _ => True) (fun _ U o U' => ∃ v L, o = .returned v ∧ Q2 Z ob a_COUNT h0 n0 v U'.heap L ∧ FrameEnd U o U' L ({ frames := 0, cells := 0, slots := 0, locals := 0 } : Room).cells ({ frames := 0, cells := 0, slots := 0, locals := 0 } : Room).slots) := by
  refine MetFree.of_bodySF (plainFor_of_name pn_com_example_spillway_spillway_policy_Digester) hisR ?_
  intro p e s m args below meth c s₁ Bd hml0 hP hK
  obtain ⟨rfl, hZ, hh⟩ := hP
  have hx := Bd.exec
  have hby := Bd.bytes
  have hlk : meth.locks = false := BodyLoose.notSynchronized Bd
  have hml : c.maxLocals = 1 := hml0
  have hown : s.vm.findClass "com/example/spillway/spillway/policy/Digester" = some m.cls := findClass_of_methodNamed Bd.named
  have hnm := (name_of_methodNamed Bd.named Bd.method).1
  have X0 : Stand p l e ({ frames := 0, cells := 0, slots := 0, locals := 0 } : Room) s m #[(.ref ob)] below meth c s₁ [] 0 0 := Stand.of_body Bd
  have e0 : s₁.heap = h0 := by rw [← hh, Bd.state]; rfl
  have N0 := Fr.nil n0
  suffices hgo : Go p e below s 0 0 (Q2 Z ob a_COUNT h0 n0) (s₁.setTop (mkF m 0 #[.val (.ref ob)] [])) by
    obtain ⟨t, o, h1, h2⟩ := hgo; exact ⟨t, o, castTop (ef_rm2 m ob) h1, h2⟩
  show Go p e below s _ _ _ (s₁.setTop (mkF m 0 #[.val (.ref ob)] []))
  refine Go.st (fun _ k' => XS.aloadN X0.here hx rfl (hb hby d2_0) rfl rfl k') ?_
  show Go p e below s _ _ _ (s₁.setTop (mkF m 1 #[.val (.ref ob)] [(.ref ob)]))
  obtain ⟨T1, X1, e1, st1⟩ := getS2 X0 hx hZ hown (host := "") (Or.inl (wdx hw 13 rfl)) Via.refl e0 (S_COUNT.ext O0.2) (g := (mkF m 1 #[.val (.ref ob)] [(.ref ob)])) rfl (hb hby d2_1)
  refine Go.st st1 ?_
  show Go p e below s _ _ _ (T1.setTop (mkF m 4 #[.val (.ref ob)] [(.ref a_COUNT), (.ref ob)]))
  by_cases hc2 : ob = a_COUNT
  · refine Go.st (fun _ k' => Jvm.RoadKit.acmp (g := (mkF m 4 #[.val (.ref ob)] [(.ref a_COUNT), (.ref ob)])) X1 hx rfl rfl rfl (pc0 := 4) (pc' := 11) (same := true) rfl (hb hby d2_4) rfl (decide_eq_true (congrArg Value.ref hc2)) (by decide) (by decide) k') ?_
    show Go p e below s _ _ _ (T1.setTop (mkF m 11 #[.val (.ref ob)] []))
    refine Go.st (fun _ k' => XS.iconst X1.here hx rfl (hb hby d2_11) k') ?_
    show Go p e below s _ _ _ (T1.setTop (mkF m 12 #[.val (.ref ob)] [(.int (0 : Int32))]))
    refine Go.retB X1 hx hlk (t := .boolean) Bd.returns (by simp) (hb hby d2_12) (by decide) (by decide) e1 ?_
    exact ⟨(by simp [nar, hc2]), N0, rfl⟩
  · refine Go.st (fun _ k' => Jvm.RoadKit.acmp (g := (mkF m 4 #[.val (.ref ob)] [(.ref a_COUNT), (.ref ob)])) X1 hx rfl rfl rfl (pc0 := 4) (pc' := 7) (same := false) rfl (hb hby d2_4) rfl (decide_eq_false fun q => hc2 (Value.ref.inj q)) (by decide) (by decide) k') ?_
    show Go p e below s _ _ _ (T1.setTop (mkF m 7 #[.val (.ref ob)] []))
    refine Go.st (fun _ k' => XS.iconst X1.here hx rfl (hb hby d2_7) k') ?_
    show Go p e below s _ _ _ (T1.setTop (mkF m 8 #[.val (.ref ob)] [(.int (1 : Int32))]))
    refine Go.st (fun _ k' => XS.goto X1.here hx rfl (pc0 := 8) (pc' := 12) rfl (hb hby d2_8) (by decide) (by decide) k') ?_
    show Go p e below s _ _ _ (T1.setTop (mkF m 12 #[.val (.ref ob)] [(.int (1 : Int32))]))
    refine Go.retB X1 hx hlk (t := .boolean) Bd.returns (by simp) (hb hby d2_12) (by decide) (by decide) e1 ?_
    exact ⟨(by simp [nar, hc2]), N0, rfl⟩
theorem pd__I_Lcom_example_spillway_spillway_policy_Digester_ : parseMethodDescriptor "(I)Lcom/example/spillway/spillway/policy/Digester;" = some ⟨[.int], some (.object "com/example/spillway/spillway/policy/Digester")⟩ := by decide +kernel
theorem pd___Z : parseMethodDescriptor "()Z" = some ⟨[], some .boolean⟩ := by decide +kernel
theorem ef_rm0 (m : MethodId) (kk : Int32) : entryFrame m #[(.int kk)] maxLocals = mkF m 0 #[.val (.int kk), .unset, .unset, .unset] [] := by first | (simp [entryFrame, mkF, argsToLocals, Value.category, maxLocals]; done) | rfl
def Q0 (Z : State) (kk : Int32) (a_COUNT : Addr) (a_SUM : Addr) (a_MEAN : Addr) (a_MIN : Addr) (a_MAX : Addr) (h0 : Heap) (n0 : Nat) (v : Option Value) (h : Heap) (L : List Loc) : Prop := v = some (.int (1 : Int32)) ∧ Fr n0 L ∧ True
set_option maxRecDepth 65536 in
set_option maxHeartbeats 40000000 in
theorem rm0 (l : Launch) (Z : State) (a0 : Array Value) (hw : ∀ d ∈ tables_1, d.before a0 Z = true) (ws : List Jvm.Cond) (kk : Int32) (a_COUNT : Addr) (a_SUM : Addr) (a_MEAN : Addr) (a_MIN : Addr) (a_MAX : Addr) (h0 : Heap) (n0 : Nat) (O0 : Old Z n0 h0) (E_COUNT : Exa Z h0 a_COUNT "com/example/spillway/spillway/policy/Digester") (E_SUM : Exa Z h0 a_SUM "com/example/spillway/spillway/policy/Digester") (E_MEAN : Exa Z h0 a_MEAN "com/example/spillway/spillway/policy/Digester") (E_MIN : Exa Z h0 a_MIN "com/example/spillway/spillway/policy/Digester") (E_MAX : Exa Z h0 a_MAX "com/example/spillway/spillway/policy/Digester") (S_COUNT : Sta Z Z.heap "com/example/spillway/spillway/policy/Digester" "COUNT" "Lcom/example/spillway/spillway/policy/Digester;" (.ref a_COUNT)) (S_SUM : Sta Z Z.heap "com/example/spillway/spillway/policy/Digester" "SUM" "Lcom/example/spillway/spillway/policy/Digester;" (.ref a_SUM)) (S_MEAN : Sta Z Z.heap "com/example/spillway/spillway/policy/Digester" "MEAN" "Lcom/example/spillway/spillway/policy/Digester;" (.ref a_MEAN)) (S_MIN : Sta Z Z.heap "com/example/spillway/spillway/policy/Digester" "MIN" "Lcom/example/spillway/spillway/policy/Digester;" (.ref a_MIN)) (S_MAX : Sta Z Z.heap "com/example/spillway/spillway/policy/Digester" "MAX" "Lcom/example/spillway/spillway/policy/Digester;" (.ref a_MAX)) (ne_SUM : a_SUM ≠ a_COUNT) (ne_MEAN : a_MEAN ≠ a_COUNT) (ne_MIN : a_MIN ≠ a_COUNT) (ne_MAX : a_MAX ≠ a_COUNT) :
    MetFree l x (head1 (Jvm.Cond.code x code maxLocals ret :: ws) room_1) (fun ay U => ay = #[(.int kk)] ∧ Z.Warmed39 U.vm ∧ U.heap = h0) (fun _ _ _ _ _ => True) (fun _ U o U' => ∃ v L, o = .returned v ∧ Q0 Z kk a_COUNT a_SUM a_MEAN a_MIN a_MAX h0 n0 v U'.heap L ∧ FrameEnd U o U' L room_1.cells room_1.slots) := by
  refine MetFree.of_bodySF (plainFor_of_name pn_com_example_spillway_spillway_policy_DigesterReadsValuesPinLaw) hisR ?_
  intro p e s m args below meth c s₁ Bd hml0 hP hK
  obtain ⟨rfl, hZ, hh⟩ := hP
  have hx := Bd.exec
  have hby := Bd.bytes
  have hlk : meth.locks = false := BodyLoose.notSynchronized Bd
  have hml : c.maxLocals = 4 := hml0
  have hown : s.vm.findClass "com/example/spillway/spillway/policy/DigesterReadsValuesPinLaw" = some m.cls := findClass_of_methodNamed Bd.named
  have hnm := (name_of_methodNamed Bd.named Bd.method).1
  have X0 : Stand p l e room_1 s m #[(.int kk)] below meth c s₁ [] 0 0 := Stand.of_body Bd
  have e0 : s₁.heap = h0 := by rw [← hh, Bd.state]; rfl
  have N0 := Fr.nil n0
  suffices hgo : Go p e below s 0 0 (Q0 Z kk a_COUNT a_SUM a_MEAN a_MIN a_MAX h0 n0) (s₁.setTop (mkF m 0 #[.val (.int kk), .unset, .unset, .unset] [])) by
    obtain ⟨t, o, h1, h2⟩ := hgo; exact ⟨t, o, castTop (ef_rm0 m kk) h1, h2⟩
  show Go p e below s _ _ _ (s₁.setTop (mkF m 0 #[.val (.int kk), .unset, .unset, .unset] []))
  refine Go.st (fun _ k' => XS.iloadN X0.here hx rfl (hb hby at_0) rfl k') ?_
  show Go p e below s _ _ _ (s₁.setTop (mkF m 1 #[.val (.int kk), .unset, .unset, .unset] [(.int kk)]))
  refine Go.st (fun _ k' => X0.ldcI hx hown (mvT hZ (wdx hw 0 rfl)) rfl (hb hby at_1) k') ?_
  show Go p e below s _ _ _ (s₁.setTop (mkF m 3 #[.val (.int kk), .unset, .unset, .unset] [(.int (2147483647 : Int32)), (.int kk)]))
  refine Go.st (fun _ k' => XS.iand X0.here hx rfl (hb hby at_3) rfl k') ?_
  show Go p e below s _ _ _ (s₁.setTop (mkF m 4 #[.val (.int kk), .unset, .unset, .unset] [(.int (kk &&& (2147483647 : Int32)))]))
  refine Go.st (fun _ k' => XS.iconst X0.here hx rfl (hb hby at_4) k') ?_
  show Go p e below s _ _ _ (s₁.setTop (mkF m 5 #[.val (.int kk), .unset, .unset, .unset] [(.int (5 : Int32)), (.int (kk &&& (2147483647 : Int32)))]))
  refine Go.st (fun _ k' => iremM X0 hx rfl (hb hby at_5) rfl (by decide) k') ?_
  show Go p e below s _ _ _ (s₁.setTop (mkF m 6 #[.val (.int kk), .unset, .unset, .unset] [(.int ((kk &&& (2147483647 : Int32)) % (5 : Int32)))]))
  refine Go.st (fun _ k' => XS.istoreN X0.here hx rfl (hb hby at_6) rfl (l' := #[.val (.int kk), .val (.int ((kk &&& (2147483647 : Int32)) % (5 : Int32))), .unset, .unset]) rfl k') ?_
  show Go p e below s _ _ _ (s₁.setTop (mkF m 7 #[.val (.int kk), .val (.int ((kk &&& (2147483647 : Int32)) % (5 : Int32))), .unset, .unset] []))
  rcases own_c5 kk with hi | hi | hi | hi | hi
  · rw [hi]
    show Go p e below s _ _ _ (s₁.setTop (mkF m 7 #[.val (.int kk), .val (.int (0 : Int32)), .unset, .unset] []))
    refine Go.st (fun _ k' => XS.iloadN X0.here hx rfl (hb hby at_7) rfl k') ?_
    show Go p e below s _ _ _ (s₁.setTop (mkF m 8 #[.val (.int kk), .val (.int (0 : Int32)), .unset, .unset] [(.int (0 : Int32))]))
    obtain ⟨_, _, ⟨T1, L1, k1, n1⟩, -, X1, ⟨Lc1, hQ1, l1, y1, z1⟩, st1⟩ := Jvm.LawKit.callS X0 hx (y := (⟨"com/example/spillway/spillway/policy/DigesterReadsValuesPinLaw", "pick", "(I)Lcom/example/spillway/spillway/policy/Digester;"⟩ : MethodName)) hown (mvT hZ (wdx hw 1 rfl)) (mvT hZ (wdx hw 2 rfl)) (mvT hZ (wdx hw 3 rfl)) (mvT hZ (wdx hw 4 rfl)) (by decide) (backOf (W := 0) (rm1 l Z a0 hw [] (0 : Int32) a_COUNT a_SUM a_MEAN a_MIN a_MAX h0 n0 O0 S_COUNT S_SUM S_MEAN S_MIN S_MAX) hZ (wdx hw 4 rfl) (wdx hw 3 rfl) (by decide) (by decide)) (g := (mkF m 8 #[.val (.int kk), .val (.int (0 : Int32)), .unset, .unset] [(.int (0 : Int32))])) rfl (by rw [hml]; rfl) (argsL := [(.int (0 : Int32))]) (rest := []) (lenOf pd__I_Lcom_example_spillway_spillway_policy_Digester_ rfl) rfl (by show 2 * 0 + _ ≤ _; exact Nat.le_of_eq rfl) (hb hby at_8) (fun _ _ => ⟨rfl, e0, (by exact Nat.le_of_ble_eq_true rfl), (by exact Nat.le_of_ble_eq_true rfl)⟩)
    dsimp only [Pt.U, Pt.locs, Pt.cells, Pt.slots] at X1 l1 y1 z1 st1 hQ1
    subst l1 y1 z1
    obtain ⟨rfl, Nq1, eq1⟩ := hQ1
    have N1 := Fr.app N0 Nq1
    refine Go.st st1 ?_
    show Go p e below s _ _ _ (T1.setTop (mkF m 11 #[.val (.int kk), .val (.int (0 : Int32)), .unset, .unset] [(.ref (fpick (0 : Int32) a_COUNT a_SUM a_MEAN a_MIN a_MAX))]))
    show Go p e below s _ _ _ (T1.setTop (mkF m 11 #[.val (.int kk), .val (.int (0 : Int32)), .unset, .unset] [(.ref a_COUNT)]))
    refine Go.st (fun _ k' => XS.astoreN X1.here hx rfl (hb hby at_11) rfl rfl (l' := #[.val (.int kk), .val (.int (0 : Int32)), .val (.ref a_COUNT), .unset]) rfl k') ?_
    show Go p e below s _ _ _ (T1.setTop (mkF m 12 #[.val (.int kk), .val (.int (0 : Int32)), .val (.ref a_COUNT), .unset] []))
    refine Go.st (fun _ k' => XS.iloadN X1.here hx rfl (hb hby at_12) rfl k') ?_
    show Go p e below s _ _ _ (T1.setTop (mkF m 13 #[.val (.int kk), .val (.int (0 : Int32)), .val (.ref a_COUNT), .unset] [(.int (0 : Int32))]))
    refine Go.st (fun _ k' => XS.ifNo X1.here hx rfl (hb hby at_13) rfl (XT.i0_ne_f (by decide)) k') ?_
    show Go p e below s _ _ _ (T1.setTop (mkF m 16 #[.val (.int kk), .val (.int (0 : Int32)), .val (.ref a_COUNT), .unset] []))
    refine Go.st (fun _ k' => XS.iconst X1.here hx rfl (hb hby at_16) k') ?_
    show Go p e below s _ _ _ (T1.setTop (mkF m 17 #[.val (.int kk), .val (.int (0 : Int32)), .val (.ref a_COUNT), .unset] [(.int (0 : Int32))]))
    refine Go.st (fun _ k' => XS.istoreN X1.here hx rfl (hb hby at_17) rfl (l' := #[.val (.int kk), .val (.int (0 : Int32)), .val (.ref a_COUNT), .val (.int (0 : Int32))]) rfl k') ?_
    show Go p e below s _ _ _ (T1.setTop (mkF m 18 #[.val (.int kk), .val (.int (0 : Int32)), .val (.ref a_COUNT), .val (.int (0 : Int32))] []))
    refine Go.st (fun _ k' => XS.goto X1.here hx rfl (pc0 := 18) (pc' := 23) rfl (hb hby at_18) (by decide) (by decide) k') ?_
    show Go p e below s _ _ _ (T1.setTop (mkF m 23 #[.val (.int kk), .val (.int (0 : Int32)), .val (.ref a_COUNT), .val (.int (0 : Int32))] []))
    refine Go.st (fun _ k' => XS.aloadN X1.here hx rfl (hb hby at_23) rfl rfl k') ?_
    show Go p e below s _ _ _ (T1.setTop (mkF m 24 #[.val (.int kk), .val (.int (0 : Int32)), .val (.ref a_COUNT), .val (.int (0 : Int32))] [(.ref a_COUNT)]))
    obtain ⟨cq2, kq2, q2a, q2b, q2c⟩ := isOf hZ eq1 E_COUNT
    obtain ⟨_, _, ⟨T2, L2, k2, n2⟩, -, X2, ⟨Lc2, hQ2, l2, y2, z2⟩, st2⟩ := X1.virtualBack hx (y := (⟨"com/example/spillway/spillway/policy/Digester", "readsValues", "()Z"⟩ : MethodName)) (z := (⟨"com/example/spillway/spillway/policy/Digester", "readsValues", "()Z"⟩ : MethodName)) hown (mvT hZ (wdx hw 8 rfl)) (mvT hZ (wdx hw 9 rfl)) (notFace_of_selects (args := #[]) (mvT hZ (wdx hw 11 rfl))) (mvT hZ (wdx hw 11 rfl)) (mvT hZ (wdx hw 10 rfl)) (by decide) (backOf (W := 0) (rm2 l Z a0 hw [] a_COUNT a_COUNT h0 n0 O0 S_COUNT) hZ (wdx hw 12 rfl) (wdx hw 6 rfl) (by decide) (by decide)) q2a q2c (g := (mkF m 24 #[.val (.int kk), .val (.int (0 : Int32)), .val (.ref a_COUNT), .val (.int (0 : Int32))] [(.ref a_COUNT)])) rfl (by rw [hml]; rfl) (Steps.refl _) (argsL := []) (rest := []) (lenOf pd___Z rfl) rfl (by show 2 * 0 + _ ≤ _; exact Nat.le_of_eq rfl) (hb hby at_24) (fun _ _ => ⟨rfl, eq1, (by exact Nat.le_of_ble_eq_true rfl), (by exact Nat.le_of_ble_eq_true rfl)⟩)
    dsimp only [Pt.U, Pt.locs, Pt.cells, Pt.slots] at X2 l2 y2 z2 st2 hQ2
    subst l2 y2 z2
    obtain ⟨rfl, Nq2, eq2⟩ := hQ2
    have N2 := Fr.app N1 Nq2
    refine Go.tr st2 ?_
    show Go p e below s _ _ _ (T2.setTop (mkF m 27 #[.val (.int kk), .val (.int (0 : Int32)), .val (.ref a_COUNT), .val (.int (0 : Int32))] [(.int (if a_COUNT = a_COUNT then (0 : Int32) else 1))]))
    refine Go.st (fun _ k' => XS.iloadN X2.here hx rfl (hb hby at_27) rfl k') ?_
    show Go p e below s _ _ _ (T2.setTop (mkF m 28 #[.val (.int kk), .val (.int (0 : Int32)), .val (.ref a_COUNT), .val (.int (0 : Int32))] [(.int (0 : Int32)), (.int (if a_COUNT = a_COUNT then (0 : Int32) else 1))]))
    by_cases hc3 : (if a_COUNT = a_COUNT then (0 : Int32) else 1) = (0 : Int32)
    · refine Go.st (fun _ k' => XS.icmpNo X2.here hx rfl (hb hby at_28) rfl (XT.ii_ne_f hc3) k') ?_
      show Go p e below s _ _ _ (T2.setTop (mkF m 31 #[.val (.int kk), .val (.int (0 : Int32)), .val (.ref a_COUNT), .val (.int (0 : Int32))] []))
      refine Go.st (fun _ k' => XS.iconst X2.here hx rfl (hb hby at_31) k') ?_
      show Go p e below s _ _ _ (T2.setTop (mkF m 32 #[.val (.int kk), .val (.int (0 : Int32)), .val (.ref a_COUNT), .val (.int (0 : Int32))] [(.int (1 : Int32))]))
      refine Go.st (fun _ k' => XS.goto X2.here hx rfl (pc0 := 32) (pc' := 36) rfl (hb hby at_32) (by decide) (by decide) k') ?_
      show Go p e below s _ _ _ (T2.setTop (mkF m 36 #[.val (.int kk), .val (.int (0 : Int32)), .val (.ref a_COUNT), .val (.int (0 : Int32))] [(.int (1 : Int32))]))
      refine Go.retB X2 hx hlk (t := .boolean) Bd.returns (by simp) (hb hby at_36) (by decide) (by decide) eq2 ?_
      exact ⟨rfl, N2, trivial⟩
    · refine Go.st (fun _ k' => XS.icmpYes X2.here hx rfl (pc0 := 28) (pc' := 35) rfl (hb hby at_28) rfl (XT.ii_ne_t hc3) (by decide) (by decide) k') ?_
      show Go p e below s _ _ _ (T2.setTop (mkF m 35 #[.val (.int kk), .val (.int (0 : Int32)), .val (.ref a_COUNT), .val (.int (0 : Int32))] []))
      refine Go.st (fun _ k' => XS.iconst X2.here hx rfl (hb hby at_35) k') ?_
      show Go p e below s _ _ _ (T2.setTop (mkF m 36 #[.val (.int kk), .val (.int (0 : Int32)), .val (.ref a_COUNT), .val (.int (0 : Int32))] [(.int (0 : Int32))]))
      refine Go.retB X2 hx hlk (t := .boolean) Bd.returns (by simp) (hb hby at_36) (by decide) (by decide) eq2 ?_
      exact absurd (if_pos rfl) hc3
  · rw [hi]
    show Go p e below s _ _ _ (s₁.setTop (mkF m 7 #[.val (.int kk), .val (.int (1 : Int32)), .unset, .unset] []))
    refine Go.st (fun _ k' => XS.iloadN X0.here hx rfl (hb hby at_7) rfl k') ?_
    show Go p e below s _ _ _ (s₁.setTop (mkF m 8 #[.val (.int kk), .val (.int (1 : Int32)), .unset, .unset] [(.int (1 : Int32))]))
    obtain ⟨_, _, ⟨T4, L4, k4, n4⟩, -, X4, ⟨Lc4, hQ4, l4, y4, z4⟩, st4⟩ := Jvm.LawKit.callS X0 hx (y := (⟨"com/example/spillway/spillway/policy/DigesterReadsValuesPinLaw", "pick", "(I)Lcom/example/spillway/spillway/policy/Digester;"⟩ : MethodName)) hown (mvT hZ (wdx hw 1 rfl)) (mvT hZ (wdx hw 2 rfl)) (mvT hZ (wdx hw 3 rfl)) (mvT hZ (wdx hw 4 rfl)) (by decide) (backOf (W := 0) (rm1 l Z a0 hw [] (1 : Int32) a_COUNT a_SUM a_MEAN a_MIN a_MAX h0 n0 O0 S_COUNT S_SUM S_MEAN S_MIN S_MAX) hZ (wdx hw 4 rfl) (wdx hw 3 rfl) (by decide) (by decide)) (g := (mkF m 8 #[.val (.int kk), .val (.int (1 : Int32)), .unset, .unset] [(.int (1 : Int32))])) rfl (by rw [hml]; rfl) (argsL := [(.int (1 : Int32))]) (rest := []) (lenOf pd__I_Lcom_example_spillway_spillway_policy_Digester_ rfl) rfl (by show 2 * 0 + _ ≤ _; exact Nat.le_of_eq rfl) (hb hby at_8) (fun _ _ => ⟨rfl, e0, (by exact Nat.le_of_ble_eq_true rfl), (by exact Nat.le_of_ble_eq_true rfl)⟩)
    dsimp only [Pt.U, Pt.locs, Pt.cells, Pt.slots] at X4 l4 y4 z4 st4 hQ4
    subst l4 y4 z4
    obtain ⟨rfl, Nq4, eq4⟩ := hQ4
    have N4 := Fr.app N0 Nq4
    refine Go.st st4 ?_
    show Go p e below s _ _ _ (T4.setTop (mkF m 11 #[.val (.int kk), .val (.int (1 : Int32)), .unset, .unset] [(.ref (fpick (1 : Int32) a_COUNT a_SUM a_MEAN a_MIN a_MAX))]))
    show Go p e below s _ _ _ (T4.setTop (mkF m 11 #[.val (.int kk), .val (.int (1 : Int32)), .unset, .unset] [(.ref a_SUM)]))
    refine Go.st (fun _ k' => XS.astoreN X4.here hx rfl (hb hby at_11) rfl rfl (l' := #[.val (.int kk), .val (.int (1 : Int32)), .val (.ref a_SUM), .unset]) rfl k') ?_
    show Go p e below s _ _ _ (T4.setTop (mkF m 12 #[.val (.int kk), .val (.int (1 : Int32)), .val (.ref a_SUM), .unset] []))
    refine Go.st (fun _ k' => XS.iloadN X4.here hx rfl (hb hby at_12) rfl k') ?_
    show Go p e below s _ _ _ (T4.setTop (mkF m 13 #[.val (.int kk), .val (.int (1 : Int32)), .val (.ref a_SUM), .unset] [(.int (1 : Int32))]))
    refine Go.st (fun _ k' => XS.ifYes X4.here hx rfl (pc0 := 13) (pc' := 21) rfl (hb hby at_13) rfl (XT.i0_ne_t (by decide)) (by decide) (by decide) k') ?_
    show Go p e below s _ _ _ (T4.setTop (mkF m 21 #[.val (.int kk), .val (.int (1 : Int32)), .val (.ref a_SUM), .unset] []))
    refine Go.st (fun _ k' => XS.iconst X4.here hx rfl (hb hby at_21) k') ?_
    show Go p e below s _ _ _ (T4.setTop (mkF m 22 #[.val (.int kk), .val (.int (1 : Int32)), .val (.ref a_SUM), .unset] [(.int (1 : Int32))]))
    refine Go.st (fun _ k' => XS.istoreN X4.here hx rfl (hb hby at_22) rfl (l' := #[.val (.int kk), .val (.int (1 : Int32)), .val (.ref a_SUM), .val (.int (1 : Int32))]) rfl k') ?_
    show Go p e below s _ _ _ (T4.setTop (mkF m 23 #[.val (.int kk), .val (.int (1 : Int32)), .val (.ref a_SUM), .val (.int (1 : Int32))] []))
    refine Go.st (fun _ k' => XS.aloadN X4.here hx rfl (hb hby at_23) rfl rfl k') ?_
    show Go p e below s _ _ _ (T4.setTop (mkF m 24 #[.val (.int kk), .val (.int (1 : Int32)), .val (.ref a_SUM), .val (.int (1 : Int32))] [(.ref a_SUM)]))
    obtain ⟨cq5, kq5, q5a, q5b, q5c⟩ := isOf hZ eq4 E_SUM
    obtain ⟨_, _, ⟨T5, L5, k5, n5⟩, -, X5, ⟨Lc5, hQ5, l5, y5, z5⟩, st5⟩ := X4.virtualBack hx (y := (⟨"com/example/spillway/spillway/policy/Digester", "readsValues", "()Z"⟩ : MethodName)) (z := (⟨"com/example/spillway/spillway/policy/Digester", "readsValues", "()Z"⟩ : MethodName)) hown (mvT hZ (wdx hw 8 rfl)) (mvT hZ (wdx hw 9 rfl)) (notFace_of_selects (args := #[]) (mvT hZ (wdx hw 11 rfl))) (mvT hZ (wdx hw 11 rfl)) (mvT hZ (wdx hw 10 rfl)) (by decide) (backOf (W := 0) (rm2 l Z a0 hw [] a_SUM a_COUNT h0 n0 O0 S_COUNT) hZ (wdx hw 12 rfl) (wdx hw 6 rfl) (by decide) (by decide)) q5a q5c (g := (mkF m 24 #[.val (.int kk), .val (.int (1 : Int32)), .val (.ref a_SUM), .val (.int (1 : Int32))] [(.ref a_SUM)])) rfl (by rw [hml]; rfl) (Steps.refl _) (argsL := []) (rest := []) (lenOf pd___Z rfl) rfl (by show 2 * 0 + _ ≤ _; exact Nat.le_of_eq rfl) (hb hby at_24) (fun _ _ => ⟨rfl, eq4, (by exact Nat.le_of_ble_eq_true rfl), (by exact Nat.le_of_ble_eq_true rfl)⟩)
    dsimp only [Pt.U, Pt.locs, Pt.cells, Pt.slots] at X5 l5 y5 z5 st5 hQ5
    subst l5 y5 z5
    obtain ⟨rfl, Nq5, eq5⟩ := hQ5
    have N5 := Fr.app N4 Nq5
    refine Go.tr st5 ?_
    show Go p e below s _ _ _ (T5.setTop (mkF m 27 #[.val (.int kk), .val (.int (1 : Int32)), .val (.ref a_SUM), .val (.int (1 : Int32))] [(.int (if a_SUM = a_COUNT then (0 : Int32) else 1))]))
    refine Go.st (fun _ k' => XS.iloadN X5.here hx rfl (hb hby at_27) rfl k') ?_
    show Go p e below s _ _ _ (T5.setTop (mkF m 28 #[.val (.int kk), .val (.int (1 : Int32)), .val (.ref a_SUM), .val (.int (1 : Int32))] [(.int (1 : Int32)), (.int (if a_SUM = a_COUNT then (0 : Int32) else 1))]))
    by_cases hc6 : (if a_SUM = a_COUNT then (0 : Int32) else 1) = (1 : Int32)
    · refine Go.st (fun _ k' => XS.icmpNo X5.here hx rfl (hb hby at_28) rfl (XT.ii_ne_f hc6) k') ?_
      show Go p e below s _ _ _ (T5.setTop (mkF m 31 #[.val (.int kk), .val (.int (1 : Int32)), .val (.ref a_SUM), .val (.int (1 : Int32))] []))
      refine Go.st (fun _ k' => XS.iconst X5.here hx rfl (hb hby at_31) k') ?_
      show Go p e below s _ _ _ (T5.setTop (mkF m 32 #[.val (.int kk), .val (.int (1 : Int32)), .val (.ref a_SUM), .val (.int (1 : Int32))] [(.int (1 : Int32))]))
      refine Go.st (fun _ k' => XS.goto X5.here hx rfl (pc0 := 32) (pc' := 36) rfl (hb hby at_32) (by decide) (by decide) k') ?_
      show Go p e below s _ _ _ (T5.setTop (mkF m 36 #[.val (.int kk), .val (.int (1 : Int32)), .val (.ref a_SUM), .val (.int (1 : Int32))] [(.int (1 : Int32))]))
      refine Go.retB X5 hx hlk (t := .boolean) Bd.returns (by simp) (hb hby at_36) (by decide) (by decide) eq5 ?_
      exact ⟨rfl, N5, trivial⟩
    · refine Go.st (fun _ k' => XS.icmpYes X5.here hx rfl (pc0 := 28) (pc' := 35) rfl (hb hby at_28) rfl (XT.ii_ne_t hc6) (by decide) (by decide) k') ?_
      show Go p e below s _ _ _ (T5.setTop (mkF m 35 #[.val (.int kk), .val (.int (1 : Int32)), .val (.ref a_SUM), .val (.int (1 : Int32))] []))
      refine Go.st (fun _ k' => XS.iconst X5.here hx rfl (hb hby at_35) k') ?_
      show Go p e below s _ _ _ (T5.setTop (mkF m 36 #[.val (.int kk), .val (.int (1 : Int32)), .val (.ref a_SUM), .val (.int (1 : Int32))] [(.int (0 : Int32))]))
      refine Go.retB X5 hx hlk (t := .boolean) Bd.returns (by simp) (hb hby at_36) (by decide) (by decide) eq5 ?_
      exact absurd (if_neg ne_SUM) hc6
  · rw [hi]
    show Go p e below s _ _ _ (s₁.setTop (mkF m 7 #[.val (.int kk), .val (.int (2 : Int32)), .unset, .unset] []))
    refine Go.st (fun _ k' => XS.iloadN X0.here hx rfl (hb hby at_7) rfl k') ?_
    show Go p e below s _ _ _ (s₁.setTop (mkF m 8 #[.val (.int kk), .val (.int (2 : Int32)), .unset, .unset] [(.int (2 : Int32))]))
    obtain ⟨_, _, ⟨T7, L7, k7, n7⟩, -, X7, ⟨Lc7, hQ7, l7, y7, z7⟩, st7⟩ := Jvm.LawKit.callS X0 hx (y := (⟨"com/example/spillway/spillway/policy/DigesterReadsValuesPinLaw", "pick", "(I)Lcom/example/spillway/spillway/policy/Digester;"⟩ : MethodName)) hown (mvT hZ (wdx hw 1 rfl)) (mvT hZ (wdx hw 2 rfl)) (mvT hZ (wdx hw 3 rfl)) (mvT hZ (wdx hw 4 rfl)) (by decide) (backOf (W := 0) (rm1 l Z a0 hw [] (2 : Int32) a_COUNT a_SUM a_MEAN a_MIN a_MAX h0 n0 O0 S_COUNT S_SUM S_MEAN S_MIN S_MAX) hZ (wdx hw 4 rfl) (wdx hw 3 rfl) (by decide) (by decide)) (g := (mkF m 8 #[.val (.int kk), .val (.int (2 : Int32)), .unset, .unset] [(.int (2 : Int32))])) rfl (by rw [hml]; rfl) (argsL := [(.int (2 : Int32))]) (rest := []) (lenOf pd__I_Lcom_example_spillway_spillway_policy_Digester_ rfl) rfl (by show 2 * 0 + _ ≤ _; exact Nat.le_of_eq rfl) (hb hby at_8) (fun _ _ => ⟨rfl, e0, (by exact Nat.le_of_ble_eq_true rfl), (by exact Nat.le_of_ble_eq_true rfl)⟩)
    dsimp only [Pt.U, Pt.locs, Pt.cells, Pt.slots] at X7 l7 y7 z7 st7 hQ7
    subst l7 y7 z7
    obtain ⟨rfl, Nq7, eq7⟩ := hQ7
    have N7 := Fr.app N0 Nq7
    refine Go.st st7 ?_
    show Go p e below s _ _ _ (T7.setTop (mkF m 11 #[.val (.int kk), .val (.int (2 : Int32)), .unset, .unset] [(.ref (fpick (2 : Int32) a_COUNT a_SUM a_MEAN a_MIN a_MAX))]))
    show Go p e below s _ _ _ (T7.setTop (mkF m 11 #[.val (.int kk), .val (.int (2 : Int32)), .unset, .unset] [(.ref a_MEAN)]))
    refine Go.st (fun _ k' => XS.astoreN X7.here hx rfl (hb hby at_11) rfl rfl (l' := #[.val (.int kk), .val (.int (2 : Int32)), .val (.ref a_MEAN), .unset]) rfl k') ?_
    show Go p e below s _ _ _ (T7.setTop (mkF m 12 #[.val (.int kk), .val (.int (2 : Int32)), .val (.ref a_MEAN), .unset] []))
    refine Go.st (fun _ k' => XS.iloadN X7.here hx rfl (hb hby at_12) rfl k') ?_
    show Go p e below s _ _ _ (T7.setTop (mkF m 13 #[.val (.int kk), .val (.int (2 : Int32)), .val (.ref a_MEAN), .unset] [(.int (2 : Int32))]))
    refine Go.st (fun _ k' => XS.ifYes X7.here hx rfl (pc0 := 13) (pc' := 21) rfl (hb hby at_13) rfl (XT.i0_ne_t (by decide)) (by decide) (by decide) k') ?_
    show Go p e below s _ _ _ (T7.setTop (mkF m 21 #[.val (.int kk), .val (.int (2 : Int32)), .val (.ref a_MEAN), .unset] []))
    refine Go.st (fun _ k' => XS.iconst X7.here hx rfl (hb hby at_21) k') ?_
    show Go p e below s _ _ _ (T7.setTop (mkF m 22 #[.val (.int kk), .val (.int (2 : Int32)), .val (.ref a_MEAN), .unset] [(.int (1 : Int32))]))
    refine Go.st (fun _ k' => XS.istoreN X7.here hx rfl (hb hby at_22) rfl (l' := #[.val (.int kk), .val (.int (2 : Int32)), .val (.ref a_MEAN), .val (.int (1 : Int32))]) rfl k') ?_
    show Go p e below s _ _ _ (T7.setTop (mkF m 23 #[.val (.int kk), .val (.int (2 : Int32)), .val (.ref a_MEAN), .val (.int (1 : Int32))] []))
    refine Go.st (fun _ k' => XS.aloadN X7.here hx rfl (hb hby at_23) rfl rfl k') ?_
    show Go p e below s _ _ _ (T7.setTop (mkF m 24 #[.val (.int kk), .val (.int (2 : Int32)), .val (.ref a_MEAN), .val (.int (1 : Int32))] [(.ref a_MEAN)]))
    obtain ⟨cq8, kq8, q8a, q8b, q8c⟩ := isOf hZ eq7 E_MEAN
    obtain ⟨_, _, ⟨T8, L8, k8, n8⟩, -, X8, ⟨Lc8, hQ8, l8, y8, z8⟩, st8⟩ := X7.virtualBack hx (y := (⟨"com/example/spillway/spillway/policy/Digester", "readsValues", "()Z"⟩ : MethodName)) (z := (⟨"com/example/spillway/spillway/policy/Digester", "readsValues", "()Z"⟩ : MethodName)) hown (mvT hZ (wdx hw 8 rfl)) (mvT hZ (wdx hw 9 rfl)) (notFace_of_selects (args := #[]) (mvT hZ (wdx hw 11 rfl))) (mvT hZ (wdx hw 11 rfl)) (mvT hZ (wdx hw 10 rfl)) (by decide) (backOf (W := 0) (rm2 l Z a0 hw [] a_MEAN a_COUNT h0 n0 O0 S_COUNT) hZ (wdx hw 12 rfl) (wdx hw 6 rfl) (by decide) (by decide)) q8a q8c (g := (mkF m 24 #[.val (.int kk), .val (.int (2 : Int32)), .val (.ref a_MEAN), .val (.int (1 : Int32))] [(.ref a_MEAN)])) rfl (by rw [hml]; rfl) (Steps.refl _) (argsL := []) (rest := []) (lenOf pd___Z rfl) rfl (by show 2 * 0 + _ ≤ _; exact Nat.le_of_eq rfl) (hb hby at_24) (fun _ _ => ⟨rfl, eq7, (by exact Nat.le_of_ble_eq_true rfl), (by exact Nat.le_of_ble_eq_true rfl)⟩)
    dsimp only [Pt.U, Pt.locs, Pt.cells, Pt.slots] at X8 l8 y8 z8 st8 hQ8
    subst l8 y8 z8
    obtain ⟨rfl, Nq8, eq8⟩ := hQ8
    have N8 := Fr.app N7 Nq8
    refine Go.tr st8 ?_
    show Go p e below s _ _ _ (T8.setTop (mkF m 27 #[.val (.int kk), .val (.int (2 : Int32)), .val (.ref a_MEAN), .val (.int (1 : Int32))] [(.int (if a_MEAN = a_COUNT then (0 : Int32) else 1))]))
    refine Go.st (fun _ k' => XS.iloadN X8.here hx rfl (hb hby at_27) rfl k') ?_
    show Go p e below s _ _ _ (T8.setTop (mkF m 28 #[.val (.int kk), .val (.int (2 : Int32)), .val (.ref a_MEAN), .val (.int (1 : Int32))] [(.int (1 : Int32)), (.int (if a_MEAN = a_COUNT then (0 : Int32) else 1))]))
    by_cases hc9 : (if a_MEAN = a_COUNT then (0 : Int32) else 1) = (1 : Int32)
    · refine Go.st (fun _ k' => XS.icmpNo X8.here hx rfl (hb hby at_28) rfl (XT.ii_ne_f hc9) k') ?_
      show Go p e below s _ _ _ (T8.setTop (mkF m 31 #[.val (.int kk), .val (.int (2 : Int32)), .val (.ref a_MEAN), .val (.int (1 : Int32))] []))
      refine Go.st (fun _ k' => XS.iconst X8.here hx rfl (hb hby at_31) k') ?_
      show Go p e below s _ _ _ (T8.setTop (mkF m 32 #[.val (.int kk), .val (.int (2 : Int32)), .val (.ref a_MEAN), .val (.int (1 : Int32))] [(.int (1 : Int32))]))
      refine Go.st (fun _ k' => XS.goto X8.here hx rfl (pc0 := 32) (pc' := 36) rfl (hb hby at_32) (by decide) (by decide) k') ?_
      show Go p e below s _ _ _ (T8.setTop (mkF m 36 #[.val (.int kk), .val (.int (2 : Int32)), .val (.ref a_MEAN), .val (.int (1 : Int32))] [(.int (1 : Int32))]))
      refine Go.retB X8 hx hlk (t := .boolean) Bd.returns (by simp) (hb hby at_36) (by decide) (by decide) eq8 ?_
      exact ⟨rfl, N8, trivial⟩
    · refine Go.st (fun _ k' => XS.icmpYes X8.here hx rfl (pc0 := 28) (pc' := 35) rfl (hb hby at_28) rfl (XT.ii_ne_t hc9) (by decide) (by decide) k') ?_
      show Go p e below s _ _ _ (T8.setTop (mkF m 35 #[.val (.int kk), .val (.int (2 : Int32)), .val (.ref a_MEAN), .val (.int (1 : Int32))] []))
      refine Go.st (fun _ k' => XS.iconst X8.here hx rfl (hb hby at_35) k') ?_
      show Go p e below s _ _ _ (T8.setTop (mkF m 36 #[.val (.int kk), .val (.int (2 : Int32)), .val (.ref a_MEAN), .val (.int (1 : Int32))] [(.int (0 : Int32))]))
      refine Go.retB X8 hx hlk (t := .boolean) Bd.returns (by simp) (hb hby at_36) (by decide) (by decide) eq8 ?_
      exact absurd (if_neg ne_MEAN) hc9
  · rw [hi]
    show Go p e below s _ _ _ (s₁.setTop (mkF m 7 #[.val (.int kk), .val (.int (3 : Int32)), .unset, .unset] []))
    refine Go.st (fun _ k' => XS.iloadN X0.here hx rfl (hb hby at_7) rfl k') ?_
    show Go p e below s _ _ _ (s₁.setTop (mkF m 8 #[.val (.int kk), .val (.int (3 : Int32)), .unset, .unset] [(.int (3 : Int32))]))
    obtain ⟨_, _, ⟨T10, L10, k10, n10⟩, -, X10, ⟨Lc10, hQ10, l10, y10, z10⟩, st10⟩ := Jvm.LawKit.callS X0 hx (y := (⟨"com/example/spillway/spillway/policy/DigesterReadsValuesPinLaw", "pick", "(I)Lcom/example/spillway/spillway/policy/Digester;"⟩ : MethodName)) hown (mvT hZ (wdx hw 1 rfl)) (mvT hZ (wdx hw 2 rfl)) (mvT hZ (wdx hw 3 rfl)) (mvT hZ (wdx hw 4 rfl)) (by decide) (backOf (W := 0) (rm1 l Z a0 hw [] (3 : Int32) a_COUNT a_SUM a_MEAN a_MIN a_MAX h0 n0 O0 S_COUNT S_SUM S_MEAN S_MIN S_MAX) hZ (wdx hw 4 rfl) (wdx hw 3 rfl) (by decide) (by decide)) (g := (mkF m 8 #[.val (.int kk), .val (.int (3 : Int32)), .unset, .unset] [(.int (3 : Int32))])) rfl (by rw [hml]; rfl) (argsL := [(.int (3 : Int32))]) (rest := []) (lenOf pd__I_Lcom_example_spillway_spillway_policy_Digester_ rfl) rfl (by show 2 * 0 + _ ≤ _; exact Nat.le_of_eq rfl) (hb hby at_8) (fun _ _ => ⟨rfl, e0, (by exact Nat.le_of_ble_eq_true rfl), (by exact Nat.le_of_ble_eq_true rfl)⟩)
    dsimp only [Pt.U, Pt.locs, Pt.cells, Pt.slots] at X10 l10 y10 z10 st10 hQ10
    subst l10 y10 z10
    obtain ⟨rfl, Nq10, eq10⟩ := hQ10
    have N10 := Fr.app N0 Nq10
    refine Go.st st10 ?_
    show Go p e below s _ _ _ (T10.setTop (mkF m 11 #[.val (.int kk), .val (.int (3 : Int32)), .unset, .unset] [(.ref (fpick (3 : Int32) a_COUNT a_SUM a_MEAN a_MIN a_MAX))]))
    show Go p e below s _ _ _ (T10.setTop (mkF m 11 #[.val (.int kk), .val (.int (3 : Int32)), .unset, .unset] [(.ref a_MIN)]))
    refine Go.st (fun _ k' => XS.astoreN X10.here hx rfl (hb hby at_11) rfl rfl (l' := #[.val (.int kk), .val (.int (3 : Int32)), .val (.ref a_MIN), .unset]) rfl k') ?_
    show Go p e below s _ _ _ (T10.setTop (mkF m 12 #[.val (.int kk), .val (.int (3 : Int32)), .val (.ref a_MIN), .unset] []))
    refine Go.st (fun _ k' => XS.iloadN X10.here hx rfl (hb hby at_12) rfl k') ?_
    show Go p e below s _ _ _ (T10.setTop (mkF m 13 #[.val (.int kk), .val (.int (3 : Int32)), .val (.ref a_MIN), .unset] [(.int (3 : Int32))]))
    refine Go.st (fun _ k' => XS.ifYes X10.here hx rfl (pc0 := 13) (pc' := 21) rfl (hb hby at_13) rfl (XT.i0_ne_t (by decide)) (by decide) (by decide) k') ?_
    show Go p e below s _ _ _ (T10.setTop (mkF m 21 #[.val (.int kk), .val (.int (3 : Int32)), .val (.ref a_MIN), .unset] []))
    refine Go.st (fun _ k' => XS.iconst X10.here hx rfl (hb hby at_21) k') ?_
    show Go p e below s _ _ _ (T10.setTop (mkF m 22 #[.val (.int kk), .val (.int (3 : Int32)), .val (.ref a_MIN), .unset] [(.int (1 : Int32))]))
    refine Go.st (fun _ k' => XS.istoreN X10.here hx rfl (hb hby at_22) rfl (l' := #[.val (.int kk), .val (.int (3 : Int32)), .val (.ref a_MIN), .val (.int (1 : Int32))]) rfl k') ?_
    show Go p e below s _ _ _ (T10.setTop (mkF m 23 #[.val (.int kk), .val (.int (3 : Int32)), .val (.ref a_MIN), .val (.int (1 : Int32))] []))
    refine Go.st (fun _ k' => XS.aloadN X10.here hx rfl (hb hby at_23) rfl rfl k') ?_
    show Go p e below s _ _ _ (T10.setTop (mkF m 24 #[.val (.int kk), .val (.int (3 : Int32)), .val (.ref a_MIN), .val (.int (1 : Int32))] [(.ref a_MIN)]))
    obtain ⟨cq11, kq11, q11a, q11b, q11c⟩ := isOf hZ eq10 E_MIN
    obtain ⟨_, _, ⟨T11, L11, k11, n11⟩, -, X11, ⟨Lc11, hQ11, l11, y11, z11⟩, st11⟩ := X10.virtualBack hx (y := (⟨"com/example/spillway/spillway/policy/Digester", "readsValues", "()Z"⟩ : MethodName)) (z := (⟨"com/example/spillway/spillway/policy/Digester", "readsValues", "()Z"⟩ : MethodName)) hown (mvT hZ (wdx hw 8 rfl)) (mvT hZ (wdx hw 9 rfl)) (notFace_of_selects (args := #[]) (mvT hZ (wdx hw 11 rfl))) (mvT hZ (wdx hw 11 rfl)) (mvT hZ (wdx hw 10 rfl)) (by decide) (backOf (W := 0) (rm2 l Z a0 hw [] a_MIN a_COUNT h0 n0 O0 S_COUNT) hZ (wdx hw 12 rfl) (wdx hw 6 rfl) (by decide) (by decide)) q11a q11c (g := (mkF m 24 #[.val (.int kk), .val (.int (3 : Int32)), .val (.ref a_MIN), .val (.int (1 : Int32))] [(.ref a_MIN)])) rfl (by rw [hml]; rfl) (Steps.refl _) (argsL := []) (rest := []) (lenOf pd___Z rfl) rfl (by show 2 * 0 + _ ≤ _; exact Nat.le_of_eq rfl) (hb hby at_24) (fun _ _ => ⟨rfl, eq10, (by exact Nat.le_of_ble_eq_true rfl), (by exact Nat.le_of_ble_eq_true rfl)⟩)
    dsimp only [Pt.U, Pt.locs, Pt.cells, Pt.slots] at X11 l11 y11 z11 st11 hQ11
    subst l11 y11 z11
    obtain ⟨rfl, Nq11, eq11⟩ := hQ11
    have N11 := Fr.app N10 Nq11
    refine Go.tr st11 ?_
    show Go p e below s _ _ _ (T11.setTop (mkF m 27 #[.val (.int kk), .val (.int (3 : Int32)), .val (.ref a_MIN), .val (.int (1 : Int32))] [(.int (if a_MIN = a_COUNT then (0 : Int32) else 1))]))
    refine Go.st (fun _ k' => XS.iloadN X11.here hx rfl (hb hby at_27) rfl k') ?_
    show Go p e below s _ _ _ (T11.setTop (mkF m 28 #[.val (.int kk), .val (.int (3 : Int32)), .val (.ref a_MIN), .val (.int (1 : Int32))] [(.int (1 : Int32)), (.int (if a_MIN = a_COUNT then (0 : Int32) else 1))]))
    by_cases hc12 : (if a_MIN = a_COUNT then (0 : Int32) else 1) = (1 : Int32)
    · refine Go.st (fun _ k' => XS.icmpNo X11.here hx rfl (hb hby at_28) rfl (XT.ii_ne_f hc12) k') ?_
      show Go p e below s _ _ _ (T11.setTop (mkF m 31 #[.val (.int kk), .val (.int (3 : Int32)), .val (.ref a_MIN), .val (.int (1 : Int32))] []))
      refine Go.st (fun _ k' => XS.iconst X11.here hx rfl (hb hby at_31) k') ?_
      show Go p e below s _ _ _ (T11.setTop (mkF m 32 #[.val (.int kk), .val (.int (3 : Int32)), .val (.ref a_MIN), .val (.int (1 : Int32))] [(.int (1 : Int32))]))
      refine Go.st (fun _ k' => XS.goto X11.here hx rfl (pc0 := 32) (pc' := 36) rfl (hb hby at_32) (by decide) (by decide) k') ?_
      show Go p e below s _ _ _ (T11.setTop (mkF m 36 #[.val (.int kk), .val (.int (3 : Int32)), .val (.ref a_MIN), .val (.int (1 : Int32))] [(.int (1 : Int32))]))
      refine Go.retB X11 hx hlk (t := .boolean) Bd.returns (by simp) (hb hby at_36) (by decide) (by decide) eq11 ?_
      exact ⟨rfl, N11, trivial⟩
    · refine Go.st (fun _ k' => XS.icmpYes X11.here hx rfl (pc0 := 28) (pc' := 35) rfl (hb hby at_28) rfl (XT.ii_ne_t hc12) (by decide) (by decide) k') ?_
      show Go p e below s _ _ _ (T11.setTop (mkF m 35 #[.val (.int kk), .val (.int (3 : Int32)), .val (.ref a_MIN), .val (.int (1 : Int32))] []))
      refine Go.st (fun _ k' => XS.iconst X11.here hx rfl (hb hby at_35) k') ?_
      show Go p e below s _ _ _ (T11.setTop (mkF m 36 #[.val (.int kk), .val (.int (3 : Int32)), .val (.ref a_MIN), .val (.int (1 : Int32))] [(.int (0 : Int32))]))
      refine Go.retB X11 hx hlk (t := .boolean) Bd.returns (by simp) (hb hby at_36) (by decide) (by decide) eq11 ?_
      exact absurd (if_neg ne_MIN) hc12
  · rw [hi]
    show Go p e below s _ _ _ (s₁.setTop (mkF m 7 #[.val (.int kk), .val (.int (4 : Int32)), .unset, .unset] []))
    refine Go.st (fun _ k' => XS.iloadN X0.here hx rfl (hb hby at_7) rfl k') ?_
    show Go p e below s _ _ _ (s₁.setTop (mkF m 8 #[.val (.int kk), .val (.int (4 : Int32)), .unset, .unset] [(.int (4 : Int32))]))
    obtain ⟨_, _, ⟨T13, L13, k13, n13⟩, -, X13, ⟨Lc13, hQ13, l13, y13, z13⟩, st13⟩ := Jvm.LawKit.callS X0 hx (y := (⟨"com/example/spillway/spillway/policy/DigesterReadsValuesPinLaw", "pick", "(I)Lcom/example/spillway/spillway/policy/Digester;"⟩ : MethodName)) hown (mvT hZ (wdx hw 1 rfl)) (mvT hZ (wdx hw 2 rfl)) (mvT hZ (wdx hw 3 rfl)) (mvT hZ (wdx hw 4 rfl)) (by decide) (backOf (W := 0) (rm1 l Z a0 hw [] (4 : Int32) a_COUNT a_SUM a_MEAN a_MIN a_MAX h0 n0 O0 S_COUNT S_SUM S_MEAN S_MIN S_MAX) hZ (wdx hw 4 rfl) (wdx hw 3 rfl) (by decide) (by decide)) (g := (mkF m 8 #[.val (.int kk), .val (.int (4 : Int32)), .unset, .unset] [(.int (4 : Int32))])) rfl (by rw [hml]; rfl) (argsL := [(.int (4 : Int32))]) (rest := []) (lenOf pd__I_Lcom_example_spillway_spillway_policy_Digester_ rfl) rfl (by show 2 * 0 + _ ≤ _; exact Nat.le_of_eq rfl) (hb hby at_8) (fun _ _ => ⟨rfl, e0, (by exact Nat.le_of_ble_eq_true rfl), (by exact Nat.le_of_ble_eq_true rfl)⟩)
    dsimp only [Pt.U, Pt.locs, Pt.cells, Pt.slots] at X13 l13 y13 z13 st13 hQ13
    subst l13 y13 z13
    obtain ⟨rfl, Nq13, eq13⟩ := hQ13
    have N13 := Fr.app N0 Nq13
    refine Go.st st13 ?_
    show Go p e below s _ _ _ (T13.setTop (mkF m 11 #[.val (.int kk), .val (.int (4 : Int32)), .unset, .unset] [(.ref (fpick (4 : Int32) a_COUNT a_SUM a_MEAN a_MIN a_MAX))]))
    show Go p e below s _ _ _ (T13.setTop (mkF m 11 #[.val (.int kk), .val (.int (4 : Int32)), .unset, .unset] [(.ref a_MAX)]))
    refine Go.st (fun _ k' => XS.astoreN X13.here hx rfl (hb hby at_11) rfl rfl (l' := #[.val (.int kk), .val (.int (4 : Int32)), .val (.ref a_MAX), .unset]) rfl k') ?_
    show Go p e below s _ _ _ (T13.setTop (mkF m 12 #[.val (.int kk), .val (.int (4 : Int32)), .val (.ref a_MAX), .unset] []))
    refine Go.st (fun _ k' => XS.iloadN X13.here hx rfl (hb hby at_12) rfl k') ?_
    show Go p e below s _ _ _ (T13.setTop (mkF m 13 #[.val (.int kk), .val (.int (4 : Int32)), .val (.ref a_MAX), .unset] [(.int (4 : Int32))]))
    refine Go.st (fun _ k' => XS.ifYes X13.here hx rfl (pc0 := 13) (pc' := 21) rfl (hb hby at_13) rfl (XT.i0_ne_t (by decide)) (by decide) (by decide) k') ?_
    show Go p e below s _ _ _ (T13.setTop (mkF m 21 #[.val (.int kk), .val (.int (4 : Int32)), .val (.ref a_MAX), .unset] []))
    refine Go.st (fun _ k' => XS.iconst X13.here hx rfl (hb hby at_21) k') ?_
    show Go p e below s _ _ _ (T13.setTop (mkF m 22 #[.val (.int kk), .val (.int (4 : Int32)), .val (.ref a_MAX), .unset] [(.int (1 : Int32))]))
    refine Go.st (fun _ k' => XS.istoreN X13.here hx rfl (hb hby at_22) rfl (l' := #[.val (.int kk), .val (.int (4 : Int32)), .val (.ref a_MAX), .val (.int (1 : Int32))]) rfl k') ?_
    show Go p e below s _ _ _ (T13.setTop (mkF m 23 #[.val (.int kk), .val (.int (4 : Int32)), .val (.ref a_MAX), .val (.int (1 : Int32))] []))
    refine Go.st (fun _ k' => XS.aloadN X13.here hx rfl (hb hby at_23) rfl rfl k') ?_
    show Go p e below s _ _ _ (T13.setTop (mkF m 24 #[.val (.int kk), .val (.int (4 : Int32)), .val (.ref a_MAX), .val (.int (1 : Int32))] [(.ref a_MAX)]))
    obtain ⟨cq14, kq14, q14a, q14b, q14c⟩ := isOf hZ eq13 E_MAX
    obtain ⟨_, _, ⟨T14, L14, k14, n14⟩, -, X14, ⟨Lc14, hQ14, l14, y14, z14⟩, st14⟩ := X13.virtualBack hx (y := (⟨"com/example/spillway/spillway/policy/Digester", "readsValues", "()Z"⟩ : MethodName)) (z := (⟨"com/example/spillway/spillway/policy/Digester", "readsValues", "()Z"⟩ : MethodName)) hown (mvT hZ (wdx hw 8 rfl)) (mvT hZ (wdx hw 9 rfl)) (notFace_of_selects (args := #[]) (mvT hZ (wdx hw 11 rfl))) (mvT hZ (wdx hw 11 rfl)) (mvT hZ (wdx hw 10 rfl)) (by decide) (backOf (W := 0) (rm2 l Z a0 hw [] a_MAX a_COUNT h0 n0 O0 S_COUNT) hZ (wdx hw 12 rfl) (wdx hw 6 rfl) (by decide) (by decide)) q14a q14c (g := (mkF m 24 #[.val (.int kk), .val (.int (4 : Int32)), .val (.ref a_MAX), .val (.int (1 : Int32))] [(.ref a_MAX)])) rfl (by rw [hml]; rfl) (Steps.refl _) (argsL := []) (rest := []) (lenOf pd___Z rfl) rfl (by show 2 * 0 + _ ≤ _; exact Nat.le_of_eq rfl) (hb hby at_24) (fun _ _ => ⟨rfl, eq13, (by exact Nat.le_of_ble_eq_true rfl), (by exact Nat.le_of_ble_eq_true rfl)⟩)
    dsimp only [Pt.U, Pt.locs, Pt.cells, Pt.slots] at X14 l14 y14 z14 st14 hQ14
    subst l14 y14 z14
    obtain ⟨rfl, Nq14, eq14⟩ := hQ14
    have N14 := Fr.app N13 Nq14
    refine Go.tr st14 ?_
    show Go p e below s _ _ _ (T14.setTop (mkF m 27 #[.val (.int kk), .val (.int (4 : Int32)), .val (.ref a_MAX), .val (.int (1 : Int32))] [(.int (if a_MAX = a_COUNT then (0 : Int32) else 1))]))
    refine Go.st (fun _ k' => XS.iloadN X14.here hx rfl (hb hby at_27) rfl k') ?_
    show Go p e below s _ _ _ (T14.setTop (mkF m 28 #[.val (.int kk), .val (.int (4 : Int32)), .val (.ref a_MAX), .val (.int (1 : Int32))] [(.int (1 : Int32)), (.int (if a_MAX = a_COUNT then (0 : Int32) else 1))]))
    by_cases hc15 : (if a_MAX = a_COUNT then (0 : Int32) else 1) = (1 : Int32)
    · refine Go.st (fun _ k' => XS.icmpNo X14.here hx rfl (hb hby at_28) rfl (XT.ii_ne_f hc15) k') ?_
      show Go p e below s _ _ _ (T14.setTop (mkF m 31 #[.val (.int kk), .val (.int (4 : Int32)), .val (.ref a_MAX), .val (.int (1 : Int32))] []))
      refine Go.st (fun _ k' => XS.iconst X14.here hx rfl (hb hby at_31) k') ?_
      show Go p e below s _ _ _ (T14.setTop (mkF m 32 #[.val (.int kk), .val (.int (4 : Int32)), .val (.ref a_MAX), .val (.int (1 : Int32))] [(.int (1 : Int32))]))
      refine Go.st (fun _ k' => XS.goto X14.here hx rfl (pc0 := 32) (pc' := 36) rfl (hb hby at_32) (by decide) (by decide) k') ?_
      show Go p e below s _ _ _ (T14.setTop (mkF m 36 #[.val (.int kk), .val (.int (4 : Int32)), .val (.ref a_MAX), .val (.int (1 : Int32))] [(.int (1 : Int32))]))
      refine Go.retB X14 hx hlk (t := .boolean) Bd.returns (by simp) (hb hby at_36) (by decide) (by decide) eq14 ?_
      exact ⟨rfl, N14, trivial⟩
    · refine Go.st (fun _ k' => XS.icmpYes X14.here hx rfl (pc0 := 28) (pc' := 35) rfl (hb hby at_28) rfl (XT.ii_ne_t hc15) (by decide) (by decide) k') ?_
      show Go p e below s _ _ _ (T14.setTop (mkF m 35 #[.val (.int kk), .val (.int (4 : Int32)), .val (.ref a_MAX), .val (.int (1 : Int32))] []))
      refine Go.st (fun _ k' => XS.iconst X14.here hx rfl (hb hby at_35) k') ?_
      show Go p e below s _ _ _ (T14.setTop (mkF m 36 #[.val (.int kk), .val (.int (4 : Int32)), .val (.ref a_MAX), .val (.int (1 : Int32))] [(.int (0 : Int32))]))
      refine Go.retB X14 hx hlk (t := .boolean) Bd.returns (by simp) (hb hby at_36) (by decide) (by decide) eq14 ?_
      exact absurd (if_neg ne_MAX) hc15
set_option maxRecDepth 65536 in
set_option maxHeartbeats 40000000 in
theorem comes_1 {Post : Tables → Env → Array Value → State → Outcome → State → Prop} (hpost : ∀ tb e args s v u, (limb_1_1.after args s (.returned v) u = true ∧ limb_1_2.after args s (.returned v) u = true ∧ True) → FrameEnd s (.returned v) u (Jvm.fieldLocs frame_1_writes args s ++ Jvm.arrayLocs frame_1_arrays args s ++ Jvm.staticLocs frame_1_statics s) 0 0 → Post tb e args s (.returned v) u) :
    ArmFor flags0 classFile x code maxLocals ret World_1 tables_1 room_1 Calls_1 rest_1 Pre_1 Post := by
  intro l hfl _ _ p e ha hc hk s m args below hf hA hF happ hP
  obtain ⟨hcalls, hrest, hpre⟩ := hP
  obtain ⟨-, -, -, hnamed, -, -, -, hat⟩ := (Spec.applies_iff hf).mp happ
  obtain ⟨hg, hn⟩ := and_e (Cond.before_iff.mp (show (Jvm.Cond.and given_1 narrow_1).before args s = true from hpre))
  obtain ⟨hcnt, hg0⟩ := and_e hg
  have ha0 := hg0
  obtain ⟨w0, rfl⟩ : ∃ w0 : Value, args = #[w0] := by
    have hs : args.size = 1 := by simpa [Cond.value, given_1] using hcnt
    obtain ⟨L⟩ := args
    match L, hs with
    | [w0], _ => exact ⟨w0, rfl⟩
  have hw := fun d (hd : d ∈ tables_1) => atoms_spec (ws := Jvm.Cond.code x code maxLocals ret :: tables_1) hat d (List.mem_cons_of_mem _ hd)
  have hfit : Fit s := fun {y c} hc i hi => by
    obtain ⟨ha, rfl⟩ := Array.getElem?_eq_some_iff.mp hc
    have q := List.all_eq_true.mp ((Array.all_eq_true_iff_forall_mem.mp hF) _ (Array.getElem_mem ha)) i (List.mem_range.mpr hi)
    simpa [Array.getElem?_eq_getElem hi] using q
  obtain ⟨i0, ei0⟩ := is_v ha0
  obtain rfl : w0 = (.int i0) := Option.some.inj ei0
  obtain ⟨hn0, hm0⟩ := and_e hn
  obtain ⟨hn1, hm1⟩ := and_e hm0
  obtain ⟨hn2, hm2⟩ := and_e hm1
  obtain ⟨hn3, hm3⟩ := and_e hm2
  obtain ⟨hn4, hm4⟩ := and_e hm3
  obtain ⟨hn5, hm5⟩ := and_e hm4
  obtain ⟨hn6, hm6⟩ := and_e hm5
  obtain ⟨hn7, hm7⟩ := and_e hm6
  obtain ⟨hn8, hm8⟩ := and_e hm7
  have hn9 := hm8
  obtain ⟨a_COUNT, ev_COUNT, S_COUNT, E_COUNT⟩ := own_en hn0 (wdx hw 6 rfl) (wdx hw 7 rfl)
  obtain ⟨a_MIN, ev_MIN, S_MIN, E_MIN⟩ := own_en hn1 (wdx hw 6 rfl) (wdx hw 15 rfl)
  obtain ⟨a_SUM, ev_SUM, S_SUM, E_SUM⟩ := own_en hn4 (wdx hw 6 rfl) (wdx hw 17 rfl)
  obtain ⟨a_MAX, ev_MAX, S_MAX, E_MAX⟩ := own_en hn6 (wdx hw 6 rfl) (wdx hw 19 rfl)
  obtain ⟨a_MEAN, ev_MEAN, S_MEAN, E_MEAN⟩ := own_en hn8 (wdx hw 6 rfl) (wdx hw 21 rfl)
  have F_MIN_ordinal := own_ef ev_MIN hn2
  have F_COUNT_ordinal := own_ef ev_COUNT hn3
  have F_SUM_ordinal := own_ef ev_SUM hn5
  have F_MAX_ordinal := own_ef ev_MAX hn7
  have F_MEAN_ordinal := own_ef ev_MEAN hn9
  obtain ⟨n, o, h1, h2, h3, _, L, rfl, ⟨rfl, N, -⟩, hq⟩ := rm0 l s _ hw tables_1 i0 a_COUNT a_SUM a_MEAN a_MIN a_MAX s.heap s.heap.size (Old.start s) E_COUNT E_SUM E_MEAN E_MIN E_MAX S_COUNT S_SUM S_MEAN S_MIN S_MAX (own_fne F_SUM_ordinal F_COUNT_ordinal (by decide)) (own_fne F_MEAN_ordinal F_COUNT_ordinal (by decide)) (own_fne F_MIN_ordinal F_COUNT_ordinal (by decide)) (own_fne F_MAX_ordinal F_COUNT_ordinal (by decide)) p e ha hc hk s m _ below hf ((Spec.applies_iff_loose hf).mp happ).1 ⟨rfl, State.Warmed39.refl s, rfl⟩ trivial
  refine ⟨n, _, h1, h2, h3, hpost _ _ _ _ _ _ ⟨Cond.after_iff.mpr rfl, Cond.after_iff.mpr (eq_i res_at (Term.int_eval (1)) rfl), trivial⟩ ⟨hq.1, hq.2.1, (hq.2.2.sift fun y hy => Or.inr (N y hy)).mono (by decide) (by decide)⟩⟩
theorem main_1_1 : Claimed_1_1 := comes_1 fun _ _ _ _ _ _ h hF => ⟨h.1, hF⟩
theorem main_1_2 : Claimed_1_2 := comes_1 fun _ _ _ _ _ _ h hF => ⟨h.2.1, hF⟩
end Jvm.Pilot.@@N@@
namespace Jvm.Pilot.@@N@@
open Jvm Jvm.ClassFile Sem Op Lib Jvm.Free Jvm.Stand Jvm.Pilot.@@N@@.Jvm.D
/-! MADE BY PROGRAM (witnessworld.py) out of the Statement's table words and the real class files: 12 classes; the members and pool entries that the words name. The judged class is class 1, her method 2. -/
namespace start1
open Jvm.ClassFile
def u (s : String) : CpInfo := .utf8 (stringToUtf16 s)
/-- a pool by its gaps: so many unusable entries, then the entry; so many at the end -/
def gap : Nat → List CpInfo → List CpInfo
  | 0, r => r
  | n + 1, r => .unusable :: gap n r
def poolList (es : List (Nat × CpInfo)) (last : Nat) : List CpInfo := es.foldr (fun e r => gap e.1 (e.2 :: r)) (gap last [])
def pool (es : List (Nat × CpInfo)) (last : Nat) : Array CpInfo := ⟨poolList es last⟩
def fileOf (pool : Array CpInfo) (this : Nat) (attrs : Array Attribute := #[]) (ms : Array MethodInfo := #[]) (fl : Nat := 33) (sup : Nat := 0) (ifs : Array Nat := #[]) (fds : Array FieldInfo := #[]) : ClassFile where
  minorVersion := 0
  majorVersion := 65
  constantPool := pool
  accessFlags := fl
  thisClass := this
  superClass := sup
  interfaces := ifs
  fields := fds
  methods := ms
  attributes := attrs
def plain (name : String) (sup : Option ClassId) : Class where
  name := name
  kind := .ordinary
  loader := none
  accessFlags := 33
  super := sup
  interfaces := #[]
  cf := none
  fields := #[]
  methods := #[]
  instanceTypes := #[]
  staticTypes := #[]
  resolved := #[]
  callSites := []
  init := .initialized
  statics := none
  mirror := none

def pool0 : Array CpInfo := pool [(5, u "<init>"), (0, u "()V"), (1, .class_ 10), (1, u "java/lang/Object")] 113

def k0m0 : Method := { name := "<init>", desc := "()V", sig := { parameters := [], returnType := none }, accessFlags := 1, code := none }
/-- java/lang/Object -/
def k0 : Class := { plain "java/lang/Object" none with
  accessFlags := 33
  interfaces := #[]
  cf := some (fileOf pool0 8 #[] #[{ accessFlags := 1, nameIndex := 5, descriptorIndex := 6, attributes := #[] }] 33 0 #[] #[])
  fields := #[]
  methods := #[k0m0]
  instanceTypes := #[]
  staticTypes := #[]
  resolved := Array.replicate 124 none
  statics := none }

def pool1 : Array CpInfo := pool [(2, .class_ 4), (1, u "java/lang/Object"), (0, u "<init>"), (0, u "()V"), (0, .fieldref 8 9), (0, .class_ 10), (0, .nameAndType 11 12), (0, u "com/example/spillway/spillway/policy/Digester"), (0, u "COUNT"), (0, u "Lcom/example/spillway/spillway/policy/Digester;"), (0, .fieldref 8 14), (0, .nameAndType 15 12), (0, u "SUM"), (0, .fieldref 8 17), (0, .nameAndType 18 12), (0, u "MEAN"), (0, .fieldref 8 20), (0, .nameAndType 21 12), (0, u "MIN"), (0, .fieldref 8 23), (0, .nameAndType 24 12), (0, u "MAX"), (0, .integer 2147483647), (0, .methodref 27 28), (0, .class_ 29), (0, .nameAndType 30 31), (0, u "com/example/spillway/spillway/policy/DigesterReadsValuesPinLaw"), (0, u "pick"), (0, u "(I)Lcom/example/spillway/spillway/policy/Digester;"), (0, .methodref 8 33), (0, .nameAndType 34 35), (0, u "readsValues"), (0, u "()Z"), (3, u "law"), (0, u "(I)Z")] 2

def k1m0 : Method := { name := "<init>", desc := "()V", sig := { parameters := [], returnType := none }, accessFlags := 2, code := none }
def k1c1 : Code := { maxStack := 2, maxLocals := 1, code := method_2_code, exceptionTable := #[], attributes := #[] }
def k1m1 : Method := { name := "pick", desc := "(I)Lcom/example/spillway/spillway/policy/Digester;", sig := { parameters := [.int], returnType := some (.object "com/example/spillway/spillway/policy/Digester") }, accessFlags := 10, code := some k1c1 }
def k1c2 : Code := { maxStack := 2, maxLocals := 4, code := code, exceptionTable := #[], attributes := #[] }
def k1m2 : Method := { name := "law", desc := "(I)Z", sig := { parameters := [.int], returnType := some .boolean }, accessFlags := 9, code := some k1c2 }
/-- com/example/spillway/spillway/policy/DigesterReadsValuesPinLaw -/
def k1 : Class := { plain "com/example/spillway/spillway/policy/DigesterReadsValuesPinLaw" (some 0) with
  accessFlags := 49
  interfaces := #[]
  cf := some (fileOf pool1 27 #[] #[{ accessFlags := 2, nameIndex := 5, descriptorIndex := 6, attributes := #[] }, { accessFlags := 10, nameIndex := 30, descriptorIndex := 31, attributes := #[] }, { accessFlags := 9, nameIndex := 39, descriptorIndex := 40, attributes := #[] }] 49 2 #[] #[])
  fields := #[]
  methods := #[k1m0, k1m1, k1m2]
  instanceTypes := #[]
  staticTypes := #[]
  resolved := Array.replicate 43 none
  statics := none }

def pool2 : Array CpInfo := pool [(1, .class_ 2), (0, u "java/lang/constant/Constable"), (0, .class_ 4), (0, u "java/lang/Object")] 6

/-- java/lang/constant/Constable -/
def k2 : Class := { plain "java/lang/constant/Constable" (some 0) with
  accessFlags := 1537
  interfaces := #[]
  cf := some (fileOf pool2 1 #[] #[] 1537 3 #[] #[])
  fields := #[]
  methods := #[]
  instanceTypes := #[]
  staticTypes := #[]
  resolved := Array.replicate 11 none
  statics := none }

def pool3 : Array CpInfo := pool [(1, .class_ 2), (0, u "java/lang/Comparable"), (0, .class_ 4), (0, u "java/lang/Object")] 7

/-- java/lang/Comparable -/
def k3 : Class := { plain "java/lang/Comparable" (some 0) with
  accessFlags := 1537
  interfaces := #[]
  cf := some (fileOf pool3 1 #[] #[] 1537 3 #[] #[])
  fields := #[]
  methods := #[]
  instanceTypes := #[]
  staticTypes := #[]
  resolved := Array.replicate 12 none
  statics := none }

def pool4 : Array CpInfo := pool [(1, .class_ 2), (0, u "java/io/Serializable"), (0, .class_ 4), (0, u "java/lang/Object")] 2

/-- java/io/Serializable -/
def k4 : Class := { plain "java/io/Serializable" (some 0) with
  accessFlags := 1537
  interfaces := #[]
  cf := some (fileOf pool4 1 #[] #[] 1537 3 #[] #[])
  fields := #[]
  methods := #[]
  instanceTypes := #[]
  staticTypes := #[]
  resolved := Array.replicate 7 none
  statics := none }

def pool5 : Array CpInfo := pool [(2, .class_ 4), (1, u "java/lang/Enum"), (0, u "name"), (0, u "Ljava/lang/String;"), (2, u "ordinal"), (0, u "I"), (1, .class_ 14), (1, u "java/lang/Object"), (4, u "hash"), (86, .class_ 108), (1, u "java/lang/Enum$EnumDesc"), (2, .class_ 112), (0, u "java/lang/constant/Constable"), (0, .class_ 114), (0, u "java/lang/Comparable"), (0, .class_ 116), (0, u "java/io/Serializable")] 87

/-- java/lang/Enum -/
def k5 : Class := { plain "java/lang/Enum" (some 0) with
  accessFlags := 1057
  interfaces := #[2, 3, 4]
  cf := some (fileOf pool5 2 #[.nestMembers #[106]] #[] 1057 12 #[111, 113, 115] #[{ accessFlags := 18, nameIndex := 5, descriptorIndex := 6, attributes := #[] }, { accessFlags := 18, nameIndex := 9, descriptorIndex := 10, attributes := #[] }, { accessFlags := 2, nameIndex := 19, descriptorIndex := 10, attributes := #[] }])
  fields := #[{ name := "name", type := (.object "java/lang/String"), accessFlags := 18, slot := 0, constantValue := 0 }, { name := "ordinal", type := .int, accessFlags := 18, slot := 1, constantValue := 0 }, { name := "hash", type := .int, accessFlags := 2, slot := 2, constantValue := 0 }]
  methods := #[]
  instanceTypes := #[(.object "java/lang/String"), .int, .int]
  staticTypes := #[]
  resolved := Array.replicate 204 none
  statics := none }

def pool6 : Array CpInfo := pool [(1, .class_ 2), (0, u "com/example/spillway/spillway/policy/Digester"), (0, .fieldref 1 4), (0, .nameAndType 5 6), (0, u "COUNT"), (0, u "Lcom/example/spillway/spillway/policy/Digester;"), (2, u "SUM"), (2, u "MEAN"), (2, u "MIN"), (2, u "MAX"), (2, u "$VALUES"), (0, u "[Lcom/example/spillway/spillway/policy/Digester;"), (6, .class_ 31), (1, u "java/lang/Enum"), (40, u "readsValues"), (0, u "()Z")] 5

def k6c0 : Code := { maxStack := 2, maxLocals := 1, code := prog_12_method_5_code, exceptionTable := #[], attributes := #[] }
def k6m0 : Method := { name := "readsValues", desc := "()Z", sig := { parameters := [], returnType := some .boolean }, accessFlags := 0, code := some k6c0 }
/-- com/example/spillway/spillway/policy/Digester -/
def k6 : Class := { plain "com/example/spillway/spillway/policy/Digester" (some 5) with
  accessFlags := 16433
  interfaces := #[]
  cf := some (fileOf pool6 1 #[] #[{ accessFlags := 0, nameIndex := 72, descriptorIndex := 73, attributes := #[] }] 16433 29 #[] #[{ accessFlags := 16409, nameIndex := 5, descriptorIndex := 6, attributes := #[] }, { accessFlags := 16409, nameIndex := 9, descriptorIndex := 6, attributes := #[] }, { accessFlags := 16409, nameIndex := 12, descriptorIndex := 6, attributes := #[] }, { accessFlags := 16409, nameIndex := 15, descriptorIndex := 6, attributes := #[] }, { accessFlags := 16409, nameIndex := 18, descriptorIndex := 6, attributes := #[] }, { accessFlags := 4122, nameIndex := 21, descriptorIndex := 22, attributes := #[] }])
  fields := #[{ name := "COUNT", type := (.object "com/example/spillway/spillway/policy/Digester"), accessFlags := 16409, slot := 0, constantValue := 0 }, { name := "SUM", type := (.object "com/example/spillway/spillway/policy/Digester"), accessFlags := 16409, slot := 1, constantValue := 0 }, { name := "MEAN", type := (.object "com/example/spillway/spillway/policy/Digester"), accessFlags := 16409, slot := 2, constantValue := 0 }, { name := "MIN", type := (.object "com/example/spillway/spillway/policy/Digester"), accessFlags := 16409, slot := 3, constantValue := 0 }, { name := "MAX", type := (.object "com/example/spillway/spillway/policy/Digester"), accessFlags := 16409, slot := 4, constantValue := 0 }, { name := "$VALUES", type := (.array (.object "com/example/spillway/spillway/policy/Digester")), accessFlags := 4122, slot := 5, constantValue := 0 }]
  methods := #[k6m0]
  instanceTypes := #[(.object "java/lang/String"), .int, .int]
  staticTypes := #[(.object "com/example/spillway/spillway/policy/Digester"), (.object "com/example/spillway/spillway/policy/Digester"), (.object "com/example/spillway/spillway/policy/Digester"), (.object "com/example/spillway/spillway/policy/Digester"), (.object "com/example/spillway/spillway/policy/Digester"), (.array (.object "com/example/spillway/spillway/policy/Digester"))]
  resolved := Array.replicate 79 none
  statics := some 0 }

def pool7 : Array CpInfo := pool [(1, u "java/lang/Cloneable"), (0, .class_ 1), (0, u "java/lang/Object"), (0, .class_ 3)] 3

/-- java/lang/Cloneable -/
def k7 : Class := { plain "java/lang/Cloneable" (some 0) with
  accessFlags := 1537
  interfaces := #[]
  cf := some (fileOf pool7 2 #[] #[] 1537 4 #[] #[])
  fields := #[]
  methods := #[]
  instanceTypes := #[]
  staticTypes := #[]
  resolved := Array.replicate 8 none
  statics := none }

/-- the primitive byte -/
def k8 : Class := { plain "byte" none with kind := .primitive 'B', accessFlags := 0x411 }
/-- [B -/
def k9 : Class := { plain "[B" (some 0) with kind := .array 8 .byte, interfaces := #[7, 4], accessFlags := 1041 }

/-- the primitive int -/
def k10 : Class := { plain "int" none with kind := .primitive 'I', accessFlags := 0x411 }
/-- [I -/
def k11 : Class := { plain "[I" (some 0) with kind := .array 10 .int, interfaces := #[7, 4], accessFlags := 1041 }

def heap : Heap := #[{ cls := 6, slots := #[.ref 1, .ref 3, .ref 5, .ref 2, .ref 4, .null], vm := .statics 6 },
  { cls := 6, slots := #[.null, .int 0, .int 0], vm := .none },
  { cls := 6, slots := #[.null, .int 3, .int 0], vm := .none },
  { cls := 6, slots := #[.null, .int 1, .int 0], vm := .none },
  { cls := 6, slots := #[.null, .int 4, .int 0], vm := .none },
  { cls := 6, slots := #[.null, .int 2, .int 0], vm := .none }]
def classes : Array Class := #[k0, k1, k2, k3, k4, k5, k6, k7, k8, k9, k10, k11]
def interned : List (Array UInt16 × Addr) := []
def slotsUsed : Nat := 21
def theMethod : MethodId := ⟨1, 2⟩
def args0 : Array Value := #[.int 5]
def aboutOver (below : List Frame) : State where
  vm := { classes := classes, interned := interned.toArray }
  heap := heap
  slotsUsed := slotsUsed
  threads := #[{ frames := .invoking theMethod args0 :: below }]
def below0 : List Frame := [.native { method := ⟨0, 0⟩, args := #[] }]
def about1 : State := aboutOver below0
def p0 : Program := .bare "" "" ""
def e0 : Env := launch0.env 0 0 0
theorem w_frames : about1.frames = Frame.invoking theMethod args0 :: below0 := rfl
set_option maxRecDepth 65536 in
theorem w_args : argsFit about1.vm theMethod args0 = true := by decide +kernel
set_option maxRecDepth 65536 in
theorem w_heap : heapFits about1 = true := by decide +kernel
set_option maxRecDepth 65536 in
theorem w_runnable : about1.curStatus? = some .runnable := by decide +kernel
set_option maxRecDepth 65536 in
theorem w_alone : about1.alone = true := by decide +kernel
set_option maxRecDepth 65536 in
theorem w_named : about1.methodNamed? x = some theMethod := by decide +kernel
set_option maxRecDepth 65536 in
theorem w_hears : about1.hears theMethod below0 = true := by decide +kernel
set_option maxRecDepth 65536 in
theorem w_ripe : about1.ripe theMethod args0 below0 = true := by decide +kernel
theorem w_running : about1.status = .running := rfl
set_option maxRecDepth 65536 in
theorem w_room : about1.hasRoom e0.platform room_1 = true :=
  launch0.hasRoom_least _ room_1 (by decide +kernel) (by decide +kernel) (by decide +kernel) (by decide +kernel) (by decide +kernel) (by decide +kernel)
theorem allAtoms_all (ts : List Jvm.Cond) (a : Array Jvm.Value) (st : Jvm.State) : (allAtoms ts).before a st = ts.all (fun c => c.before a st) := by
  induction ts with
  | nil => rfl
  | cons c t ih =>
    show (Jvm.Cond.and c (allAtoms t)).before a st = _
    rw [Jvm.Cond.before_and, ih, List.all_cons]
def words1 : List Jvm.Cond := Jvm.Cond.code x code maxLocals ret :: tables_1
/-- a 'code' word, met by the world's own term for the bytes: nothing is compared byte by byte -/
theorem code_word {y : MethodName} {bytes : ByteArray} {mx : Nat} {rt : Option FieldType} {a : Array Value} {s : State} {m : MethodId} {meth : Method} {c : Code} (h1 : s.methodNamed? y = some m) (h2 : s.vm.method? m = some meth) (h3 : meth.code = some c) (h4 : c.code = bytes)
    (h5 : (c.maxLocals == mx && c.exceptionTable.isEmpty && decide (c.maxStack ≤ mostOperands) && decide (meth.sig.returnType = rt) && !meth.locks && decide (parseMethodDescriptor y.desc = some meth.sig)) = true) : (Jvm.Cond.code y bytes mx rt).before a s = true := by
  simp only [Bool.and_eq_true, beq_iff_eq, Bool.not_eq_true', decide_eq_true_eq] at h5
  obtain ⟨⟨⟨⟨⟨g1, g2⟩, g3⟩, g4⟩, g5⟩, g6⟩ := h5
  simp [Cond.before, Cond.holds, Cond.value, h1, h2, h3, h4, g1, g2, g3, g4, g5, g6]
def isCode : Jvm.Cond → Bool
  | .code _ _ _ _ => true
  | _ => false
theorem all_split {L : List Jvm.Cond} {P : Jvm.Cond → Bool} (h1 : L.all (fun c => isCode c || P c) = true) (h2 : ∀ c ∈ L.filter isCode, P c = true) : L.all P = true := by
  refine List.all_eq_true.mpr fun c hc => ?_
  have h := List.all_eq_true.mp h1 c hc
  rcases Bool.eq_false_or_eq_true (isCode c) with hi | hi
  · exact h2 c (List.mem_filter.mpr ⟨hc, hi⟩)
  · simpa [hi] using h
set_option maxRecDepth 65536 in
theorem w_c0 : (Jvm.Cond.code x code maxLocals ret).before args0 about1 = true := code_word (m := ⟨1, 2⟩) (meth := k1m2) (c := k1c2) (by decide +kernel) rfl rfl rfl (by decide +kernel)
set_option maxRecDepth 65536 in
theorem w_c1 : (Jvm.Cond.code ({ cls := "com/example/spillway/spillway/policy/DigesterReadsValuesPinLaw", name := "pick", desc := "(I)Lcom/example/spillway/spillway/policy/Digester;" } : Jvm.MethodName) method_2_code (1 : Nat) (Option.some (Jvm.ClassFile.FieldType.object "com/example/spillway/spillway/policy/Digester"))).before args0 about1 = true := code_word (m := ⟨1, 1⟩) (meth := k1m1) (c := k1c1) (by decide +kernel) rfl rfl rfl (by decide +kernel)
set_option maxRecDepth 65536 in
theorem w_c2 : (Jvm.Cond.code ({ cls := "com/example/spillway/spillway/policy/Digester", name := "readsValues", desc := "()Z" } : Jvm.MethodName) prog_12_method_5_code (1 : Nat) (Option.some Jvm.ClassFile.FieldType.boolean)).before args0 about1 = true := code_word (m := ⟨6, 0⟩) (meth := k6m0) (c := k6c0) (by decide +kernel) rfl rfl rfl (by decide +kernel)
def codes1 : List Jvm.Cond := [Jvm.Cond.code x code maxLocals ret, Jvm.Cond.code ({ cls := "com/example/spillway/spillway/policy/DigesterReadsValuesPinLaw", name := "pick", desc := "(I)Lcom/example/spillway/spillway/policy/Digester;" } : Jvm.MethodName) method_2_code (1 : Nat) (Option.some (Jvm.ClassFile.FieldType.object "com/example/spillway/spillway/policy/Digester")), Jvm.Cond.code ({ cls := "com/example/spillway/spillway/policy/Digester", name := "readsValues", desc := "()Z" } : Jvm.MethodName) prog_12_method_5_code (1 : Nat) (Option.some Jvm.ClassFile.FieldType.boolean)]
set_option maxRecDepth 65536 in
theorem codes_eq : words1.filter isCode = codes1 := rfl
theorem w_codes : ∀ c ∈ words1.filter isCode, c.before args0 about1 = true := by
  rw [codes_eq]
  intro c hc
  simp only [codes1, List.mem_cons, List.not_mem_nil, or_false] at hc
  rcases hc with rfl | rfl | rfl
  · exact w_c0
  · exact w_c1
  · exact w_c2
set_option maxRecDepth 65536 in
theorem w_t1 : words1.all (fun c => isCode c || c.before args0 about1) = true := by decide +kernel
theorem w_tables : (allAtoms (Jvm.Cond.code x code maxLocals ret :: tables_1)).before args0 about1 = true := by
  rw [allAtoms_all]
  show words1.all (fun c => c.before args0 about1) = true
  refine all_split ?_ w_codes
  rw [w_t1]
set_option maxRecDepth 65536 in
theorem w_case : (Jvm.Cond.and given_1 narrow_1).before args0 about1 = true := by decide +kernel
theorem w_applies : (headSpec (Jvm.Cond.code x code maxLocals ret :: tables_1) room_1).applies x e0.platform about1 = true :=
  (Spec.applies_iff w_frames).mpr ⟨w_running, w_runnable, w_alone, w_named, w_hears, w_ripe, w_room, w_tables⟩
theorem atStart : AtStart classFile x code maxLocals ret World_1 tables_1 room_1 Calls_1 rest_1 Pre_1 launch0 p0 e0 about1 theMethod args0 below0 :=
  ⟨lists_1, trivial, launch0.admits_env _ _ _, launch0.least_env, fairChoices_fair.cas, fairChoices_fair.clock, w_frames, w_args, w_heap, w_applies, trivial, trivial, w_case⟩
end start1
theorem witness_1 : WitnessClaimed_1 := ⟨start1.p0, start1.e0, start1.about1, start1.theMethod, start1.args0, start1.below0, start1.atStart⟩
end Jvm.Pilot.@@N@@
